import JvmDerived
import JvmDerived.Pilot.@@N@@Statement
import JvmDerived.Pilot.@@N@@Code
set_option linter.unusedVariables false
set_option linter.unusedSimpArgs false
@@BLOCK:LamKit.lean.txt@@
namespace Jvm.Pilot.@@N@@
open Jvm Jvm.ClassFile Sem Op Lib Jvm.Free Jvm.Stand Jvm.LawKit Jvm.RoadKit Bundle Jvm.Pilot.@@N@@.Jvm.D
/-! the setting of a body's walk, a point of it, and 'it comes to its end' -/
def oCtx (p : Program) (s : State) (m : MethodId) (meth : Method) (c : Code) (Z : State) (own : String) (cb : ByteArray) (ml : Nat) (nm : String) (rt : Option FieldType) (yy : MethodName) : Prop :=
  p.tables.exec = Jvm.exec ∧ Z.WarmedH s.vm ∧ c.code = cb ∧ c.maxLocals = ml ∧ s.vm.findClass own = some m.cls ∧ meth.name = nm ∧ meth.sig.returnType = rt ∧ meth.locks = false ∧ s.methodNamed? yy = some m
def oSt (p : Program) (l : Launch) (e : Env) (R : Room) (s : State) (m : MethodId) (args : Array Value) (below : List Frame) (meth : Method) (c : Code) (Z T : State) (h : Heap) (cells slots : Nat) : Prop :=
  ∃ locs, Stand p l e R s m args below meth c T locs cells slots ∧ T.heap = h ∧ Fr Z.heap.size locs ∧ Ext Z.heap h
def oGoes (p : Program) (e : Env) (below : List Frame) (s Z T : State) (f : JFrame) (Q : Option Value → Heap → Prop) (cl sl : Nat) : Prop :=
  ∃ t o, Steps p.tables e below (T.setTop f) t ∧ t.status = .running ∧ Ended t below o ∧ ∃ v L, o = .returned v ∧ Q v t.heap ∧ Fr Z.heap.size L ∧ Ext Z.heap t.heap ∧ FrameEnd s o t L cl sl
/-- a body's contract: called with 'as' at the heap h0 it returns, and Q says what it leaves -/
def oMet (l : Launch) (Z : State) (y : MethodName) (cb : ByteArray) (ml : Nat) (rt : Option FieldType) (rm : Room) (ws : List Jvm.Cond) (as : Array Value) (h0 : Heap) (Q : Option Value → Heap → Prop) : Prop :=
  Ext Z.heap h0 → MetFree l y (head1 (Jvm.Cond.code y cb ml rt :: ws) rm) (fun a U => a = as ∧ Z.WarmedH U.vm ∧ U.heap = h0) (fun _ _ _ _ _ => True)
    (fun _ U o U' => ∃ v L, o = .returned v ∧ (Q v U'.heap ∧ Fr Z.heap.size L ∧ Ext Z.heap U'.heap) ∧ FrameEnd U o U' L rm.cells rm.slots)
section Own
variable {p : Program} {l : Launch} {e : Env} {R : Room} {s : State} {m : MethodId} {args : Array Value} {below : List Frame} {meth : Method} {c : Code} {Z T : State} {h : Heap} {cells slots cl sl : Nat} {own nm : String} {cb : ByteArray} {yy : MethodName} {ml : Nat} {rt : Option FieldType} {Q : Option Value → Heap → Prop} {L L' : Array Slot} {S : List Value} {pc pc' : Nat} {a0 : Array Value}
theorem oBackL {y : MethodName} {bytes : ByteArray} {maxL : Nat} {ret : Option FieldType} {rm : Room} {len W : Nat} {as' : Array Value} {Q : Option Value → Heap → List Loc → Prop}
    (hM : MetFree l y (head1 [Jvm.Cond.code y bytes maxL ret] rm) (fun a U => a = as' ∧ Z.WarmedH U.vm ∧ U.heap = h) (fun _ _ _ _ _ => True) (fun _ U o U' => ∃ v L, o = .returned v ∧ Q v U'.heap L ∧ FrameEnd U o U' L rm.cells rm.slots))
    (hZ : Z.WarmedH s.vm) (wc : (Jvm.Cond.code y bytes maxL ret).before a0 Z = true) (wz : (Jvm.Cond.initialized y.cls).before a0 Z = true) (hf : rm.frames + 1 ≤ R.frames) (hl : W + (maxL + 11) + rm.locals ≤ R.locals) :
    Back l R p e below s args y len W (fun A a => a = as' ∧ A.U.heap = h ∧ A.cells + rm.cells ≤ R.cells ∧ A.slots + rm.slots ≤ R.slots)
      (fun A _ v B => ∃ L, Q v B.U.heap L ∧ B.locs = A.locs ++ L ∧ B.cells = A.cells + rm.cells ∧ B.slots = A.slots + rm.slots) :=
  Back.of_free (bytes := bytes) (maxL := maxL) (ret := ret) (E := fun _ _ o t L k n => k = rm.cells ∧ n = rm.slots ∧ ∃ v, o = .returned v ∧ Q v t.heap L) hM hf hl
    (fun m meth c A a Y hp => have hU : Z.WarmedH A.U.vm := State.WarmedH.trans hZ Y.warmed
      ⟨by show (Cond.and _ .tt).before a A.U = true; rw [Cond.before_and, mvT hU.wide wc]; rfl, mvT hU.wide wc, mvT hU.wide wz, hp.2.2.1, hp.2.2.2⟩)
    (fun m meth c A a g mk Y hp => ⟨hp.1, State.WarmedH.trans hZ Y.warmed, hp.2.1⟩) (fun _ _ _ _ _ _ _ _ _ => trivial)
    (fun _ _ _ _ ⟨v, L, h1, h2, h3⟩ => ⟨L, _, _, h3, rfl, rfl, v, h1, h2⟩)
    (fun m meth c A a g mk v t L k n Y hp _ _ ⟨e1, e2, v', e3, e4⟩ => by cases e3; subst e1 e2; exact ⟨L, e4, rfl, rfl, rfl⟩)
def vI (z : Int32) : Slot := .val (.int z)
def vR (a : Addr) : Slot := .val (.ref a)
def vN : Slot := .val .null
def uS : Slot := .unset
theorem oLe {b x : Nat} (h : b = x) : x ≤ b := Nat.le_of_eq h.symm
theorem oLz {a b x : Nat} (h1 : a < x) (h2 : x ≤ b) : a ≠ b := Nat.ne_of_lt (Nat.lt_of_lt_of_le h1 h2)
theorem oLn {a b x y : Nat} (h1 : a < x) (h2 : x ≤ y) (h3 : y ≤ b) : a ≠ b := Nat.ne_of_lt (Nat.lt_of_lt_of_le (Nat.lt_of_lt_of_le h1 h2) h3)
theorem oLsz {a b x : Nat} (h1 : a < x) (h2 : x ≤ b) : b ≠ a := Ne.symm (oLz h1 h2)
theorem oLsn {a b x y : Nat} (h1 : a < x) (h2 : x ≤ y) (h3 : y ≤ b) : b ≠ a := Ne.symm (oLn h1 h2 h3)
theorem me0 {α : Type} {a : α} {l : List α} : a ∈ a :: l := List.mem_cons_self
theorem oGoes.go {T' : State} {f f' : JFrame} (g : oGoes p e below s Z T' f' Q cl sl) (st : ∀ t, Steps p.tables e below (T'.setTop f') t → Steps p.tables e below (T.setTop f) t) : oGoes p e below s Z T f Q cl sl := by
  obtain ⟨t, o, h1, r⟩ := g
  exact ⟨t, o, st t h1, r⟩
theorem oSt.mono (X : oSt p l e R s m args below meth c Z T h cells slots) {c' n' : Nat} (hc : cells ≤ c') (hn : slots ≤ n') : oSt p l e R s m args below meth c Z T h c' n' := by
  obtain ⟨locs, X, r⟩ := X
  exact ⟨locs, ⟨X.admits, X.cas, X.clock, X.frames, X.room, X.hears, X.method, X.code, X.here, X.tail, X.warmed, X.limits, X.bytes, X.same.mono hc hn⟩, r⟩
theorem oSt.ext0 (X : oSt p l e R s m args below meth c Z T h cells slots) : Ext Z.heap h := by obtain ⟨_, _, _, _, E⟩ := X; exact E
theorem oExt_wr {h h' : Heap} {a : Addr} {k : Nat} {v : Value} (E : Ext Z.heap h) (W : Wr h h' a k v) (q : Z.heap.size ≤ a) : Ext Z.heap h' :=
  (Old.wr (n0 := Z.heap.size) ⟨rfl, E⟩ W q).2
theorem oExt_trans {h1 h2 h3 : Heap} (E : Ext h1 h2) (E' : Ext h2 h3) : Ext h1 h3 := ⟨Nat.le_trans E.1 E'.1, fun a c q => E'.2 a c (E.2 a c q)⟩
theorem oEnter {y : MethodName} {ws : List Jvm.Cond} {rm : Room} {as : Array Value} {h0 : Heap} (hx : plainFor y = true) (ho : y.cls = own) (hn : y.name = nm) {L : Array Slot} (hf : ∀ m, entryFrame m as ml = mkF m 0 L [])
    (body : ∀ p e s m below meth c T, oCtx p s m meth c Z own cb ml nm rt y → oSt p l e rm s m as below meth c Z T h0 0 0 → oGoes p e below s Z T (mkF m 0 L []) Q rm.cells rm.slots) : oMet l Z y cb ml rt rm ws as h0 Q := by
  intro E
  subst ho hn
  refine MetFree.of_bodySF hx hisR ?_
  intro p e s m args below meth c s₁ Bd hml0 hP hK
  obtain ⟨rfl, hZ, hh⟩ := hP
  have e0 : s₁.heap = h0 := by rw [← hh, Bd.state]; rfl
  obtain ⟨t, o, h1, h2, h3, v, L', h4, h5, h6, h7, h8⟩ := body p e s m below meth c s₁ ⟨Bd.exec, hZ, Bd.bytes, hml0, findClass_of_methodNamed Bd.named, (name_of_methodNamed Bd.named Bd.method).1, Bd.returns, BodyLoose.notSynchronized Bd, Bd.named⟩ ⟨[], Stand.of_body Bd, e0, Fr.nil _, E⟩
  exact ⟨t, o, castTop (hf m) h1, h2, h3, v, L', h4, ⟨h5, h6, h7⟩, h8⟩
theorem oLeave (X : oSt p l e R s m args below meth c Z T h cells slots) (rv : Option Value) (hv : meth.sig.returnType = none → rv = none) (hlk : meth.locks = false) (hQ : Q rv h) (hc : cells ≤ cl) (hs : slots ≤ sl) {f : JFrame}
    (st : ∀ fs, (∀ (f : JFrame) (acts : List Action), f.method = m → f.locked = none → f.entered = [] → (doReturn e (T.setTop f) acts rv).1 = T.setFrames fs) → Steps p.tables e below (T.setTop f) (T.setFrames fs)) : oGoes p e below s Z T f Q cl sl := by
  obtain ⟨locs, X, eT, N, E⟩ := X
  obtain ⟨fs, hr, hrun, hended, hW, hsame⟩ := X.leave (v := rv) hv hlk
  have e2 : (T.setFrames fs).heap = h := eT
  refine ⟨_, _, st fs hr, hrun, hended, _, locs, rfl, ?_, N, ?_, ⟨_, rfl⟩, hW, hsame.mono hc hs⟩
  · rw [e2]; exact hQ
  · rw [e2]; exact E
theorem o_return (K : oCtx p s m meth c Z own cb ml nm rt yy) (X : oSt p l e R s m args below meth c Z T h cells slots) (hd : decode cb pc = .ok (.return_, 1)) (hrt : rt = none) (hQ : Q none h) (hc : cells ≤ cl) (hs : slots ≤ sl) : oGoes p e below s Z T (mkF m pc L []) Q cl sl := by
  refine oLeave X none (fun _ => rfl) K.2.2.2.2.2.2.2.1 hQ hc hs fun fs hr => ?_
  obtain ⟨locs, X, eT, N, E⟩ := X
  exact X.returnOut K.1 (K.2.2.2.2.2.2.1.trans hrt) (hb K.2.2.1 hd) hr
theorem o_ireturnN (K : oCtx p s m meth c Z own cb ml nm rt yy) (X : oSt p l e R s m args below meth c Z T h cells slots) (t : FieldType) {z z' : Int32} (hd : decode cb pc = .ok (.ireturn, 1)) (hrt : rt = some t) (ht : t = .boolean ∨ t = .byte ∨ t = .char ∨ t = .short) (hz : nar t z = z') (hQ : Q (some (.int z')) h) (hc : cells ≤ cl) (hs : slots ≤ sl) : oGoes p e below s Z T (mkF m pc L (.int z :: S)) Q cl sl := by
  subst hz
  have hr0 : meth.sig.returnType = some t := K.2.2.2.2.2.2.1.trans hrt
  refine oLeave X (some (.int (nar t z))) (fun q => by rw [hr0] at q; cases q) K.2.2.2.2.2.2.2.1 hQ hc hs fun fs hr => ?_
  obtain ⟨locs, X, eT, N, E⟩ := X
  exact retN X K.1 (t := t) hr0 ht (hb K.2.2.1 hd) hr
theorem o_ireturn (K : oCtx p s m meth c Z own cb ml nm rt yy) (X : oSt p l e R s m args below meth c Z T h cells slots) {z : Int32} (hd : decode cb pc = .ok (.ireturn, 1)) (hrt : rt = some .int) (hQ : Q (some (.int z)) h) (hc : cells ≤ cl) (hs : slots ≤ sl) : oGoes p e below s Z T (mkF m pc L (.int z :: S)) Q cl sl := by
  have hr0 : meth.sig.returnType = some .int := K.2.2.2.2.2.2.1.trans hrt
  refine oLeave X (some (.int z)) (fun q => by rw [hr0] at q; cases q) K.2.2.2.2.2.2.2.1 hQ hc hs fun fs hl => ?_
  obtain ⟨locs, X, eT, N, E⟩ := X
  have hm' : T.vm.method? m = some meth := X.method'
  have hn : narrow .int (.int z) = .int z := rfl
  have hd' := hb K.2.2.1 hd
  have hx := K.1
  show Steps p.tables e below (T.setTop { method := m, pc := pc, locals := L, stack := _ :: S, locked := none }) _
  jvm_step X.here [X.here.top, hx, hd', hm', hr0, hn]
  first | (intro acts; rw [hl _ acts rfl rfl rfl]) | rw [hl _ _ rfl rfl rfl]
  exact Steps.refl _
theorem o_areturn (K : oCtx p s m meth c Z own cb ml nm rt yy) (X : oSt p l e R s m args below meth c Z T h cells slots) {t : FieldType} {v : Value} (hd : decode cb pc = .ok (.areturn, 1)) (hrt : rt = some t) (ht : t.isReference = true) (hv : v.isRef = true) (hQ : Q (some v) h) (hc : cells ≤ cl) (hs : slots ≤ sl) : oGoes p e below s Z T (mkF m pc L (v :: S)) Q cl sl := by
  have hr0 : meth.sig.returnType = some t := K.2.2.2.2.2.2.1.trans hrt
  refine oLeave X (some v) (fun q => by rw [hr0] at q; cases q) K.2.2.2.2.2.2.2.1 hQ hc hs fun fs hl => ?_
  obtain ⟨locs, X, eT, N, E⟩ := X
  have hm' : T.vm.method? m = some meth := X.method'
  have hd' := hb K.2.2.1 hd
  have hx := K.1
  show Steps p.tables e below (T.setTop { method := m, pc := pc, locals := L, stack := _ :: S, locked := none }) _
  jvm_step X.here [X.here.top, hx, hd', hm', hr0, ht, hv]
  first | (intro acts; rw [hl _ acts rfl rfl rfl]) | rw [hl _ _ rfl rfl rfl]
  exact Steps.refl _
theorem o_iload (K : oCtx p s m meth c Z own cb ml nm rt yy) (X : oSt p l e R s m args below meth c Z T h cells slots) {k : Nat} {v : Int32} (hd : decode cb pc = .ok (.iload k, 2)) (hp : pc + 2 = pc') (hl : L[k]? = some (.val (.int v))) (g : oGoes p e below s Z T (mkF m pc' L (.int v :: S)) Q cl sl) : oGoes p e below s Z T (mkF m pc L S) Q cl sl := by
  obtain ⟨_, X, -⟩ := X
  subst hp
  exact g.go fun t r => XS.iload X.here K.1 rfl (hb K.2.2.1 hd) hl r
theorem o_iloadN (K : oCtx p s m meth c Z own cb ml nm rt yy) (X : oSt p l e R s m args below meth c Z T h cells slots) {k : Fin 4} {v : Int32} (hd : decode cb pc = .ok (.iload_n k, 1)) (hp : pc + 1 = pc') (hl : L[k.val]? = some (.val (.int v))) (g : oGoes p e below s Z T (mkF m pc' L (.int v :: S)) Q cl sl) : oGoes p e below s Z T (mkF m pc L S) Q cl sl := by
  obtain ⟨_, X, -⟩ := X
  subst hp
  exact g.go fun t r => XS.iloadN X.here K.1 rfl (hb K.2.2.1 hd) hl r
theorem o_istore (K : oCtx p s m meth c Z own cb ml nm rt yy) (X : oSt p l e R s m args below meth c Z T h cells slots) {k : Nat} {v : Int32} (hd : decode cb pc = .ok (.istore k, 2)) (hp : pc + 2 = pc') (hl : storeLocals L k (.int v) = some L') (g : oGoes p e below s Z T (mkF m pc' L' S) Q cl sl) : oGoes p e below s Z T (mkF m pc L (.int v :: S)) Q cl sl := by
  obtain ⟨_, X, -⟩ := X
  subst hp
  exact g.go fun t r => XS.istore X.here K.1 rfl (hb K.2.2.1 hd) rfl hl r
theorem o_istoreN (K : oCtx p s m meth c Z own cb ml nm rt yy) (X : oSt p l e R s m args below meth c Z T h cells slots) {k : Fin 4} {v : Int32} (hd : decode cb pc = .ok (.istore_n k, 1)) (hp : pc + 1 = pc') (hl : storeLocals L k.val (.int v) = some L') (g : oGoes p e below s Z T (mkF m pc' L' S) Q cl sl) : oGoes p e below s Z T (mkF m pc L (.int v :: S)) Q cl sl := by
  obtain ⟨_, X, -⟩ := X
  subst hp
  exact g.go fun t r => XS.istoreN X.here K.1 rfl (hb K.2.2.1 hd) rfl hl r
theorem o_aload (K : oCtx p s m meth c Z own cb ml nm rt yy) (X : oSt p l e R s m args below meth c Z T h cells slots) {k : Nat} {v : Value} (hd : decode cb pc = .ok (.aload k, 2)) (hp : pc + 2 = pc') (hl : L[k]? = some (.val v)) (hv : v.isRef = true) (g : oGoes p e below s Z T (mkF m pc' L (v :: S)) Q cl sl) : oGoes p e below s Z T (mkF m pc L S) Q cl sl := by
  obtain ⟨_, X, -⟩ := X
  subst hp
  exact g.go fun t r => XS.aload X.here K.1 rfl (hb K.2.2.1 hd) hl hv r
theorem o_aloadN (K : oCtx p s m meth c Z own cb ml nm rt yy) (X : oSt p l e R s m args below meth c Z T h cells slots) {k : Fin 4} {v : Value} (hd : decode cb pc = .ok (.aload_n k, 1)) (hp : pc + 1 = pc') (hl : L[k.val]? = some (.val v)) (hv : v.isRef = true) (g : oGoes p e below s Z T (mkF m pc' L (v :: S)) Q cl sl) : oGoes p e below s Z T (mkF m pc L S) Q cl sl := by
  obtain ⟨_, X, -⟩ := X
  subst hp
  exact g.go fun t r => XS.aloadN X.here K.1 rfl (hb K.2.2.1 hd) hl hv r
theorem o_astore (K : oCtx p s m meth c Z own cb ml nm rt yy) (X : oSt p l e R s m args below meth c Z T h cells slots) {k : Nat} {v : Value} (hd : decode cb pc = .ok (.astore k, 2)) (hp : pc + 2 = pc') (hv : v.isRef = true) (hl : storeLocals L k v = some L') (g : oGoes p e below s Z T (mkF m pc' L' S) Q cl sl) : oGoes p e below s Z T (mkF m pc L (v :: S)) Q cl sl := by
  obtain ⟨_, X, -⟩ := X
  subst hp
  exact g.go fun t r => XS.astore X.here K.1 rfl (hb K.2.2.1 hd) rfl hv hl r
theorem o_astoreN (K : oCtx p s m meth c Z own cb ml nm rt yy) (X : oSt p l e R s m args below meth c Z T h cells slots) {k : Fin 4} {v : Value} (hd : decode cb pc = .ok (.astore_n k, 1)) (hp : pc + 1 = pc') (hv : v.isRef = true) (hl : storeLocals L k.val v = some L') (g : oGoes p e below s Z T (mkF m pc' L' S) Q cl sl) : oGoes p e below s Z T (mkF m pc L (v :: S)) Q cl sl := by
  obtain ⟨_, X, -⟩ := X
  subst hp
  exact g.go fun t r => XS.astoreN X.here K.1 rfl (hb K.2.2.1 hd) rfl hv hl r
theorem o_iconst (K : oCtx p s m meth c Z own cb ml nm rt yy) (X : oSt p l e R s m args below meth c Z T h cells slots) {i : Int} {z : Int32} (hd : decode cb pc = .ok (.iconst i, 1)) (hp : pc + 1 = pc') (hz : Int32.ofInt i = z) (g : oGoes p e below s Z T (mkF m pc' L (.int z :: S)) Q cl sl) : oGoes p e below s Z T (mkF m pc L S) Q cl sl := by
  obtain ⟨_, X, -⟩ := X
  subst hp
  exact g.go fun t r => XS.iconst X.here K.1 rfl (hb K.2.2.1 hd) (hz ▸ r)
theorem o_bipush (K : oCtx p s m meth c Z own cb ml nm rt yy) (X : oSt p l e R s m args below meth c Z T h cells slots) {i : Int} {z : Int32} (hd : decode cb pc = .ok (.bipush i, 2)) (hp : pc + 2 = pc') (hz : (Int8.ofInt i).toInt32 = z) (g : oGoes p e below s Z T (mkF m pc' L (.int z :: S)) Q cl sl) : oGoes p e below s Z T (mkF m pc L S) Q cl sl := by
  obtain ⟨_, X, -⟩ := X
  subst hp
  exact g.go fun t r => XS.bipush X.here K.1 rfl (hb K.2.2.1 hd) (hz ▸ r)
theorem o_sipush (K : oCtx p s m meth c Z own cb ml nm rt yy) (X : oSt p l e R s m args below meth c Z T h cells slots) {i : Int} {z : Int32} (hd : decode cb pc = .ok (.sipush i, 3)) (hp : pc + 3 = pc') (hz : (Int16.ofInt i).toInt32 = z) (g : oGoes p e below s Z T (mkF m pc' L (.int z :: S)) Q cl sl) : oGoes p e below s Z T (mkF m pc L S) Q cl sl := by
  obtain ⟨_, X, -⟩ := X
  subst hp
  exact g.go fun t r => XS.sipush X.here K.1 rfl (hb K.2.2.1 hd) (hz ▸ r)
theorem o_aconst_null (K : oCtx p s m meth c Z own cb ml nm rt yy) (X : oSt p l e R s m args below meth c Z T h cells slots)  (hd : decode cb pc = .ok (.aconst_null, 1)) (hp : pc + 1 = pc') (g : oGoes p e below s Z T (mkF m pc' L (.null :: S)) Q cl sl) : oGoes p e below s Z T (mkF m pc L S) Q cl sl := by
  obtain ⟨_, X, -⟩ := X
  subst hp
  exact g.go fun t r => XS.aconstNull X.here K.1 rfl (hb K.2.2.1 hd) r
theorem o_iadd (K : oCtx p s m meth c Z own cb ml nm rt yy) (X : oSt p l e R s m args below meth c Z T h cells slots) {x y z : Int32} (hd : decode cb pc = .ok (.iadd, 1)) (hp : pc + 1 = pc') (hz : x + y = z) (g : oGoes p e below s Z T (mkF m pc' L (.int z :: S)) Q cl sl) : oGoes p e below s Z T (mkF m pc L (.int y :: .int x :: S)) Q cl sl := by
  obtain ⟨_, X, -⟩ := X
  subst hp
  exact g.go fun t r => XS.iadd X.here K.1 rfl (hb K.2.2.1 hd) rfl (hz ▸ r)
theorem o_isub (K : oCtx p s m meth c Z own cb ml nm rt yy) (X : oSt p l e R s m args below meth c Z T h cells slots) {x y z : Int32} (hd : decode cb pc = .ok (.isub, 1)) (hp : pc + 1 = pc') (hz : x - y = z) (g : oGoes p e below s Z T (mkF m pc' L (.int z :: S)) Q cl sl) : oGoes p e below s Z T (mkF m pc L (.int y :: .int x :: S)) Q cl sl := by
  obtain ⟨_, X, -⟩ := X
  subst hp
  exact g.go fun t r => XS.isub X.here K.1 rfl (hb K.2.2.1 hd) rfl (hz ▸ r)
theorem o_iand (K : oCtx p s m meth c Z own cb ml nm rt yy) (X : oSt p l e R s m args below meth c Z T h cells slots) {x y z : Int32} (hd : decode cb pc = .ok (.iand, 1)) (hp : pc + 1 = pc') (hz : x &&& y = z) (g : oGoes p e below s Z T (mkF m pc' L (.int z :: S)) Q cl sl) : oGoes p e below s Z T (mkF m pc L (.int y :: .int x :: S)) Q cl sl := by
  obtain ⟨_, X, -⟩ := X
  subst hp
  exact g.go fun t r => XS.iand X.here K.1 rfl (hb K.2.2.1 hd) rfl (hz ▸ r)
theorem o_ishr (K : oCtx p s m meth c Z own cb ml nm rt yy) (X : oSt p l e R s m args below meth c Z T h cells slots) {x y z : Int32} (hd : decode cb pc = .ok (.ishr, 1)) (hp : pc + 1 = pc') (hz : x >>> (y &&& 31) = z) (g : oGoes p e below s Z T (mkF m pc' L (.int z :: S)) Q cl sl) : oGoes p e below s Z T (mkF m pc L (.int y :: .int x :: S)) Q cl sl := by
  obtain ⟨_, X, -⟩ := X
  subst hp
  exact g.go fun t r => XS.ishr X.here K.1 rfl (hb K.2.2.1 hd) rfl (hz ▸ r)
theorem o_iushr (K : oCtx p s m meth c Z own cb ml nm rt yy) (X : oSt p l e R s m args below meth c Z T h cells slots) {x y z : Int32} (hd : decode cb pc = .ok (.iushr, 1)) (hp : pc + 1 = pc') (hz : (x.toUInt32 >>> (y &&& 31).toUInt32).toInt32 = z) (g : oGoes p e below s Z T (mkF m pc' L (.int z :: S)) Q cl sl) : oGoes p e below s Z T (mkF m pc L (.int y :: .int x :: S)) Q cl sl := by
  obtain ⟨_, X, -⟩ := X
  subst hp
  exact g.go fun t r => XS.iushr X.here K.1 rfl (hb K.2.2.1 hd) rfl (hz ▸ r)
theorem o_i2b (K : oCtx p s m meth c Z own cb ml nm rt yy) (X : oSt p l e R s m args below meth c Z T h cells slots) {x : Int32} {z : Int32} (hd : decode cb pc = .ok (.i2b, 1)) (hp : pc + 1 = pc') (hz : x.toInt8.toInt32 = z) (g : oGoes p e below s Z T (mkF m pc' L (.int z :: S)) Q cl sl) : oGoes p e below s Z T (mkF m pc L (.int x :: S)) Q cl sl := by
  obtain ⟨_, X, -⟩ := X
  subst hp
  exact g.go fun t r => XS.i2b X.here K.1 rfl (hb K.2.2.1 hd) rfl (hz ▸ r)
theorem o_i2c (K : oCtx p s m meth c Z own cb ml nm rt yy) (X : oSt p l e R s m args below meth c Z T h cells slots) {x : Int32} {z : Int32} (hd : decode cb pc = .ok (.i2c, 1)) (hp : pc + 1 = pc') (hz : x.toUInt32.toUInt16.toUInt32.toInt32 = z) (g : oGoes p e below s Z T (mkF m pc' L (.int z :: S)) Q cl sl) : oGoes p e below s Z T (mkF m pc L (.int x :: S)) Q cl sl := by
  obtain ⟨_, X, -⟩ := X
  subst hp
  exact g.go fun t r => XS.i2c X.here K.1 rfl (hb K.2.2.1 hd) rfl (hz ▸ r)
theorem o_irem (K : oCtx p s m meth c Z own cb ml nm rt yy) (X : oSt p l e R s m args below meth c Z T h cells slots) {x y z : Int32} (hd : decode cb pc = .ok (.irem, 1)) (hp : pc + 1 = pc') (hy : y ≠ 0) (hz : x % y = z) (g : oGoes p e below s Z T (mkF m pc' L (.int z :: S)) Q cl sl) : oGoes p e below s Z T (mkF m pc L (.int y :: .int x :: S)) Q cl sl := by
  obtain ⟨_, X, -⟩ := X
  subst hp
  exact g.go fun t r => Jvm.RoadKit.iremM (g := mkF m pc L (.int y :: .int x :: S)) X K.1 rfl (hb K.2.2.1 hd) rfl hy (hz ▸ r)
theorem o_iinc (K : oCtx p s m meth c Z own cb ml nm rt yy) (X : oSt p l e R s m args below meth c Z T h cells slots) {k : Nat} {i : Int} {x : Int32} (hd : decode cb pc = .ok (.iinc k i, 3)) (hp : pc + 3 = pc') (hl : L[k]? = some (.val (.int x))) (hl' : storeLocals L k (.int (x + Int32.ofInt i)) = some L') (g : oGoes p e below s Z T (mkF m pc' L' S) Q cl sl) : oGoes p e below s Z T (mkF m pc L S) Q cl sl := by
  obtain ⟨_, X, -⟩ := X
  subst hp
  exact g.go fun t r => XS.iinc X.here K.1 rfl (hb K.2.2.1 hd) hl hl' r
theorem o_dup (K : oCtx p s m meth c Z own cb ml nm rt yy) (X : oSt p l e R s m args below meth c Z T h cells slots) {v : Value} (hd : decode cb pc = .ok (.dup, 1)) (hp : pc + 1 = pc') (hc : v.category = 1) (g : oGoes p e below s Z T (mkF m pc' L (v :: v :: S)) Q cl sl) : oGoes p e below s Z T (mkF m pc L (v :: S)) Q cl sl := by
  obtain ⟨_, X, -⟩ := X
  subst hp
  exact g.go fun t r => XS.dup X.here K.1 rfl (hb K.2.2.1 hd) rfl hc r
theorem o_pop (K : oCtx p s m meth c Z own cb ml nm rt yy) (X : oSt p l e R s m args below meth c Z T h cells slots) {v : Value} (hd : decode cb pc = .ok (.pop, 1)) (hp : pc + 1 = pc') (hc : v.category = 1) (g : oGoes p e below s Z T (mkF m pc' L S) Q cl sl) : oGoes p e below s Z T (mkF m pc L (v :: S)) Q cl sl := by
  obtain ⟨_, X, -⟩ := X
  subst hp
  exact g.go fun t r => XS.pop X.here K.1 rfl (hb K.2.2.1 hd) rfl hc r
theorem o_goto (K : oCtx p s m meth c Z own cb ml nm rt yy) (X : oSt p l e R s m args below meth c Z T h cells slots) {o : Int} (hd : decode cb pc = .ok (.goto o, 3)) (ho : 0 ≤ (pc : Int) + o) (hp : ((pc : Int) + o).toNat = pc') (g : oGoes p e below s Z T (mkF m pc' L S) Q cl sl) : oGoes p e below s Z T (mkF m pc L S) Q cl sl := by
  obtain ⟨_, X, -⟩ := X
  exact g.go fun t r => XS.goto X.here K.1 rfl (pc0 := pc) rfl (hb K.2.2.1 hd) ho hp r
theorem o_icmp_lt_t (K : oCtx p s m meth c Z own cb ml nm rt yy) (X : oSt p l e R s m args below meth c Z T h cells slots) {x y : Int32} {o : Int} (hd : decode cb pc = .ok (.if_icmp .lt o, 3)) (ho : 0 ≤ (pc : Int) + o) (hp : ((pc : Int) + o).toNat = pc') (hc : x < y) (g : oGoes p e below s Z T (mkF m pc' L S) Q cl sl) : oGoes p e below s Z T (mkF m pc L (.int y :: .int x :: S)) Q cl sl := by
  obtain ⟨_, X, -⟩ := X
  exact g.go fun t r => XS.icmpYes X.here K.1 rfl (pc0 := pc) rfl (hb K.2.2.1 hd) rfl (tlt hc).1 ho hp r
theorem o_icmp_lt_f (K : oCtx p s m meth c Z own cb ml nm rt yy) (X : oSt p l e R s m args below meth c Z T h cells slots) {x y : Int32} {o : Int} (hd : decode cb pc = .ok (.if_icmp .lt o, 3)) (hp : pc + 3 = pc') (hc : ¬ x < y) (g : oGoes p e below s Z T (mkF m pc' L S) Q cl sl) : oGoes p e below s Z T (mkF m pc L (.int y :: .int x :: S)) Q cl sl := by
  obtain ⟨_, X, -⟩ := X
  subst hp
  exact g.go fun t r => XS.icmpNo X.here K.1 rfl (hb K.2.2.1 hd) rfl (flt hc).1 r
theorem o_if_lt_f (K : oCtx p s m meth c Z own cb ml nm rt yy) (X : oSt p l e R s m args below meth c Z T h cells slots) {x : Int32} {o : Int} (hd : decode cb pc = .ok (.ifCond .lt o, 3)) (hp : pc + 3 = pc') (hc : ¬ x < 0) (g : oGoes p e below s Z T (mkF m pc' L S) Q cl sl) : oGoes p e below s Z T (mkF m pc L (.int x :: S)) Q cl sl := by
  obtain ⟨_, X, -⟩ := X
  subst hp
  exact g.go fun t r => XS.ifNo X.here K.1 rfl (hb K.2.2.1 hd) rfl ((if0 _ _).trans (flt hc).1) r
theorem o_icmp_ge_t (K : oCtx p s m meth c Z own cb ml nm rt yy) (X : oSt p l e R s m args below meth c Z T h cells slots) {x y : Int32} {o : Int} (hd : decode cb pc = .ok (.if_icmp .ge o, 3)) (ho : 0 ≤ (pc : Int) + o) (hp : ((pc : Int) + o).toNat = pc') (hc : ¬ x < y) (g : oGoes p e below s Z T (mkF m pc' L S) Q cl sl) : oGoes p e below s Z T (mkF m pc L (.int y :: .int x :: S)) Q cl sl := by
  obtain ⟨_, X, -⟩ := X
  exact g.go fun t r => XS.icmpYes X.here K.1 rfl (pc0 := pc) rfl (hb K.2.2.1 hd) rfl (flt hc).2.1 ho hp r
theorem o_icmp_ge_f (K : oCtx p s m meth c Z own cb ml nm rt yy) (X : oSt p l e R s m args below meth c Z T h cells slots) {x y : Int32} {o : Int} (hd : decode cb pc = .ok (.if_icmp .ge o, 3)) (hp : pc + 3 = pc') (hc : x < y) (g : oGoes p e below s Z T (mkF m pc' L S) Q cl sl) : oGoes p e below s Z T (mkF m pc L (.int y :: .int x :: S)) Q cl sl := by
  obtain ⟨_, X, -⟩ := X
  subst hp
  exact g.go fun t r => XS.icmpNo X.here K.1 rfl (hb K.2.2.1 hd) rfl (tlt hc).2.1 r
theorem o_icmp_le_t (K : oCtx p s m meth c Z own cb ml nm rt yy) (X : oSt p l e R s m args below meth c Z T h cells slots) {x y : Int32} {o : Int} (hd : decode cb pc = .ok (.if_icmp .le o, 3)) (ho : 0 ≤ (pc : Int) + o) (hp : ((pc : Int) + o).toNat = pc') (hc : ¬ y < x) (g : oGoes p e below s Z T (mkF m pc' L S) Q cl sl) : oGoes p e below s Z T (mkF m pc L (.int y :: .int x :: S)) Q cl sl := by
  obtain ⟨_, X, -⟩ := X
  exact g.go fun t r => XS.icmpYes X.here K.1 rfl (pc0 := pc) rfl (hb K.2.2.1 hd) rfl (flt hc).2.2.2 ho hp r
theorem o_icmp_le_f (K : oCtx p s m meth c Z own cb ml nm rt yy) (X : oSt p l e R s m args below meth c Z T h cells slots) {x y : Int32} {o : Int} (hd : decode cb pc = .ok (.if_icmp .le o, 3)) (hp : pc + 3 = pc') (hc : y < x) (g : oGoes p e below s Z T (mkF m pc' L S) Q cl sl) : oGoes p e below s Z T (mkF m pc L (.int y :: .int x :: S)) Q cl sl := by
  obtain ⟨_, X, -⟩ := X
  subst hp
  exact g.go fun t r => XS.icmpNo X.here K.1 rfl (hb K.2.2.1 hd) rfl (tlt hc).2.2.2 r
theorem o_icmp_eq_t (K : oCtx p s m meth c Z own cb ml nm rt yy) (X : oSt p l e R s m args below meth c Z T h cells slots) {x y : Int32} {o : Int} (hd : decode cb pc = .ok (.if_icmp .eq o, 3)) (ho : 0 ≤ (pc : Int) + o) (hp : ((pc : Int) + o).toNat = pc') (hc : x = y) (g : oGoes p e below s Z T (mkF m pc' L S) Q cl sl) : oGoes p e below s Z T (mkF m pc L (.int y :: .int x :: S)) Q cl sl := by
  obtain ⟨_, X, -⟩ := X
  exact g.go fun t r => XS.icmpYes X.here K.1 rfl (pc0 := pc) rfl (hb K.2.2.1 hd) rfl (teq hc).1 ho hp r
theorem o_if_eq_t (K : oCtx p s m meth c Z own cb ml nm rt yy) (X : oSt p l e R s m args below meth c Z T h cells slots) {x : Int32} {o : Int} (hd : decode cb pc = .ok (.ifCond .eq o, 3)) (ho : 0 ≤ (pc : Int) + o) (hp : ((pc : Int) + o).toNat = pc') (hc : x = 0) (g : oGoes p e below s Z T (mkF m pc' L S) Q cl sl) : oGoes p e below s Z T (mkF m pc L (.int x :: S)) Q cl sl := by
  obtain ⟨_, X, -⟩ := X
  exact g.go fun t r => XS.ifYes X.here K.1 rfl (pc0 := pc) rfl (hb K.2.2.1 hd) rfl ((if0 _ _).trans (teq hc).1) ho hp r
theorem o_icmp_eq_f (K : oCtx p s m meth c Z own cb ml nm rt yy) (X : oSt p l e R s m args below meth c Z T h cells slots) {x y : Int32} {o : Int} (hd : decode cb pc = .ok (.if_icmp .eq o, 3)) (hp : pc + 3 = pc') (hc : ¬ x = y) (g : oGoes p e below s Z T (mkF m pc' L S) Q cl sl) : oGoes p e below s Z T (mkF m pc L (.int y :: .int x :: S)) Q cl sl := by
  obtain ⟨_, X, -⟩ := X
  subst hp
  exact g.go fun t r => XS.icmpNo X.here K.1 rfl (hb K.2.2.1 hd) rfl (feq hc).1 r
theorem o_if_eq_f (K : oCtx p s m meth c Z own cb ml nm rt yy) (X : oSt p l e R s m args below meth c Z T h cells slots) {x : Int32} {o : Int} (hd : decode cb pc = .ok (.ifCond .eq o, 3)) (hp : pc + 3 = pc') (hc : ¬ x = 0) (g : oGoes p e below s Z T (mkF m pc' L S) Q cl sl) : oGoes p e below s Z T (mkF m pc L (.int x :: S)) Q cl sl := by
  obtain ⟨_, X, -⟩ := X
  subst hp
  exact g.go fun t r => XS.ifNo X.here K.1 rfl (hb K.2.2.1 hd) rfl ((if0 _ _).trans (feq hc).1) r
theorem o_icmp_ne_t (K : oCtx p s m meth c Z own cb ml nm rt yy) (X : oSt p l e R s m args below meth c Z T h cells slots) {x y : Int32} {o : Int} (hd : decode cb pc = .ok (.if_icmp .ne o, 3)) (ho : 0 ≤ (pc : Int) + o) (hp : ((pc : Int) + o).toNat = pc') (hc : ¬ x = y) (g : oGoes p e below s Z T (mkF m pc' L S) Q cl sl) : oGoes p e below s Z T (mkF m pc L (.int y :: .int x :: S)) Q cl sl := by
  obtain ⟨_, X, -⟩ := X
  exact g.go fun t r => XS.icmpYes X.here K.1 rfl (pc0 := pc) rfl (hb K.2.2.1 hd) rfl (feq hc).2 ho hp r
theorem o_if_ne_t (K : oCtx p s m meth c Z own cb ml nm rt yy) (X : oSt p l e R s m args below meth c Z T h cells slots) {x : Int32} {o : Int} (hd : decode cb pc = .ok (.ifCond .ne o, 3)) (ho : 0 ≤ (pc : Int) + o) (hp : ((pc : Int) + o).toNat = pc') (hc : ¬ x = 0) (g : oGoes p e below s Z T (mkF m pc' L S) Q cl sl) : oGoes p e below s Z T (mkF m pc L (.int x :: S)) Q cl sl := by
  obtain ⟨_, X, -⟩ := X
  exact g.go fun t r => XS.ifYes X.here K.1 rfl (pc0 := pc) rfl (hb K.2.2.1 hd) rfl ((if0 _ _).trans (feq hc).2) ho hp r
theorem o_icmp_ne_f (K : oCtx p s m meth c Z own cb ml nm rt yy) (X : oSt p l e R s m args below meth c Z T h cells slots) {x y : Int32} {o : Int} (hd : decode cb pc = .ok (.if_icmp .ne o, 3)) (hp : pc + 3 = pc') (hc : x = y) (g : oGoes p e below s Z T (mkF m pc' L S) Q cl sl) : oGoes p e below s Z T (mkF m pc L (.int y :: .int x :: S)) Q cl sl := by
  obtain ⟨_, X, -⟩ := X
  subst hp
  exact g.go fun t r => XS.icmpNo X.here K.1 rfl (hb K.2.2.1 hd) rfl (teq hc).2 r
theorem o_if_ne_f (K : oCtx p s m meth c Z own cb ml nm rt yy) (X : oSt p l e R s m args below meth c Z T h cells slots) {x : Int32} {o : Int} (hd : decode cb pc = .ok (.ifCond .ne o, 3)) (hp : pc + 3 = pc') (hc : x = 0) (g : oGoes p e below s Z T (mkF m pc' L S) Q cl sl) : oGoes p e below s Z T (mkF m pc L (.int x :: S)) Q cl sl := by
  obtain ⟨_, X, -⟩ := X
  subst hp
  exact g.go fun t r => XS.ifNo X.here K.1 rfl (hb K.2.2.1 hd) rfl ((if0 _ _).trans (teq hc).2) r
theorem o_ifnull_f (K : oCtx p s m meth c Z own cb ml nm rt yy) (X : oSt p l e R s m args below meth c Z T h cells slots) {b : Addr} {o : Int} (hd : decode cb pc = .ok (.ifnull o, 3)) (hp : pc + 3 = pc') (g : oGoes p e below s Z T (mkF m pc' L S) Q cl sl) : oGoes p e below s Z T (mkF m pc L (.ref b :: S)) Q cl sl := by
  obtain ⟨_, X, -⟩ := X
  subst hp
  exact g.go fun t r => XS.ifnullNo X.here K.1 rfl (hb K.2.2.1 hd) rfl r
theorem o_acmp (K : oCtx p s m meth c Z own cb ml nm rt yy) (X : oSt p l e R s m args below meth c Z T h cells slots) {cd : ACond} {x y : Value} {o : Int} (same : Bool) (hd : decode cb pc = .ok (.if_acmp cd o, 3)) (ho : 0 ≤ (pc : Int) + o) (h1 : x.isRef = true) (h2 : y.isRef = true) (hq : decide (x = y) = same) (hp : pc' = if acV cd same = true then ((pc : Int) + o).toNat else pc + 3) (g : oGoes p e below s Z T (mkF m pc' L S) Q cl sl) : oGoes p e below s Z T (mkF m pc L (y :: x :: S)) Q cl sl := by
  obtain ⟨_, X, -⟩ := X
  exact g.go fun t r => Jvm.RoadKit.acmp (g := mkF m pc L (y :: x :: S)) X K.1 rfl h1 h2 (pc0 := pc) rfl (hb K.2.2.1 hd) rfl hq ho hp r
theorem o_getfield (K : oCtx p s m meth c Z own cb ml nm rt yy) (X : oSt p l e R s m args below meth c Z T h cells slots) {R0 O n d host : String} {index : Nat} {a : Addr} {v : Value} (w : (Jvm.Cond.fieldLink own index R0 n d).before a0 Z = true ∨ (Jvm.Cond.fieldLinkNest own index R0 n d host).before a0 Z = true) (via : Via Z R0 O n d) (F : Fld Z h a O n d v) (hd : decode cb pc = .ok (.getfield index, 3)) (hp : pc + 3 = pc')
    (g : ∀ T', oSt p l e R s m args below meth c Z T' h cells slots → oGoes p e below s Z T' (mkF m pc' L (v :: S)) Q cl sl) : oGoes p e below s Z T (mkF m pc L (.ref a :: S)) Q cl sl := by
  obtain ⟨locs, X, eT, N, E⟩ := X
  subst hp
  obtain ⟨T', X', e', st⟩ := getF X K.1 K.2.1.wide K.2.2.2.2.1 w via eT F (g := mkF m pc L (.ref a :: S)) rfl rfl (hb K.2.2.1 hd)
  exact (g T' ⟨locs, X', e', N, E⟩).go st
theorem o_getstatic (K : oCtx p s m meth c Z own cb ml nm rt yy) (X : oSt p l e R s m args below meth c Z T h cells slots) {R0 O n d host : String} {index : Nat} {v : Value} (w : (Jvm.Cond.fieldLink own index R0 n d).before a0 Z = true ∨ (Jvm.Cond.fieldLinkNest own index R0 n d host).before a0 Z = true) (via : Via Z R0 O n d) (F : Sta Z h O n d v) (hd : decode cb pc = .ok (.getstatic index, 3)) (hp : pc + 3 = pc')
    (g : ∀ T', oSt p l e R s m args below meth c Z T' h cells slots → oGoes p e below s Z T' (mkF m pc' L (v :: S)) Q cl sl) : oGoes p e below s Z T (mkF m pc L S) Q cl sl := by
  obtain ⟨locs, X, eT, N, E⟩ := X
  subst hp
  obtain ⟨T', X', e', st⟩ := getS2 X K.1 K.2.1.wide K.2.2.2.2.1 w via eT F (g := mkF m pc L S) rfl (hb K.2.2.1 hd)
  exact (g T' ⟨locs, X', e', N, E⟩).go st
theorem o_putfield (K : oCtx p s m meth c Z own cb ml nm rt yy) (X : oSt p l e R s m args below meth c Z T h cells slots) {R0 O n d host C : String} {index kk : Nat} {ty : FieldType} {a : Addr} {v old : Value} (w : (Jvm.Cond.fieldLink own index R0 n d).before a0 Z = true ∨ (Jvm.Cond.fieldLinkNest own index R0 n d host).before a0 Z = true) (via : Via Z R0 O n d) (F : Fld Z h a O n d old) (Ex : Exa Z h a C) (Lz : (Jvm.Cond.lays C O n d).before a0 Z = true ∨ ((Jvm.Cond.laysFinal C O n d).before a0 Z = true ∧ own = O ∧ nm = "<init>")) (wi : (Jvm.Cond.instantiable C kk).before a0 Z = true) (hty : parseFieldDescriptor d = some ty) (hn : narrow ty v = v) (hf : fits ty v = true) (hza : Z.heap.size ≤ a) (hd : decode cb pc = .ok (.putfield index, 3)) (hp : pc + 3 = pc')
    (g : ∀ T' h', oSt p l e R s m args below meth c Z T' h' cells slots → Wr h h' a (Jvm.RoadKit.slotOf Z O n d) v → oGoes p e below s Z T' (mkF m pc' L S) Q cl sl) : oGoes p e below s Z T (mkF m pc L (v :: .ref a :: S)) Q cl sl := by
  obtain ⟨locs, X, eT, N, E⟩ := X
  subst hp
  obtain ⟨T', h', X', e', W, st⟩ := putF X K.1 K.2.1.wide K.2.2.2.2.1 w via eT F Ex (Lz.imp id fun q => ⟨q.1, q.2.1, K.2.2.2.2.2.1.trans q.2.2⟩) wi hty hn hf (g := mkF m pc L (v :: .ref a :: S)) rfl rfl (hb K.2.2.1 hd)
  exact (g T' h' ⟨_, X', e', Fr.snoc X' N hza, oExt_wr E W hza⟩ W).go st
theorem o_putfieldN (K : oCtx p s m meth c Z own cb ml nm rt yy) (X : oSt p l e R s m args below meth c Z T h cells slots) {R0 O n d C : String} {index kk : Nat} {ty : FieldType} {a : Addr} {v v' old : Value} (w : (Jvm.Cond.fieldLink own index R0 n d).before a0 Z = true) (via : Via Z R0 O n d) (F : Fld Z h a O n d old) (Ex : Exa Z h a C) (Lz : (Jvm.Cond.lays C O n d).before a0 Z = true ∨ ((Jvm.Cond.laysFinal C O n d).before a0 Z = true ∧ own = O ∧ nm = "<init>")) (wi : (Jvm.Cond.instantiable C kk).before a0 Z = true) (hty : parseFieldDescriptor d = some ty) (hn : narrow ty v = v') (hf : fits ty v' = true) (hza : Z.heap.size ≤ a) (hd : decode cb pc = .ok (.putfield index, 3)) (hp : pc + 3 = pc')
    (g : ∀ T' h', oSt p l e R s m args below meth c Z T' h' cells slots → Wr h h' a (Jvm.RoadKit.slotOf Z O n d) v' → oGoes p e below s Z T' (mkF m pc' L S) Q cl sl) : oGoes p e below s Z T (mkF m pc L (v :: .ref a :: S)) Q cl sl := by
  obtain ⟨locs, X, eT, N, E⟩ := X
  subst hp
  obtain ⟨T', h', X', e', W, st⟩ := putFN X K.1 K.2.1.wide K.2.2.2.2.1 w via eT F Ex (Lz.imp id fun q => ⟨q.1, q.2.1, K.2.2.2.2.2.1.trans q.2.2⟩) wi hty hn hf (g := mkF m pc L (v :: .ref a :: S)) rfl rfl (hb K.2.2.1 hd)
  exact (g T' h' ⟨_, X', e', Fr.snoc X' N hza, oExt_wr E W hza⟩ W).go st
theorem o_new (K : oCtx p s m meth c Z own cb ml nm rt yy) (X : oSt p l e R s m args below meth c Z T h cells slots) {C : String} {index n : Nat} (w : (Jvm.Cond.classLink own index C).before a0 Z = true) (wi : (Jvm.Cond.instantiable C n).before a0 Z = true) (wz : (Jvm.Cond.initialized C).before a0 Z = true) (hd : decode cb pc = .ok (.new index, 3)) (hp : pc + 3 = pc') (hc : cells + 1 ≤ R.cells) (hl : slots + n ≤ R.slots)
    (g : ∀ T' h' b, oSt p l e R s m args below meth c Z T' h' (cells + 1) (slots + n) → b = h.size → Ext h h' → Exa Z h' b C → (∀ {O nm d : String} {ty : FieldType}, Laid Z a0 C O nm d → parseFieldDescriptor d = some ty → Fld Z h' b O nm d (defaultValue ty)) → Z.heap.size ≤ b → oGoes p e below s Z T' (mkF m pc' L (.ref b :: S)) Q cl sl) : oGoes p e below s Z T (mkF m pc L S) Q cl sl := by
  obtain ⟨locs, X, eT, N, E⟩ := X
  subst hp
  obtain ⟨T', h', X', e', E', A, D, -, st⟩ := newO X K.1 K.2.1.wide K.2.2.2.2.1 w wi wz eT (g := mkF m pc L S) rfl (hb K.2.2.1 hd) hc hl
  exact (g T' h' h.size ⟨_, X', e', N, oExt_trans E E'⟩ rfl E' A D E.1).go st
theorem o_initObj (K : oCtx p s m meth c Z own cb ml nm rt yy) (X : oSt p l e R s m args below meth c Z T h cells slots) {index : Nat} {a : Addr} (w1 : (Jvm.Cond.methodLink own index Lib.objectInit).before a0 Z = true) (w2 : (Jvm.Cond.instanceMethod Lib.objectInit).before a0 Z = true) (w3 : (Jvm.Cond.code Lib.objectInit ⟨#[0xb1]⟩ 1 none).before a0 Z = true) (hd : decode cb pc = .ok (.invokespecial index, 3)) (hp : pc + 3 = pc') (hsz : L.size = ml) (hf : 1 ≤ R.frames) {W : Nat} (hW : (S.map fun v => v.category).sum = W) (hl : W + 12 ≤ R.locals)
    (g : ∀ T', oSt p l e R s m args below meth c Z T' h cells slots → oGoes p e below s Z T' (mkF m pc' L S) Q cl sl) : oGoes p e below s Z T (mkF m pc L (.ref a :: S)) Q cl sl := by
  obtain ⟨locs, X, eT, N, E⟩ := X
  subst hp
  obtain ⟨T', X', e', st⟩ := initO X K.1 K.2.1.wide K.2.2.2.2.1 w1 w2 w3 eT (g := mkF m pc L (.ref a :: S)) rfl (by show L.size = _; rw [K.2.2.2.1]; exact hsz) rfl (hb K.2.2.1 hd) hf (W := W) (by show 2 * 0 + _ ≤ _; omega) hl
  exact (g T' ⟨_, X', e', N, E⟩).go st
theorem o_static (K : oCtx p s m meth c Z own cb ml nm rt yy) (X : oSt p l e R s m args below meth c Z T h cells slots) {index : Nat} {y : MethodName} {bs : ByteArray} {mx : Nat} {rc : Option FieldType} {rm : Room} {as : Array Value} {Qc : Option Value → Heap → Prop} (w1 : (Jvm.Cond.methodLink own index y).before a0 Z = true) (w2 : (Jvm.Cond.static y).before a0 Z = true) (wz : (Jvm.Cond.initialized y.cls).before a0 Z = true) (wc : (Jvm.Cond.code y bs mx rc).before a0 Z = true) (hy : y.cls ≠ "java/lang/invoke/MethodHandle" ∧ y.cls ≠ "java/lang/invoke/VarHandle")
    (hM : oMet l Z y bs mx rc rm [] as h Qc) (hf : rm.frames + 1 ≤ R.frames) (hsz : L.size = ml) {argsL : List Value} (has : argsL.toArray = as) (hlen : ∀ sig, parseMethodDescriptor y.desc = some sig → argsL.length = sig.parameters.length) {W : Nat} (hW : (S.map fun v => v.category).sum = W) (hl : W + (mx + 11) + rm.locals ≤ R.locals) (hc : cells + rm.cells ≤ R.cells) (hs : slots + rm.slots ≤ R.slots) (hd : decode cb pc = .ok (.invokestatic index, 3)) (hp : pc + 3 = pc') (g : ∀ v T' h', oSt p l e R s m args below meth c Z T' h' (cells + rm.cells) (slots + rm.slots) → Qc v h' → oGoes p e below s Z T' (mkF m pc' L (v.toList ++ S)) Q cl sl) : oGoes p e below s Z T (mkF m pc L (argsL.reverse ++ S)) Q cl sl := by
  obtain ⟨locs, X, eT, N, E⟩ := X
  subst hp
  obtain ⟨v, _, ⟨T', L1, k1, n1⟩, -, X', ⟨Lc, hQ, l1, y1, z1⟩, st⟩ := Jvm.LawKit.callS X K.1 (y := y) K.2.2.2.2.1 (mvT K.2.1.wide w1) (mvT K.2.1.wide w2) (mvT K.2.1.wide wz) (mvT K.2.1.wide wc) hy (oBackL (W := W) (Q := fun v h L => Qc v h ∧ Fr Z.heap.size L ∧ Ext Z.heap h) (hM E) K.2.1 wc wz hf hl) (g := mkF m pc L (argsL.reverse ++ S)) rfl (by show L.size = _; rw [K.2.2.2.1]; exact hsz) (argsL := argsL) (rest := S) hlen rfl (by show 2 * 0 + _ ≤ _; omega) (hb K.2.2.1 hd) (fun _ _ => ⟨has, eT, hc, hs⟩)
  dsimp only [Pt.U, Pt.locs, Pt.cells, Pt.slots] at X' l1 y1 z1 st hQ
  subst l1 y1 z1
  exact (g v T' _ ⟨_, X', rfl, Fr.app N hQ.2.1, hQ.2.2⟩ hQ.1).go st
theorem o_special (K : oCtx p s m meth c Z own cb ml nm rt yy) (X : oSt p l e R s m args below meth c Z T h cells slots) {index : Nat} {y : MethodName} {a : Addr} {bs : ByteArray} {mx : Nat} {rm : Room} {as : Array Value} {Qc : Option Value → Heap → Prop} (hy1 : y.name = "<init>") (w1 : (Jvm.Cond.methodLink own index y).before a0 Z = true) (w2 : (Jvm.Cond.instanceMethod y).before a0 Z = true) (wz : (Jvm.Cond.initialized y.cls).before a0 Z = true) (wc : (Jvm.Cond.code y bs mx none).before a0 Z = true) (hy : y.cls ≠ "java/lang/invoke/MethodHandle" ∧ y.cls ≠ "java/lang/invoke/VarHandle")
    (hM : oMet l Z y bs mx none rm [] as h Qc) (hf : rm.frames + 1 ≤ R.frames) (hsz : L.size = ml) {argsL : List Value} (has : (Value.ref a :: argsL).toArray = as) (hlen : ∀ sig, parseMethodDescriptor y.desc = some sig → argsL.length = sig.parameters.length) {W : Nat} (hW : (S.map fun v => v.category).sum = W) (hl : W + (mx + 11) + rm.locals ≤ R.locals) (hc : cells + rm.cells ≤ R.cells) (hs : slots + rm.slots ≤ R.slots) (hd : decode cb pc = .ok (.invokespecial index, 3)) (hp : pc + 3 = pc') (g : ∀ v T' h', oSt p l e R s m args below meth c Z T' h' (cells + rm.cells) (slots + rm.slots) → Qc v h' → oGoes p e below s Z T' (mkF m pc' L (v.toList ++ S)) Q cl sl) : oGoes p e below s Z T (mkF m pc L (argsL.reverse ++ .ref a :: S)) Q cl sl := by
  obtain ⟨locs, X, eT, N, E⟩ := X
  subst hp
  obtain ⟨v, _, ⟨T', L1, k1, n1⟩, -, X', ⟨Lc, hQ, l1, y1, z1⟩, st⟩ := X.specialBack K.1 (y := y) hy1 K.2.2.2.2.1 (mvT K.2.1.wide w1) (mvT K.2.1.wide w2) (mvT K.2.1.wide wc) hy (oBackL (W := W) (Q := fun v h L => Qc v h ∧ Fr Z.heap.size L ∧ Ext Z.heap h) (hM E) K.2.1 wc wz hf hl) (g := mkF m pc L (argsL.reverse ++ .ref a :: S)) rfl (by show L.size = _; rw [K.2.2.2.1]; exact hsz) (Steps.refl _) (a := a) (argsL := argsL) (rest := S) hlen rfl (by show 2 * 0 + _ ≤ _; omega) (hb K.2.2.1 hd) (fun _ _ => ⟨has, eT, hc, hs⟩)
  dsimp only [Pt.U, Pt.locs, Pt.cells, Pt.slots] at X' l1 y1 z1 st hQ
  subst l1 y1 z1
  exact (g v T' _ ⟨_, X', rfl, Fr.app N hQ.2.1, hQ.2.2⟩ hQ.1).go fun t r => st.trans r
theorem o_virtual (K : oCtx p s m meth c Z own cb ml nm rt yy) (X : oSt p l e R s m args below meth c Z T h cells slots) {index : Nat} {y z : MethodName} {C : String} {a : Addr} {bs : ByteArray} {mx : Nat} {rc : Option FieldType} {rm : Room} {as : Array Value} {Qc : Option Value → Heap → Prop} (w1 : (Jvm.Cond.methodLink own index y).before a0 Z = true) (w2 : (Jvm.Cond.declares y).before a0 Z = true) (hnf : ∀ s' : State, Z.Warmed39 s'.vm → NotFace s' y) (w3 : (Jvm.Cond.selects C y z).before a0 Z = true) (w4 : (Jvm.Cond.instanceMethod z).before a0 Z = true) (wz : (Jvm.Cond.initialized z.cls).before a0 Z = true) (wc : (Jvm.Cond.code z bs mx rc).before a0 Z = true) (hy : y.cls ≠ "java/lang/invoke/MethodHandle" ∧ y.cls ≠ "java/lang/invoke/VarHandle") (Ex : Exa Z h a C)
    (hM : oMet l Z z bs mx rc rm [] as h Qc) (hf : rm.frames + 1 ≤ R.frames) (hsz : L.size = ml) {argsL : List Value} (has : (Value.ref a :: argsL).toArray = as) (hlen : ∀ sig, parseMethodDescriptor y.desc = some sig → argsL.length = sig.parameters.length) {W : Nat} (hW : (S.map fun v => v.category).sum = W) (hl : W + (mx + 11) + rm.locals ≤ R.locals) (hc : cells + rm.cells ≤ R.cells) (hs : slots + rm.slots ≤ R.slots) (hd : decode cb pc = .ok (.invokevirtual index, 3)) (hp : pc + 3 = pc') (g : ∀ v T' h', oSt p l e R s m args below meth c Z T' h' (cells + rm.cells) (slots + rm.slots) → Qc v h' → oGoes p e below s Z T' (mkF m pc' L (v.toList ++ S)) Q cl sl) : oGoes p e below s Z T (mkF m pc L (argsL.reverse ++ .ref a :: S)) Q cl sl := by
  obtain ⟨locs, X, eT, N, E⟩ := X
  subst hp
  obtain ⟨cq, kq, qa, qb, qc⟩ := isOf K.2.1.wide eT Ex
  obtain ⟨v, _, ⟨T', L1, k1, n1⟩, -, X', ⟨Lc, hQ, l1, y1, z1⟩, st⟩ := X.virtualBack K.1 (y := y) (z := z) K.2.2.2.2.1 (mvT K.2.1.wide w1) (mvT K.2.1.wide w2) (hnf _ K.2.1.wide) (mvT K.2.1.wide w3) (mvT K.2.1.wide w4) hy (oBackL (W := W) (Q := fun v h L => Qc v h ∧ Fr Z.heap.size L ∧ Ext Z.heap h) (hM E) K.2.1 wc wz hf hl) qa qc (g := mkF m pc L (argsL.reverse ++ .ref a :: S)) rfl (by show L.size = _; rw [K.2.2.2.1]; exact hsz) (Steps.refl _) (argsL := argsL) (rest := S) hlen rfl (by show 2 * 0 + _ ≤ _; omega) (hb K.2.2.1 hd) (fun _ _ => ⟨has, eT, hc, hs⟩)
  dsimp only [Pt.U, Pt.locs, Pt.cells, Pt.slots] at X' l1 y1 z1 st hQ
  subst l1 y1 z1
  exact (g v T' _ ⟨_, X', rfl, Fr.app N hQ.2.1, hQ.2.2⟩ hQ.1).go fun t r => st.trans r
theorem o_ldc (K : oCtx p s m meth c Z own cb ml nm rt yy) (X : oSt p l e R s m args below meth c Z T h cells slots) {index : Nat} {z : Int32} (w : (Jvm.Cond.constant own index z).before a0 Z = true) (hd : decode cb pc = .ok (.ldc index, 2)) (hp : pc + 2 = pc') (g : oGoes p e below s Z T (mkF m pc' L (.int z :: S)) Q cl sl) : oGoes p e below s Z T (mkF m pc L S) Q cl sl := by
  obtain ⟨locs, X, eT, N, E⟩ := X
  subst hp
  exact g.go (X.ldcInt K.1 K.2.2.2.2.1 (mvT K.2.1.wide w) (g := mkF m pc L S) rfl (hb K.2.2.1 hd))
theorem o_checkcast (K : oCtx p s m meth c Z own cb ml nm rt yy) (X : oSt p l e R s m args below meth c Z T h cells slots) {index : Nat} {C : String} {a : Addr} (w : (Jvm.Cond.classLink own index C).before a0 Z = true) (F : Ins Z h a C true) (hd : decode cb pc = .ok (.checkcast index, 3)) (hp : pc + 3 = pc') (g : ∀ T', oSt p l e R s m args below meth c Z T' h cells slots → oGoes p e below s Z T' (mkF m pc' L (.ref a :: S)) Q cl sl) : oGoes p e below s Z T (mkF m pc L (.ref a :: S)) Q cl sl := by
  obtain ⟨locs, X, eT, N, E⟩ := X
  subst hp
  obtain ⟨T', X', e', st⟩ := castY X K.1 K.2.1.wide K.2.2.2.2.1 w eT F (g := mkF m pc L (.ref a :: S)) rfl rfl (hb K.2.2.1 hd)
  exact (g T' ⟨_, X', e', N, E⟩).go st
theorem o_instanceof (K : oCtx p s m meth c Z own cb ml nm rt yy) (X : oSt p l e R s m args below meth c Z T h cells slots) {index : Nat} {C : String} {a : Addr} (w : (Jvm.Cond.classLink own index C).before a0 Z = true) (F : Ins Z h a C true) (hd : decode cb pc = .ok (.instanceof index, 3)) (hp : pc + 3 = pc') (g : ∀ T', oSt p l e R s m args below meth c Z T' h cells slots → oGoes p e below s Z T' (mkF m pc' L (.int 1 :: S)) Q cl sl) : oGoes p e below s Z T (mkF m pc L (.ref a :: S)) Q cl sl := by
  obtain ⟨locs, X, eT, N, E⟩ := X
  subst hp
  obtain ⟨T', X', e', st⟩ := instY X K.1 K.2.1.wide K.2.2.2.2.1 w eT F (g := mkF m pc L (.ref a :: S)) rfl rfl (hb K.2.2.1 hd)
  exact (g T' ⟨_, X', e', N, E⟩).go st
theorem o_instanceofNo (K : oCtx p s m meth c Z own cb ml nm rt yy) (X : oSt p l e R s m args below meth c Z T h cells slots) {index : Nat} {C D : String} {a : Addr} (w : (Jvm.Cond.classLink own index D).before a0 Z = true) (Ex : Exa Z h a C) (F : ∃ c t, Z.vm.findClass C = some c ∧ Z.vm.findClass D = some t ∧ Z.vm.assignable c t = false) (hd : decode cb pc = .ok (.instanceof index, 3)) (hp : pc + 3 = pc') (g : ∀ T', oSt p l e R s m args below meth c Z T' h cells slots → oGoes p e below s Z T' (mkF m pc' L (.int 0 :: S)) Q cl sl) : oGoes p e below s Z T (mkF m pc L (.ref a :: S)) Q cl sl := by
  obtain ⟨locs, X, eT, N, E⟩ := X
  subst hp
  obtain ⟨T', X', e', st⟩ := instNo X K.1 K.2.1.wide K.2.2.2.2.1 w eT Ex F (g := mkF m pc L (.ref a :: S)) rfl rfl (hb K.2.2.1 hd)
  exact (g T' ⟨_, X', e', N, E⟩).go st
theorem o_instanceofNull (K : oCtx p s m meth c Z own cb ml nm rt yy) (X : oSt p l e R s m args below meth c Z T h cells slots) {index : Nat} (hd : decode cb pc = .ok (.instanceof index, 3)) (hp : pc + 3 = pc') (g : oGoes p e below s Z T (mkF m pc' L (.int 0 :: S)) Q cl sl) : oGoes p e below s Z T (mkF m pc L (.null :: S)) Q cl sl := by
  obtain ⟨locs, X, eT, N, E⟩ := X
  subst hp
  exact g.go fun t r => X.instanceofNull K.1 (g := mkF m pc L (.null :: S)) rfl rfl (hb K.2.2.1 hd) _ r
def oArr (Z : State) (h : Heap) (a : Addr) (k : ClassId) (ty : FieldType) (vs : List Value) : Prop := ∃ c : Cell, Arr Z h a c ty ∧ c.cls = k ∧ c.slots = vs.toArray ∧ (∀ v ∈ vs, fits ty v = true) ∧ vs.length < 2 ^ 31
theorem oArr.lt {a : Addr} {k : ClassId} {ty : FieldType} {vs : List Value} (F : oArr Z h a k ty vs) : a < h.size := by obtain ⟨c, A, -⟩ := F; exact A.lt
theorem oArr.ext {h' : Heap} {a : Addr} {k : ClassId} {ty : FieldType} {vs : List Value} (F : oArr Z h a k ty vs) (E : Ext h h') : oArr Z h' a k ty vs := by obtain ⟨c, A, r⟩ := F; exact ⟨c, A.ext E, r⟩
theorem oArr.other {h' : Heap} {a b : Addr} {k : ClassId} {ty : FieldType} {vs : List Value} {sl : Nat} {v : Value} (F : oArr Z h b k ty vs) (W : Wr h h' a sl v) (q : b ≠ a) : oArr Z h' b k ty vs := by obtain ⟨c, A, r⟩ := F; exact ⟨c, A.other W q, r⟩
theorem oArr.keep {h' : Heap} {a : Addr} {k : ClassId} {ty : FieldType} {vs : List Value} {ws : List Addr} (F : oArr Z h a k ty vs) (Kp : Keep h h' ws) (q : a ∉ ws) : oArr Z h' a k ty vs := by obtain ⟨c, A, r⟩ := F; exact ⟨c, ⟨Kp.2.1 a c A.1 q, A.2⟩, r⟩
theorem oArr.set {h' : Heap} {a : Addr} {k : ClassId} {ty : FieldType} {vs : List Value} {j : Nat} {v : Value} (F : oArr Z h a k ty vs) (W : Wr h h' a j v) (hf : fits ty v = true) : oArr Z h' a k ty (vs.set j v) := by
  obtain ⟨c, A, q1, q2, q3, q4⟩ := F
  refine ⟨c.setSlot j v, A.same W, q1, ?_, fun u hu => ?_, by simpa using q4⟩
  · simp [Cell.setSlot, q2, List.setIfInBounds_toArray]
  · rcases List.mem_or_eq_of_mem_set hu with q | rfl
    · exact q3 _ q
    · exact hf
theorem oInb {vs : List Value} {c : Cell} {j : Int32} (q : c.slots = vs.toArray) (hj : ¬ j < 0) (hlt : j.toNatClampNeg < vs.length) : ¬ (j < 0 ∨ c.slots.size ≤ j.toNatClampNeg) := by
  rw [q]; simp only [List.size_toArray]
  rintro (h1 | h1)
  · exact hj h1
  · omega
theorem o_arraylength (K : oCtx p s m meth c Z own cb ml nm rt yy) (X : oSt p l e R s m args below meth c Z T h cells slots) {a : Addr} {k : ClassId} {ty : FieldType} {vs : List Value} {z : Int32} (F : oArr Z h a k ty vs) (hz : vs.length.toInt32 = z) (hd : decode cb pc = .ok (.arraylength, 1)) (hp : pc + 1 = pc') (g : oGoes p e below s Z T (mkF m pc' L (.int z :: S)) Q cl sl) : oGoes p e below s Z T (mkF m pc L (.ref a :: S)) Q cl sl := by
  obtain ⟨locs, X, eT, N, E⟩ := X
  obtain ⟨cc, A, q1, q2, q3, q4⟩ := F
  subst hp
  refine g.go fun t r => X.arraylength K.1 (by rw [eT]; exact A.1) (State.isArrayOf_alike K.2.1.alike A.2.1) (g := mkF m pc L (.ref a :: S)) rfl rfl (hb K.2.2.1 hd) _ ?_
  have e1 : cc.slots.size.toInt32 = z := by rw [q2]; simpa using hz
  rw [e1]; exact r
theorem o_caload (K : oCtx p s m meth c Z own cb ml nm rt yy) (X : oSt p l e R s m args below meth c Z T h cells slots) {a : Addr} {k : ClassId} {vs : List Value} {j : Int32} {v : Value} (F : oArr Z h a k .char vs) (hj : ¬ j < 0) (hv : vs[j.toNatClampNeg]? = some v) (hd : decode cb pc = .ok (.caload, 1)) (hp : pc + 1 = pc') (g : oGoes p e below s Z T (mkF m pc' L (v :: S)) Q cl sl) : oGoes p e below s Z T (mkF m pc L (.int j :: .ref a :: S)) Q cl sl := by
  obtain ⟨locs, X, eT, N, E⟩ := X
  obtain ⟨cc, A, q1, q2, q3, q4⟩ := F
  subst hp
  exact g.go fun t r => X.caload K.1 (by rw [eT]; exact A.1) (State.isArrayOf_alike K.2.1.alike A.2.1) A.2.2 (oInb q2 hj (List.getElem?_eq_some_iff.mp hv).1) (by rw [q2]; simpa using hv) (g := mkF m pc L (.int j :: .ref a :: S)) rfl rfl (hb K.2.2.1 hd) _ r
theorem o_baload (K : oCtx p s m meth c Z own cb ml nm rt yy) (X : oSt p l e R s m args below meth c Z T h cells slots) {a : Addr} {k : ClassId} {vs : List Value} {j : Int32} {v : Value} (F : oArr Z h a k .byte vs) (hj : ¬ j < 0) (hv : vs[j.toNatClampNeg]? = some v) (hd : decode cb pc = .ok (.baload, 1)) (hp : pc + 1 = pc') (g : oGoes p e below s Z T (mkF m pc' L (v :: S)) Q cl sl) : oGoes p e below s Z T (mkF m pc L (.int j :: .ref a :: S)) Q cl sl := by
  obtain ⟨locs, X, eT, N, E⟩ := X
  obtain ⟨cc, A, q1, q2, q3, q4⟩ := F
  subst hp
  exact g.go fun t r => X.baloadBytes K.1 (by rw [eT]; exact A.1) (State.isArrayOf_alike K.2.1.alike A.2.1) A.2.2 (oInb q2 hj (List.getElem?_eq_some_iff.mp hv).1) (by rw [q2]; simpa using hv) (g := mkF m pc L (.int j :: .ref a :: S)) rfl rfl (hb K.2.2.1 hd) _ r
theorem o_castore (K : oCtx p s m meth c Z own cb ml nm rt yy) (X : oSt p l e R s m args below meth c Z T h cells slots) {a : Addr} {k : ClassId} {vs : List Value} {j : Int32} {x : Int32} {z : Value} (F : oArr Z h a k .char vs) (hj : ¬ j < 0) (hlt : j.toNatClampNeg < vs.length) (hza : Z.heap.size ≤ a) (hz : (.int (nar .char x) : Value) = z) (hd : decode cb pc = .ok (.castore, 1)) (hp : pc + 1 = pc')
    (g : ∀ T' h', oSt p l e R s m args below meth c Z T' h' cells slots → Wr h h' a j.toNatClampNeg z → oArr Z h' a k .char (vs.set j.toNatClampNeg z) → oGoes p e below s Z T' (mkF m pc' L S) Q cl sl) : oGoes p e below s Z T (mkF m pc L (.int x :: .int j :: .ref a :: S)) Q cl sl := by
  obtain ⟨locs, X, eT, N, E⟩ := X
  subst hp hz
  obtain ⟨cc, A, q1, q2, q3, q4⟩ := id F
  obtain ⟨T', h', X', e', W, st⟩ := stC X K.1 K.2.1.wide eT A (oInb q2 hj hlt) (g := mkF m pc L (.int x :: .int j :: .ref a :: S)) rfl rfl (hb K.2.2.1 hd)
  exact (g T' h' ⟨_, X', e', Fr.snoc X' N hza, oExt_wr E W hza⟩ W (F.set W (fits_nar_char x))).go st
theorem o_bastore (K : oCtx p s m meth c Z own cb ml nm rt yy) (X : oSt p l e R s m args below meth c Z T h cells slots) {a : Addr} {k : ClassId} {vs : List Value} {j : Int32} {x : Int32} {z : Value} (F : oArr Z h a k .byte vs) (hj : ¬ j < 0) (hlt : j.toNatClampNeg < vs.length) (hza : Z.heap.size ≤ a) (hz : (.int (nar .byte x) : Value) = z) (hd : decode cb pc = .ok (.bastore, 1)) (hp : pc + 1 = pc')
    (g : ∀ T' h', oSt p l e R s m args below meth c Z T' h' cells slots → Wr h h' a j.toNatClampNeg z → oArr Z h' a k .byte (vs.set j.toNatClampNeg z) → oGoes p e below s Z T' (mkF m pc' L S) Q cl sl) : oGoes p e below s Z T (mkF m pc L (.int x :: .int j :: .ref a :: S)) Q cl sl := by
  obtain ⟨locs, X, eT, N, E⟩ := X
  subst hp hz
  obtain ⟨cc, A, q1, q2, q3, q4⟩ := id F
  obtain ⟨T', h', X', e', W, st⟩ := stB X K.1 K.2.1.wide eT A (oInb q2 hj hlt) (g := mkF m pc L (.int x :: .int j :: .ref a :: S)) rfl rfl (hb K.2.2.1 hd)
  exact (g T' h' ⟨_, X', e', Fr.snoc X' N hza, oExt_wr E W hza⟩ W (F.set W (fits_nar_byte x))).go st
theorem oArr_new {b : Addr} {k : ClassId} {ty : FieldType} {n : Int32} {c : Nat} (A : Arr Z h b (newA k ty n) ty) (hn : n.toNatClampNeg = c) (hc : c < 2 ^ 31) (hf : fits ty (defaultValue ty) = true) : oArr Z h b k ty (List.replicate c (defaultValue ty)) :=
  ⟨_, A, rfl, by simp [newA, hn], fun v hv => by rw [(List.mem_replicate.mp hv).2]; exact hf, by simpa using hc⟩
theorem o_newarray (K : oCtx p s m meth c Z own cb ml nm rt yy) (X : oSt p l e R s m args below meth c Z T h cells slots) {aty : ArrayType} {n : Int32} {ad : String} (cn : Nat) (w : (Jvm.Cond.arrayClass (newarray.typeOf aty)).before a0 Z = true) (had : "[" ++ (newarray.typeOf aty).toString = ad) (hn : ¬ n < 0) (hcn : n.toNatClampNeg = cn) (hbb : cn * 8 ≤ 536870912) (hf : fits (newarray.typeOf aty) (defaultValue (newarray.typeOf aty)) = true) (hd : decode cb pc = .ok (.newarray aty, 2)) (hp : pc + 2 = pc') (hc : cells + 1 ≤ R.cells) (hl : slots + cn ≤ R.slots)
    (g : ∀ T' h' b k, oSt p l e R s m args below meth c Z T' h' (cells + 1) (slots + cn) → b = h.size → Ext h h' → oArr Z h' b k (newarray.typeOf aty) (List.replicate cn (defaultValue (newarray.typeOf aty))) → Exa Z h' b ad → Z.heap.size ≤ b → oGoes p e below s Z T' (mkF m pc' L (.ref b :: S)) Q cl sl) : oGoes p e below s Z T (mkF m pc L (.int n :: S)) Q cl sl := by
  obtain ⟨locs, X, eT, N, E⟩ := X
  subst hp
  obtain ⟨T', h', k, X', e', E', A, Ex, st⟩ := newPE X K.1 K.2.1.wide w eT (g := mkF m pc L (.int n :: S)) rfl (hb K.2.2.1 hd) rfl hn (cap := cn) (Nat.le_of_eq hcn) hbb hc hl had
  exact (g T' h' h.size k ⟨_, X', e', N, oExt_trans E E'⟩ rfl E' (oArr_new A hcn (by omega) hf) Ex E.1).go st
theorem oNarIdembyte (x : Int32) : nar .byte (nar .byte x) = nar .byte x := by
  simp [nar]
theorem oFitbyte {x x' : Int32} (q : nar .byte x = x') : fits .byte (.int x') = true := q ▸ fits_nar_byte x
theorem oCat1 {z : Int32} : (Value.int z).category = 1 := rfl
theorem oCat2 {z : Int64} : (Value.long z).category = 2 := rfl
theorem oCat3 {a : Addr} : (Value.ref a).category = 1 := rfl
theorem oCat4 : Value.null.category = 1 := rfl
theorem oCatRef {v : Value} (h2 : v.isRef = true) : v.category = 1 := by
  rcases ref_cases h2 with rfl | ⟨a, rfl⟩ <;> rfl
theorem oMaskPos (x : Int32) {k : Int32} (hk : k.toBitVec.toNat < 2 ^ 31) : ¬ (x &&& k) < 0 := by
  rw [Int32.lt_iff_toInt_lt]
  have h1 : (x &&& k).toBitVec.toNat < 2 ^ 31 := by
    simp only [Int32.toBitVec_and, BitVec.toNat_and]
    exact Nat.lt_of_le_of_lt Nat.and_le_right hk
  have h2 : (x &&& k).toInt = (x &&& k).toBitVec.toNat := BitVec.toInt_eq_toNat_of_lt (by omega)
  have h3 : (0 : Int32).toInt = 0 := by decide
  omega
theorem oNeInt_v {args : Array Value} {s : State} {t : Term} {x z : Int32} (ht : t.eval args s none [] s = some (.int x)) (q : (Jvm.Cond.not (Jvm.Cond.eq t (Term.int z))).value args s none s [] = some true) : ¬ x = z := by
  have r := not_v q
  have e2 : (Term.int z).eval args s none [] s = some (.int z) := rfl
  simpa [Jvm.Cond.value, ht, e2] using r
theorem oNF {C : String} {y : MethodName} (w : (Jvm.Cond.selects C y y).before a0 Z = true) : ∀ s' : State, Z.Warmed39 s'.vm → NotFace s' y := fun _ q => notFace_of_selects (args := #[]) (mvT q w)
theorem oInstSpec {Z : State} {a0 : Array Value} {K : String} {n : Nat} (w : (Jvm.Cond.instantiable K n).before a0 Z = true) : ∃ t k, Z.vm.findClass K = some t ∧ Z.vm.classes[t]? = some k ∧ k.kind = .ordinary ∧ k.isInterface = false := by
  simp only [Cond.before, Cond.holds, Cond.value] at w
  cases hc : Z.vm.findClass K with
  | none => simp [hc] at w
  | some t =>
    cases hk : Z.vm.classes[t]? with
    | none => simp [hc, hk] at w
    | some k => simp [hc, hk] at w; exact ⟨t, k, rfl, hk, w.1.1.1, w.1.1.2.1⟩
theorem oNSroot {Z : State} {a0 : Array Value} {O K : String} {n : Nat} (w : (Jvm.Cond.noSuperclass O).before a0 Z = true) (wk : (Jvm.Cond.instantiable K n).before a0 Z = true) (hn : O ≠ K) : NS Z O K := by
  obtain ⟨c, k, h1, h2, h3, -, -⟩ := Cond.noSuperclass_spec w
  obtain ⟨t, _, g1, -⟩ := oInstSpec wk
  have ne := ids_ne h1 g1 hn
  refine ⟨c, t, h1, g1, fun fuel => ?_⟩
  cases fuel with
  | zero => rfl
  | succ f => simp [Vm.isSubclassAux, ne, h2, h3]
theorem oNSno {Z : State} {a0 : Array Value} {C S K : String} {n : Nat} (w : (Jvm.Cond.superclass C S).before a0 Z = true) (wk : (Jvm.Cond.instantiable K n).before a0 Z = true) (q : NS Z C K) (hn : C ≠ K) : ∃ c t, Z.vm.findClass C = some c ∧ Z.vm.findClass K = some t ∧ Z.vm.assignable c t = false := by
  obtain ⟨c, t, h0, g0, n3⟩ := q
  obtain ⟨p, k, kp, h1, h2, h3, h4, h5, -, h7⟩ := Cond.superclass_spec h0 w
  obtain ⟨t', k', g1, g2, g3, g4⟩ := oInstSpec wk
  cases g0.symm.trans g1
  have ne := ids_ne h0 g0 hn
  refine ⟨c, t, h0, g0, ?_⟩
  show Z.vm.assignableAux (255 + 1) c t = false
  simp [Vm.assignableAux, ne, h2, g2, h5, g3, g4, Vm.isSubclass, n3]
theorem oMadeMove {host : String} {σ : Lambda.Shape} {cK : ClassId} (hZ : Z.WarmedH s.vm) (hm : Jvm.LamKit.Made Z host σ cK) : Jvm.LamKit.Made s host σ cK := by
  obtain ⟨d, dk, hd, hn, h1, h2⟩ := hm
  obtain ⟨dk', hd', he⟩ := hZ.alike.2.2 _ _ hd
  have e : s.lambdaCallable σ cK = Z.lambdaCallable σ cK := by
    simp only [State.lambdaCallable, hZ.alike.findClass, hZ.alike.assignable, hZ.alike.superclasses41, hZ.alike.declaredIn]
  exact ⟨d, dk', hd', by rw [he]; exact hn, Lambda.isMade_warmer hZ h1, e.trans h2⟩
theorem oMetOf {y : MethodName} {bs : ByteArray} {mx : Nat} {rc : Option FieldType} {rm : Room} {as : Array Value} {Qc : Option Value → Heap → Prop} (hM : oMet l Z y bs mx rc rm [] as h Qc) (E : Ext Z.heap h) : Met l y [Jvm.Cond.code y bs mx rc] rm (fun a U => a = as ∧ Z.WarmedH U.vm ∧ U.heap = h) (fun _ _ o t => ∃ v, o = .returned v ∧ Qc v t.heap ∧ Ext Z.heap t.heap) rm.cells rm.slots (fun x => Z.heap.size ≤ x) :=
  MetFree.imp (hM E) fun _ _ _ _ ⟨v, L, h1, ⟨h2, h3, h4⟩, h5⟩ => ⟨⟨v, h1, h2, h4⟩, L, h5, h3⟩
theorem o_lambda (K : oCtx p s m meth c Z own cb ml nm rt yy) (X : oSt p l e R s m args below meth c Z T h cells slots) {index : Nat} {σ : Lambda.Shape} (w1 : (Jvm.Cond.lambdaSite yy pc index σ).before a0 Z = true) (hcap : σ.captured = []) (hcl : yy.cls = own) (hd : decode cb pc = .ok (.invokedynamic index, 5)) (hp : pc + 5 = pc') (hsz : L.size = ml) {W : Nat} (hW : (S.map fun v => v.category).sum = W) (hlo : W + 3072 ≤ R.locals)
    (g : ∀ a cK, Jvm.LamKit.Made Z own σ cK → Jvm.LamKit.FnAt Z.heap a cK → oGoes p e below s Z T (mkF m pc' L (.ref a :: S)) Q cl sl) : oGoes p e below s Z T (mkF m pc L S) Q cl sl := by
  obtain ⟨locs, X, eT, N, E⟩ := X
  subst hp
  obtain ⟨cK, one, hat⟩ := Cond.lambdaSite_spec w1
  obtain ⟨mD, kD, cfD, i0, p0, lk, hmD, hkD, -, -, -, hfind, hmade, hcan, hl⟩ := State.lambdaAt?_spec hat
  have hm' : s.methodNamed? yy = some mD := by
    have q := State.methodNamed?_setVm K.2.1.alike (s := Z) yy
    rw [hmD] at q
    exact q
  have em : mD = m := Option.some.inj (hm'.symm.trans K.2.2.2.2.2.2.2.2)
  rw [em] at hmD hkD hfind hmade
  obtain ⟨kD2, hkD2, e2⟩ := K.2.1.alike.2.2 _ _ hkD
  obtain ⟨kD', hkD', hnameD⟩ := className_of_methodNamed hmD
  cases hkD.symm.trans hkD'
  rcases hl with ⟨a, cell, rfl, -, -, hcell, hcls, hvm, -⟩ | ⟨-, -, hne⟩
  · have hw : e.platform.lambdaLinkWords = 3072 := by rw [X.admits.platform]
    exact (g a cK ⟨_, kD, hkD, hnameD.trans hcl, hmade, hcan⟩ ⟨cell, hcell, hcls, hvm⟩).go fun t r => X.lambdaConstant K.1 (g := mkF m pc L S) rfl (by show L.size = _; rw [K.2.2.2.1]; exact hsz) (hb K.2.2.1 hd) hkD2 (by rw [e2]; exact hfind) (by rw [hw]; show 2 * 0 + (S.map fun v => v.category).sum + 3072 ≤ _; rw [hW]; omega) r
  · exact absurd hcap hne
theorem o_callLam (K : oCtx p s m meth c Z own cb ml nm rt yy) (X : oSt p l e R s m args below meth c Z T h cells slots) {index count : Nat} {xi y : MethodName} {σ : Lambda.Shape} {host : String} {a : Addr} {cK : ClassId} {bs : ByteArray} {mx : Nat} {rc : Option FieldType} {rm : Room} {Qc : Option Value → Heap → Prop} {i : Int32} (w1 : (Jvm.Cond.methodLink own index xi).before a0 Z = true) (w2 : (Jvm.Cond.declares xi).before a0 Z = true) (w3 : (Jvm.Cond.interfaceMethod xi.cls xi.cls xi.name xi.desc).before a0 Z = true) (hfa : ((Jvm.Cond.interfaceMethod xi.cls xi.cls xi.name xi.desc).onTables && (Jvm.Cond.interfaceMethod xi.cls xi.cls xi.name xi.desc).keepsFace) = true) (wc : (Jvm.Cond.code y bs mx rc).before a0 Z = true) (ws : (Jvm.Cond.static y).before a0 Z = true) (wz : (Jvm.Cond.initialized y.cls).before a0 Z = true)
    (hxi : xi.cls = σ.iface ∧ xi.name = σ.name ∧ xi.desc = σ.sam.toString) (hy : y.cls = σ.implClass ∧ y.name = σ.implName ∧ y.desc = σ.implDesc.toString) (hpoly : (xi.cls ≠ "java/lang/invoke/MethodHandle" ∧ xi.cls ≠ "java/lang/invoke/VarHandle") ∧ y.cls ≠ "java/lang/invoke/MethodHandle" ∧ y.cls ≠ "java/lang/invoke/VarHandle")
    (hmd : Jvm.LamKit.Made Z host σ cK) (hfn : Jvm.LamKit.FnAt Z.heap a cK) {fcode : ByteArray} {idx ci : Nat} (hok : Jvm.LamKit.fwdOK σ host fcode 2 (some .boolean) idx ci = true) (f0 : decode fcode 0 = .ok (.iload_n 1, 1)) (f1 : decode fcode 1 = .ok (.invokestatic idx, 3)) (f4 : decode fcode 4 = .ok (.ireturn, 1))
    (hM : oMet l Z y bs mx rc rm [] #[.int i] h Qc) (hout : ∀ v h', Qc v h' → ∃ w, v = some (.int w) ∧ nar .boolean w = w) (hpx : parseMethodDescriptor xi.desc = some ⟨[.int], some .boolean⟩) (hpy : parseMethodDescriptor y.desc = some ⟨[.int], some .boolean⟩)
    (hf : rm.frames + 2 ≤ R.frames) (hsz : L.size = ml) {W : Nat} (hW : (S.map fun v => v.category).sum = W) (hl : W + 13 + (mx + 11 + rm.locals) ≤ R.locals) (hc : cells + rm.cells ≤ R.cells) (hs : slots + rm.slots ≤ R.slots) (hd : decode cb pc = .ok (.invokeinterface index count, 5)) (hp : pc + 5 = pc') (g : ∀ v T' h', oSt p l e R s m args below meth c Z T' h' (cells + rm.cells) (slots + rm.slots) → Qc v h' → oGoes p e below s Z T' (mkF m pc' L (v.toList ++ S)) Q cl sl) : oGoes p e below s Z T (mkF m pc L (.int i :: .ref a :: S)) Q cl sl := by
  obtain ⟨locs, X, eT, N, E⟩ := X
  subst hp
  obtain ⟨v, st, t, T', L1, X', hL, e1, -, ⟨v', ev, hQ, hE⟩, go⟩ := Jvm.LamKit.callLamS X K.1 (own := own) (host := host) (index := index) (count := count) (xi := xi) (y := y) (σ := σ) (oMetOf hM E) (fun _ _ _ _ q => q) rfl rfl
    (fun w hw' a' U hU => by rw [List.mem_singleton.mp hw']; exact mvT (State.WarmedH.trans K.2.1 hU).wide wc) (List.mem_singleton.mpr rfl) K.2.2.2.2.1 (mvT K.2.1.wide w1) (mvT K.2.1.wide w2) (mvT K.2.1.wide w3 (hd := hfa)) (mvT K.2.1.wide wc) (mvT K.2.1.wide ws) (mvT K.2.1.wide wz) hxi hy hpoly (oMadeMove K.2.1 hmd) (by obtain ⟨cell, q1, q2⟩ := hfn; exact ⟨cell, by rw [eT]; exact E.2 _ _ q1, q2⟩) hok f1 f4
    (g := mkF m pc L (.int i :: .ref a :: S)) rfl (by show L.size = _; rw [K.2.2.2.1]; exact hsz) (argsL := [.int i]) (argsT := [.int i]) (rest := S) (L0 := #[.val (.ref a), .val (.int i)]) (fun sig q => by cases hpx.symm.trans q; rfl) (fun sig q => by cases hpy.symm.trans q; rfl) rfl (hb K.2.2.1 hd) (fun _ => rfl) rfl
    (fun U ck bl target hU hck _ _ k => XS.iloadN hU K.1 rfl (hb hck f0) rfl k)
    (fun st v t hq => by
      obtain ⟨v', ev, hQ, -⟩ := hq
      cases ev
      obtain ⟨w, rfl, hn⟩ := hout _ _ hQ
      exact Or.inl ⟨.boolean, w, rfl, Or.inr (Or.inl rfl), congrArg Value.int hn, rfl, rfl⟩)
    hf (by show 2 * 0 + (S.map fun v => v.category).sum + (2 + 11) + _ ≤ _; rw [hW]; omega) hc hs (fun U hU hh => ⟨rfl, State.WarmedH.trans K.2.1 hU, hh.trans eT⟩)
  cases ev
  exact (g _ T' _ ⟨_, X', e1, Fr.app N hL, hE⟩ hQ).go go
end Own
set_option maxRecDepth 65536
set_option maxHeartbeats 40000000
abbrev oCh (x : Int32) : Prop := ¬ (x < (0 : Int32)) ∧ ¬ ((255 : Int32) < x)
theorem oChE {x : Int32} (h : oCh x) : ∃ n : Fin 256, x = Int32.ofInt n.val := by
  obtain ⟨h1, h2⟩ := h
  rw [Int32.lt_iff_toInt_lt] at h1 h2
  have z1 : (0 : Int32).toInt = 0 := by decide
  have z2 : (255 : Int32).toInt = 255 := by decide
  refine ⟨⟨x.toInt.toNat, by omega⟩, ?_⟩
  have e : ((x.toInt.toNat : Nat) : Int) = x.toInt := Int.toNat_of_nonneg (by omega)
  show x = Int32.ofInt ((x.toInt.toNat : Nat) : Int)
  rw [e]; simp
theorem oChN {x : Int32} (h : oCh x) : nar .char x = x := by
  obtain ⟨n, rfl⟩ := oChE h
  have key : ∀ n : Fin 256, nar .char (Int32.ofInt n.val) = Int32.ofInt n.val := by decide +kernel
  exact key n
theorem oPre (x : Int64) : oCh ((x &&& (255 : Int64)).toInt32.toUInt32.toUInt16.toUInt32.toInt32) := by
  obtain ⟨n, e⟩ : ∃ n : Fin 256, x &&& (255 : Int64) = Int64.ofNat n.val := by
    have hb : (x &&& (255 : Int64)).toBitVec.toNat < 256 := by
      have e : (x &&& (255 : Int64)).toBitVec.toNat = x.toBitVec.toNat &&& 255 := by
        simp only [Int64.toBitVec_and, BitVec.toNat_and]; rfl
      rw [e]; exact Nat.lt_of_le_of_lt Nat.and_le_right (by decide)
    refine ⟨⟨_, hb⟩, ?_⟩
    apply Int64.toBitVec_inj.mp
    have q : ∀ k : Nat, (Int64.ofNat k).toBitVec = BitVec.ofNat 64 k := fun k => rfl
    rw [q]
    exact (BitVec.eq_of_toNat_eq (by rw [BitVec.toNat_ofNat]; exact (Nat.mod_eq_of_lt (BitVec.isLt _)).symm))
  rw [e]
  have key : ∀ n : Fin 256, ¬ (((Int64.ofNat n.val).toInt32.toUInt32.toUInt16.toUInt32.toInt32) < (0 : Int32)) ∧ ¬ ((255 : Int32) < ((Int64.ofNat n.val).toInt32.toUInt32.toUInt16.toUInt32.toInt32)) := by decide +kernel
  exact key n
theorem oBack {x : Int32} (h : oCh x) : (nar .byte x) &&& (255 : Int32) = x := by
  obtain ⟨n, rfl⟩ := oChE h
  have key : ∀ n : Fin 256, (nar .byte (Int32.ofInt n.val)) &&& (255 : Int32) = Int32.ofInt n.val := by decide +kernel
  exact key n
theorem oM31 {x y : Int32} (h : (31 : Int32) * x = (31 : Int32) * y) : x = y := by
  have q : ∀ z : Int32, (-1108378657 : Int32) * ((31 : Int32) * z) = z := fun z => by
    rw [← Int32.mul_assoc, show (-1108378657 : Int32) * (31 : Int32) = 1 from by decide, Int32.one_mul]
  rw [← q x, ← q y, h]
theorem oAr {x y z : Int32} (h : x + z = y + z) : x = y := by
  have q : ∀ u : Int32, u + z - z = u := fun u => Int32.add_sub_cancel u z
  rw [← q x, ← q y, h]
theorem oAl {x y z : Int32} (h : z + x = z + y) : x = y := by
  rw [Int32.add_comm z x, Int32.add_comm z y] at h
  exact oAr h
theorem oAnd1 (x : Int32) : (x &&& (1 : Int32)) = (0 : Int32) ∨ (x &&& (1 : Int32)) = (1 : Int32) := by
  have h1 : (x &&& 1).toBitVec.toNat ≤ 1 := by
    simp only [Int32.toBitVec_and, BitVec.toNat_and]
    exact Nat.and_le_right
  have e : ∀ k : Int32, (x &&& 1).toBitVec.toNat = k.toBitVec.toNat → x &&& 1 = k := fun k q => Int32.toBitVec_inj.mp (BitVec.eq_of_toNat_eq q)
  have z0 : (0 : Int32).toBitVec.toNat = 0 := by decide
  have z1 : (1 : Int32).toBitVec.toNat = 1 := by decide
  by_cases q0 : (x &&& 1).toBitVec.toNat = 0
  · exact Or.inl (e 0 (by omega))
  · exact Or.inr (e 1 (by omega))
abbrev oSh (c : Int32) : Prop := (¬ (c < (97 : Int32)) ∧ ¬ ((122 : Int32) < c)) ∨ (c < (97 : Int32) ∧ ¬ (c < (48 : Int32)) ∧ ¬ ((57 : Int32) < c)) ∨ c = (45 : Int32)
abbrev oUp (c : Int32) : Prop := c < (97 : Int32) ∧ ¬ (c < (48 : Int32)) ∧ (57 : Int32) < c ∧ ¬ (c = (45 : Int32)) ∧ ¬ (c < (65 : Int32)) ∧ ¬ ((90 : Int32) < c)
abbrev oId (c : Int32) : Prop := oSh c ∨ oUp c ∨ c = (95 : Int32)
theorem oFin {x : Int32} (n : Nat) (hn : n < 1000) (h0 : ¬ (x < (0 : Int32))) (h1 : x.toInt < n) : ∃ j : Fin n, x = Int32.ofNat j.val := by
  rw [Int32.lt_iff_toInt_lt] at h0
  have z : (0 : Int32).toInt = 0 := by decide
  refine ⟨⟨x.toInt.toNat, by omega⟩, ?_⟩
  apply Int32.toInt_inj.mp
  rw [Int32.toInt_ofNat_of_lt (by show x.toInt.toNat < _; omega)]
  show x.toInt = ((x.toInt.toNat : Nat) : Int)
  omega
theorem oMod {x : Int32} (k : Int32) (hx : ¬ (x < (0 : Int32))) (hk : 0 < k.toInt) : ¬ (x % k < (0 : Int32)) ∧ (x % k).toInt < k.toInt := by
  rw [Int32.lt_iff_toInt_lt] at hx ⊢
  have z : (0 : Int32).toInt = 0 := by decide
  rw [Int32.toInt_mod]
  have h1 := Int.tmod_nonneg k.toInt (show 0 ≤ x.toInt by omega)
  have h2 := Int.tmod_lt_of_pos x.toInt hk
  constructor <;> omega
theorem oK37 (x : Int32) : ∃ j : Fin 37, (x &&& (2147483647 : Int32)) % (37 : Int32) = Int32.ofNat j.val := by
  obtain ⟨h1, h2⟩ := oMod (37 : Int32) (oMaskPos x (by decide) : ¬ ((x &&& (2147483647 : Int32)) < (0 : Int32))) (by decide)
  exact oFin 37 (by decide) h1 (by have z : (37 : Int32).toInt = 37 := by decide
                                   omega)
theorem oK63 (x : Int32) : ∃ j : Fin 64, x &&& (63 : Int32) = Int32.ofNat j.val := by
  have hb : (x &&& (63 : Int32)).toBitVec.toNat < 64 := by
    have e : (x &&& (63 : Int32)).toBitVec.toNat = x.toBitVec.toNat &&& 63 := by
      simp only [Int32.toBitVec_and, BitVec.toNat_and]; rfl
    rw [e]; exact Nat.lt_of_le_of_lt Nat.and_le_right (by decide)
  refine ⟨⟨_, hb⟩, ?_⟩
  apply Int32.toBitVec_inj.mp
  have q : ∀ k : Nat, (Int32.ofNat k).toBitVec = BitVec.ofNat 32 k := fun k => rfl
  rw [q]
  exact (BitVec.eq_of_toNat_eq (by rw [BitVec.toNat_ofNat]; exact (Nat.mod_eq_of_lt (BitVec.isLt _)).symm))
theorem oSa {k : Int32} (h : ∃ j : Fin 37, k = Int32.ofNat j.val) (h1 : k < (26 : Int32)) : oSh ((97 : Int32) + k) ∧ oCh ((97 : Int32) + k) := by
  obtain ⟨j, rfl⟩ := h
  have key : ∀ j : Fin 37, Int32.ofNat j.val < (26 : Int32) → oSh ((97 : Int32) + Int32.ofNat j.val) ∧ oCh ((97 : Int32) + Int32.ofNat j.val) := by decide +kernel
  exact key j h1
theorem oSb {k : Int32} (h : ∃ j : Fin 37, k = Int32.ofNat j.val) (h1 : ¬ (k < (26 : Int32))) (h2 : k < (36 : Int32)) : oSh ((48 : Int32) + (k - (26 : Int32))) ∧ oCh ((48 : Int32) + (k - (26 : Int32))) := by
  obtain ⟨j, rfl⟩ := h
  have key : ∀ j : Fin 37, ¬ (Int32.ofNat j.val < (26 : Int32)) → Int32.ofNat j.val < (36 : Int32) → oSh ((48 : Int32) + (Int32.ofNat j.val - (26 : Int32))) ∧ oCh ((48 : Int32) + (Int32.ofNat j.val - (26 : Int32))) := by decide +kernel
  exact key j h1 h2
theorem oIa {k : Int32} (h : ∃ j : Fin 64, k = Int32.ofNat j.val) (h1 : k < (26 : Int32)) : oId ((97 : Int32) + k) ∧ oCh ((97 : Int32) + k) := by
  obtain ⟨j, rfl⟩ := h
  have key : ∀ j : Fin 64, Int32.ofNat j.val < (26 : Int32) → oId ((97 : Int32) + Int32.ofNat j.val) ∧ oCh ((97 : Int32) + Int32.ofNat j.val) := by decide +kernel
  exact key j h1
theorem oIb {k : Int32} (h : ∃ j : Fin 64, k = Int32.ofNat j.val) (h1 : ¬ (k < (26 : Int32))) (h2 : k < (36 : Int32)) : oId ((48 : Int32) + (k - (26 : Int32))) ∧ oCh ((48 : Int32) + (k - (26 : Int32))) := by
  obtain ⟨j, rfl⟩ := h
  have key : ∀ j : Fin 64, ¬ (Int32.ofNat j.val < (26 : Int32)) → Int32.ofNat j.val < (36 : Int32) → oId ((48 : Int32) + (Int32.ofNat j.val - (26 : Int32))) ∧ oCh ((48 : Int32) + (Int32.ofNat j.val - (26 : Int32))) := by decide +kernel
  exact key j h1 h2
theorem oK64 (x : Int32) : ∃ j : Fin 64, (x &&& (2147483647 : Int32)) % (64 : Int32) = Int32.ofNat j.val := by
  obtain ⟨h1, h2⟩ := oMod (64 : Int32) (oMaskPos x (by decide) : ¬ ((x &&& (2147483647 : Int32)) < (0 : Int32))) (by decide)
  exact oFin 64 (by decide) h1 (by have z : (64 : Int32).toInt = 64 := by decide
                                   omega)
theorem oJb {k : Int32} (h : ∃ j : Fin 64, k = Int32.ofNat j.val) (h1 : ¬ (k < (26 : Int32))) (h2 : k < (52 : Int32)) : oId ((65 : Int32) + (k - (26 : Int32))) ∧ oCh ((65 : Int32) + (k - (26 : Int32))) := by
  obtain ⟨j, rfl⟩ := h
  have key : ∀ j : Fin 64, ¬ (Int32.ofNat j.val < (26 : Int32)) → Int32.ofNat j.val < (52 : Int32) → oId ((65 : Int32) + (Int32.ofNat j.val - (26 : Int32))) ∧ oCh ((65 : Int32) + (Int32.ofNat j.val - (26 : Int32))) := by decide +kernel
  exact key j h1 h2
theorem oJc {k : Int32} (h : ∃ j : Fin 64, k = Int32.ofNat j.val) (h1 : ¬ (k < (52 : Int32))) (h2 : k < (62 : Int32)) : oId ((48 : Int32) + (k - (52 : Int32))) ∧ oCh ((48 : Int32) + (k - (52 : Int32))) := by
  obtain ⟨j, rfl⟩ := h
  have key : ∀ j : Fin 64, ¬ (Int32.ofNat j.val < (52 : Int32)) → Int32.ofNat j.val < (62 : Int32) → oId ((48 : Int32) + (Int32.ofNat j.val - (52 : Int32))) ∧ oCh ((48 : Int32) + (Int32.ofNat j.val - (52 : Int32))) := by decide +kernel
  exact key j h1 h2
theorem oIc {k : Int32} (h : ∃ j : Fin 64, k = Int32.ofNat j.val) (h1 : ¬ (k < (36 : Int32))) (h2 : k < (62 : Int32)) : oId ((65 : Int32) + (k - (36 : Int32))) ∧ oCh ((65 : Int32) + (k - (36 : Int32))) := by
  obtain ⟨j, rfl⟩ := h
  have key : ∀ j : Fin 64, ¬ (Int32.ofNat j.val < (36 : Int32)) → Int32.ofNat j.val < (62 : Int32) → oId ((65 : Int32) + (Int32.ofNat j.val - (36 : Int32))) ∧ oCh ((65 : Int32) + (Int32.ofNat j.val - (36 : Int32))) := by decide +kernel
  exact key j h1 h2
def oBy (n x0 x1 : Int32) : List Value := if n = (1 : Int32) then [.int (nar .byte x0)] else [.int (nar .byte x0), .int (nar .byte x1)]
theorem oByC {Z : State} {h : Heap} {a : Addr} {k : ClassId} {vs ws : List Value} (q : ws = vs) (F : oArr Z h a k .byte vs) : oArr Z h a k .byte ws := q ▸ F
theorem oBy1 (x y : Int32) : oBy 1 x y = [.int (nar .byte x)] := if_pos rfl
theorem oBy2 (x y : Int32) : oBy 2 x y = [.int (nar .byte x), .int (nar .byte y)] := if_neg (by decide)
abbrev oL (n : Int32) : Prop := n = (1 : Int32) ∨ n = (2 : Int32)
theorem oNarEq {x y : Int32} (hx : oCh x) (hy : oCh y) : nar .byte x = nar .byte y ↔ x = y := by
  refine ⟨fun q => ?_, fun q => by rw [q]⟩
  rw [← oBack hx, ← oBack hy, q]
def oSm (n x0 x1 m y0 y1 : Int32) : Int32 := if n = m ∧ x0 = y0 ∧ (n = (1 : Int32) ∨ x1 = y1) then 1 else 0
theorem oSmF (n x0 x1 m y0 y1 : Int32) : oSm n x0 x1 m y0 y1 = oSm m y0 y1 n x0 x1 := by
  unfold oSm
  by_cases e : n = m
  · subst e; simp only [eq_comm (a := x0), eq_comm (a := x1)]
  · rw [if_neg (fun q => e q.1), if_neg (fun q => e q.1.symm)]
theorem oSm01 (n x0 x1 m y0 y1 : Int32) : oSm n x0 x1 m y0 y1 = (0 : Int32) ∨ oSm n x0 x1 m y0 y1 = (1 : Int32) := by
  unfold oSm; split
  · exact Or.inr rfl
  · exact Or.inl rfl
theorem oCp {p : Prop} [Decidable p] {c g l y : Int32} (hc : c = if p then (0 : Int32) else (1 : Int32)) (hg : g = if c = (0 : Int32) then ((1 : Int32) + (y &&& (1 : Int32))) else l) : (c = (1 : Int32) ∧ g = l) ∨ (c = (0 : Int32) ∧ g = (1 : Int32)) ∨ (c = (0 : Int32) ∧ g = (2 : Int32)) := by
  by_cases h : p
  · rw [if_pos h] at hc
    rw [if_pos hc] at hg
    rcases oAnd1 y with q | q
    · exact Or.inr (Or.inl ⟨hc, by rw [hg, q]; decide⟩)
    · exact Or.inr (Or.inr ⟨hc, by rw [hg, q]; decide⟩)
  · rw [if_neg h] at hc
    rw [if_neg (by rw [hc]; decide)] at hg
    exact Or.inl ⟨hc, hg⟩
abbrev oSg0 : Lambda.Shape := Jvm.Lambda.Shape.mk "java/util/function/IntPredicate" "test" (Jvm.ClassFile.MethodDescriptor.mk ([Jvm.ClassFile.FieldType.int] : List Jvm.ClassFile.FieldType) (Option.some Jvm.ClassFile.FieldType.boolean)) ([] : List Jvm.ClassFile.FieldType) (6 : Nat) "com/example/hotshelf/hotshelf/model/RecordKey" "isShelfChar" (Jvm.ClassFile.MethodDescriptor.mk ([Jvm.ClassFile.FieldType.int] : List Jvm.ClassFile.FieldType) (Option.some Jvm.ClassFile.FieldType.boolean)) false (Jvm.ClassFile.MethodDescriptor.mk ([Jvm.ClassFile.FieldType.int] : List Jvm.ClassFile.FieldType) (Option.some Jvm.ClassFile.FieldType.boolean))
def oFc0 : ByteArray := ⟨#[0x1b, 0xb8, 0x00, 0x11, 0xac]⟩
theorem oFw0 : Jvm.LamKit.fwdOK oSg0 "com/example/hotshelf/hotshelf/model/RecordKey" oFc0 2 (some .boolean) 17 14 = true := by decide +kernel
theorem oF0_0 : decode oFc0 0 = .ok (.iload_n 1, 1) := by decide +kernel
theorem oF0_1 : decode oFc0 1 = .ok (.invokestatic 17, 3) := by decide +kernel
theorem oF0_4 : decode oFc0 4 = .ok (.ireturn, 1) := by decide +kernel
abbrev oSg1 : Lambda.Shape := Jvm.Lambda.Shape.mk "java/util/function/IntPredicate" "test" (Jvm.ClassFile.MethodDescriptor.mk ([Jvm.ClassFile.FieldType.int] : List Jvm.ClassFile.FieldType) (Option.some Jvm.ClassFile.FieldType.boolean)) ([] : List Jvm.ClassFile.FieldType) (6 : Nat) "com/example/hotshelf/hotshelf/model/RecordKey" "isIdChar" (Jvm.ClassFile.MethodDescriptor.mk ([Jvm.ClassFile.FieldType.int] : List Jvm.ClassFile.FieldType) (Option.some Jvm.ClassFile.FieldType.boolean)) false (Jvm.ClassFile.MethodDescriptor.mk ([Jvm.ClassFile.FieldType.int] : List Jvm.ClassFile.FieldType) (Option.some Jvm.ClassFile.FieldType.boolean))
def oFc1 : ByteArray := ⟨#[0x1b, 0xb8, 0x00, 0x11, 0xac]⟩
theorem oFw1 : Jvm.LamKit.fwdOK oSg1 "com/example/hotshelf/hotshelf/model/RecordKey" oFc1 2 (some .boolean) 17 14 = true := by decide +kernel
theorem oF1_0 : decode oFc1 0 = .ok (.iload_n 1, 1) := by decide +kernel
theorem oF1_1 : decode oFc1 1 = .ok (.invokestatic 17, 3) := by decide +kernel
theorem oF1_4 : decode oFc1 4 = .ok (.ireturn, 1) := by decide +kernel
abbrev z0 : String := "java/lang/String"
abbrev z1 : String := "com/example/hotshelf/hotshelf/model/RecordKey"
abbrev z2 : String := "Ljava/lang/String;"
abbrev z3 : String := "jdk/internal/util/Preconditions"
abbrev z4 : String := "COMPACT_STRINGS"
abbrev z5 : String := "SIOOBE_FORMATTER"
abbrev z6 : String := "Ljava/util/function/BiFunction;"
abbrev z7 : String := "com/example/hotshelf/hotshelf/model/RecordKeyEqualsPinLaw"
abbrev z8 : String := "(Ljava/lang/String;Ljava/lang/String;)V"
abbrev z9 : String := "java/lang/StringUTF16"
abbrev z10 : String := "(Ljava/lang/Object;)Z"
abbrev z11 : String := "(Ljava/lang/String;ILjava/util/function/IntPredicate;)Z"
def oHw (Z : State) (a0 : Array Value) : Prop := ∀ d ∈ tables_1, d.before a0 Z = true
theorem w0 {Z : State} {a0 : Array Value} (hw : oHw Z a0) : (Jvm.Cond.arrayClass Jvm.ClassFile.FieldType.char).before a0 Z = true := hw _ (List.mem_of_getElem? (i := 0) rfl)
theorem w1 {Z : State} {a0 : Array Value} (hw : oHw Z a0) : (Jvm.Cond.methodLink z7 (8 : Nat) ({ cls := z7, name := "shelfChar", desc := "(I)C" } : Jvm.MethodName)).before a0 Z = true := hw _ (List.mem_of_getElem? (i := 1) rfl)
theorem w2 {Z : State} {a0 : Array Value} (hw : oHw Z a0) : (Jvm.Cond.static ({ cls := z7, name := "shelfChar", desc := "(I)C" } : Jvm.MethodName)).before a0 Z = true := hw _ (List.mem_of_getElem? (i := 2) rfl)
theorem w3 {Z : State} {a0 : Array Value} (hw : oHw Z a0) : (Jvm.Cond.initialized z7).before a0 Z = true := hw _ (List.mem_of_getElem? (i := 3) rfl)
theorem w4 {Z : State} {a0 : Array Value} (hw : oHw Z a0) : (Jvm.Cond.code ({ cls := z7, name := "shelfChar", desc := "(I)C" } : Jvm.MethodName) method_2_code (2 : Nat) (Option.some Jvm.ClassFile.FieldType.char)).before a0 Z = true := hw _ (List.mem_of_getElem? (i := 4) rfl)
theorem w5 {Z : State} {a0 : Array Value} (hw : oHw Z a0) : (Jvm.Cond.constant z7 (7 : Nat) (2147483647 : Int32)).before a0 Z = true := hw _ (List.mem_of_getElem? (i := 5) rfl)
theorem w6 {Z : State} {a0 : Array Value} (hw : oHw Z a0) : (Jvm.Cond.methodLink z7 (14 : Nat) ({ cls := z7, name := "idChar", desc := "(I)C" } : Jvm.MethodName)).before a0 Z = true := hw _ (List.mem_of_getElem? (i := 6) rfl)
theorem w7 {Z : State} {a0 : Array Value} (hw : oHw Z a0) : (Jvm.Cond.static ({ cls := z7, name := "idChar", desc := "(I)C" } : Jvm.MethodName)).before a0 Z = true := hw _ (List.mem_of_getElem? (i := 7) rfl)
theorem w8 {Z : State} {a0 : Array Value} (hw : oHw Z a0) : (Jvm.Cond.code ({ cls := z7, name := "idChar", desc := "(I)C" } : Jvm.MethodName) method_3_code (2 : Nat) (Option.some Jvm.ClassFile.FieldType.char)).before a0 Z = true := hw _ (List.mem_of_getElem? (i := 8) rfl)
theorem w9 {Z : State} {a0 : Array Value} (hw : oHw Z a0) : (Jvm.Cond.classLink z7 (17 : Nat) z1).before a0 Z = true := hw _ (List.mem_of_getElem? (i := 9) rfl)
theorem w10 {Z : State} {a0 : Array Value} (hw : oHw Z a0) : (Jvm.Cond.instantiable z1 (2 : Nat)).before a0 Z = true := hw _ (List.mem_of_getElem? (i := 10) rfl)
theorem w11 {Z : State} {a0 : Array Value} (hw : oHw Z a0) : (Jvm.Cond.initialized z1).before a0 Z = true := hw _ (List.mem_of_getElem? (i := 11) rfl)
theorem w12 {Z : State} {a0 : Array Value} (hw : oHw Z a0) : (Jvm.Cond.classLink z7 (19 : Nat) z0).before a0 Z = true := hw _ (List.mem_of_getElem? (i := 12) rfl)
theorem w13 {Z : State} {a0 : Array Value} (hw : oHw Z a0) : (Jvm.Cond.instantiable z0 (4 : Nat)).before a0 Z = true := hw _ (List.mem_of_getElem? (i := 13) rfl)
theorem w14 {Z : State} {a0 : Array Value} (hw : oHw Z a0) : (Jvm.Cond.initialized z0).before a0 Z = true := hw _ (List.mem_of_getElem? (i := 14) rfl)
theorem w15 {Z : State} {a0 : Array Value} (hw : oHw Z a0) : (Jvm.Cond.methodLink z7 (21 : Nat) ({ cls := z0, name := "<init>", desc := "([C)V" } : Jvm.MethodName)).before a0 Z = true := hw _ (List.mem_of_getElem? (i := 15) rfl)
theorem w16 {Z : State} {a0 : Array Value} (hw : oHw Z a0) : (Jvm.Cond.instanceMethod ({ cls := z0, name := "<init>", desc := "([C)V" } : Jvm.MethodName)).before a0 Z = true := hw _ (List.mem_of_getElem? (i := 16) rfl)
theorem w17 {Z : State} {a0 : Array Value} (hw : oHw Z a0) : (Jvm.Cond.code ({ cls := z0, name := "<init>", desc := "([C)V" } : Jvm.MethodName) jdk_42_method_3_code (2 : Nat) (Option.none : Option Jvm.ClassFile.FieldType)).before a0 Z = true := hw _ (List.mem_of_getElem? (i := 17) rfl)
theorem w18 {Z : State} {a0 : Array Value} (hw : oHw Z a0) : (Jvm.Cond.methodLink z0 (27 : Nat) ({ cls := z0, name := "<init>", desc := "([CIILjava/lang/Void;)V" } : Jvm.MethodName)).before a0 Z = true := hw _ (List.mem_of_getElem? (i := 18) rfl)
theorem w19 {Z : State} {a0 : Array Value} (hw : oHw Z a0) : (Jvm.Cond.instanceMethod ({ cls := z0, name := "<init>", desc := "([CIILjava/lang/Void;)V" } : Jvm.MethodName)).before a0 Z = true := hw _ (List.mem_of_getElem? (i := 19) rfl)
theorem w21 {Z : State} {a0 : Array Value} (hw : oHw Z a0) : (Jvm.Cond.code ({ cls := z0, name := "<init>", desc := "([CIILjava/lang/Void;)V" } : Jvm.MethodName) jdk_42_method_149_code (6 : Nat) (Option.none : Option Jvm.ClassFile.FieldType)).before a0 Z = true := hw _ (List.mem_of_getElem? (i := 21) rfl)
theorem w22 {Z : State} {a0 : Array Value} (hw : oHw Z a0) : (Jvm.Cond.methodLink z0 (1 : Nat) ({ cls := "java/lang/Object", name := "<init>", desc := "()V" } : Jvm.MethodName)).before a0 Z = true := hw _ (List.mem_of_getElem? (i := 22) rfl)
theorem w23 {Z : State} {a0 : Array Value} (hw : oHw Z a0) : (Jvm.Cond.instanceMethod ({ cls := "java/lang/Object", name := "<init>", desc := "()V" } : Jvm.MethodName)).before a0 Z = true := hw _ (List.mem_of_getElem? (i := 23) rfl)
theorem w24 {Z : State} {a0 : Array Value} (hw : oHw Z a0) : (Jvm.Cond.code ({ cls := "java/lang/Object", name := "<init>", desc := "()V" } : Jvm.MethodName) object_method_1_code (1 : Nat) (Option.none : Option Jvm.ClassFile.FieldType)).before a0 Z = true := hw _ (List.mem_of_getElem? (i := 24) rfl)
theorem w25 {Z : State} {a0 : Array Value} (hw : oHw Z a0) : (Jvm.Cond.fieldLink z0 (38 : Nat) z0 z4 "Z").before a0 Z = true := hw _ (List.mem_of_getElem? (i := 25) rfl)
theorem w26 {Z : State} {a0 : Array Value} (hw : oHw Z a0) : (Jvm.Cond.methodLink z0 (177 : Nat) ({ cls := z9, name := "compress", desc := "([CII)[B" } : Jvm.MethodName)).before a0 Z = true := hw _ (List.mem_of_getElem? (i := 26) rfl)
theorem w27 {Z : State} {a0 : Array Value} (hw : oHw Z a0) : (Jvm.Cond.static ({ cls := z9, name := "compress", desc := "([CII)[B" } : Jvm.MethodName)).before a0 Z = true := hw _ (List.mem_of_getElem? (i := 27) rfl)
theorem w28 {Z : State} {a0 : Array Value} (hw : oHw Z a0) : (Jvm.Cond.initialized z9).before a0 Z = true := hw _ (List.mem_of_getElem? (i := 28) rfl)
theorem w29 {Z : State} {a0 : Array Value} (hw : oHw Z a0) : (Jvm.Cond.code ({ cls := z9, name := "compress", desc := "([CII)[B" } : Jvm.MethodName) jdk_52_method_16_code (6 : Nat) (Option.some (Jvm.ClassFile.FieldType.array Jvm.ClassFile.FieldType.byte))).before a0 Z = true := hw _ (List.mem_of_getElem? (i := 29) rfl)
theorem w30 {Z : State} {a0 : Array Value} (hw : oHw Z a0) : (Jvm.Cond.arrayClass Jvm.ClassFile.FieldType.byte).before a0 Z = true := hw _ (List.mem_of_getElem? (i := 30) rfl)
theorem w31 {Z : State} {a0 : Array Value} (hw : oHw Z a0) : (Jvm.Cond.methodLink z9 (115 : Nat) ({ cls := z9, name := "compress", desc := "([CI[BII)I" } : Jvm.MethodName)).before a0 Z = true := hw _ (List.mem_of_getElem? (i := 31) rfl)
theorem w32 {Z : State} {a0 : Array Value} (hw : oHw Z a0) : (Jvm.Cond.static ({ cls := z9, name := "compress", desc := "([CI[BII)I" } : Jvm.MethodName)).before a0 Z = true := hw _ (List.mem_of_getElem? (i := 32) rfl)
theorem w33 {Z : State} {a0 : Array Value} (hw : oHw Z a0) : (Jvm.Cond.code ({ cls := z9, name := "compress", desc := "([CI[BII)I" } : Jvm.MethodName) jdk_52_method_21_code (7 : Nat) (Option.some Jvm.ClassFile.FieldType.int)).before a0 Z = true := hw _ (List.mem_of_getElem? (i := 33) rfl)
theorem w34 {Z : State} {a0 : Array Value} (hw : oHw Z a0) : (Jvm.Cond.methodLink z0 (47 : Nat) ({ cls := z9, name := "coderFromArrayLen", desc := "([BI)B" } : Jvm.MethodName)).before a0 Z = true := hw _ (List.mem_of_getElem? (i := 34) rfl)
theorem w35 {Z : State} {a0 : Array Value} (hw : oHw Z a0) : (Jvm.Cond.static ({ cls := z9, name := "coderFromArrayLen", desc := "([BI)B" } : Jvm.MethodName)).before a0 Z = true := hw _ (List.mem_of_getElem? (i := 35) rfl)
theorem w36 {Z : State} {a0 : Array Value} (hw : oHw Z a0) : (Jvm.Cond.code ({ cls := z9, name := "coderFromArrayLen", desc := "([BI)B" } : Jvm.MethodName) jdk_52_method_15_code (2 : Nat) (Option.some Jvm.ClassFile.FieldType.byte)).before a0 Z = true := hw _ (List.mem_of_getElem? (i := 36) rfl)
theorem w37 {Z : State} {a0 : Array Value} (hw : oHw Z a0) : (Jvm.Cond.fieldLink z0 (15 : Nat) z0 "coder" "B").before a0 Z = true := hw _ (List.mem_of_getElem? (i := 37) rfl)
theorem w38 {Z : State} {a0 : Array Value} (hw : oHw Z a0) : (Jvm.Cond.laysFinal z0 z0 "coder" "B").before a0 Z = true := hw _ (List.mem_of_getElem? (i := 38) rfl)
theorem w39 {Z : State} {a0 : Array Value} (hw : oHw Z a0) : (Jvm.Cond.fieldLink z0 (9 : Nat) z0 "value" "[B").before a0 Z = true := hw _ (List.mem_of_getElem? (i := 39) rfl)
theorem w40 {Z : State} {a0 : Array Value} (hw : oHw Z a0) : (Jvm.Cond.laysFinal z0 z0 "value" "[B").before a0 Z = true := hw _ (List.mem_of_getElem? (i := 40) rfl)
theorem w41 {Z : State} {a0 : Array Value} (hw : oHw Z a0) : (Jvm.Cond.methodLink z7 (24 : Nat) ({ cls := z1, name := "<init>", desc := z8 } : Jvm.MethodName)).before a0 Z = true := hw _ (List.mem_of_getElem? (i := 41) rfl)
theorem w42 {Z : State} {a0 : Array Value} (hw : oHw Z a0) : (Jvm.Cond.instanceMethod ({ cls := z1, name := "<init>", desc := z8 } : Jvm.MethodName)).before a0 Z = true := hw _ (List.mem_of_getElem? (i := 42) rfl)
theorem w43 {Z : State} {a0 : Array Value} (hw : oHw Z a0) : (Jvm.Cond.code ({ cls := z1, name := "<init>", desc := z8 } : Jvm.MethodName) prog_16_method_1_code (3 : Nat) (Option.none : Option Jvm.ClassFile.FieldType)).before a0 Z = true := hw _ (List.mem_of_getElem? (i := 43) rfl)
theorem w44 {Z : State} {a0 : Array Value} (hw : oHw Z a0) : (Jvm.Cond.methodLink z1 (3 : Nat) ({ cls := "java/lang/Record", name := "<init>", desc := "()V" } : Jvm.MethodName)).before a0 Z = true := hw _ (List.mem_of_getElem? (i := 44) rfl)
theorem w45 {Z : State} {a0 : Array Value} (hw : oHw Z a0) : (Jvm.Cond.instanceMethod ({ cls := "java/lang/Record", name := "<init>", desc := "()V" } : Jvm.MethodName)).before a0 Z = true := hw _ (List.mem_of_getElem? (i := 45) rfl)
theorem w47 {Z : State} {a0 : Array Value} (hw : oHw Z a0) : (Jvm.Cond.initialized "java/lang/Record").before a0 Z = true := hw _ (List.mem_of_getElem? (i := 47) rfl)
theorem w48 {Z : State} {a0 : Array Value} (hw : oHw Z a0) : (Jvm.Cond.code ({ cls := "java/lang/Record", name := "<init>", desc := "()V" } : Jvm.MethodName) jdk_30_method_1_code (1 : Nat) (Option.none : Option Jvm.ClassFile.FieldType)).before a0 Z = true := hw _ (List.mem_of_getElem? (i := 48) rfl)
theorem w49 {Z : State} {a0 : Array Value} (hw : oHw Z a0) : (Jvm.Cond.methodLink "java/lang/Record" (1 : Nat) ({ cls := "java/lang/Object", name := "<init>", desc := "()V" } : Jvm.MethodName)).before a0 Z = true := hw _ (List.mem_of_getElem? (i := 49) rfl)
theorem w50 {Z : State} {a0 : Array Value} (hw : oHw Z a0) : (Jvm.Cond.methodLink z1 (9 : Nat) ({ cls := z1, name := "isShelfName", desc := "(Ljava/lang/String;)Z" } : Jvm.MethodName)).before a0 Z = true := hw _ (List.mem_of_getElem? (i := 50) rfl)
theorem w51 {Z : State} {a0 : Array Value} (hw : oHw Z a0) : (Jvm.Cond.static ({ cls := z1, name := "isShelfName", desc := "(Ljava/lang/String;)Z" } : Jvm.MethodName)).before a0 Z = true := hw _ (List.mem_of_getElem? (i := 51) rfl)
theorem w52 {Z : State} {a0 : Array Value} (hw : oHw Z a0) : (Jvm.Cond.code ({ cls := z1, name := "isShelfName", desc := "(Ljava/lang/String;)Z" } : Jvm.MethodName) prog_16_method_4_code (1 : Nat) (Option.some Jvm.ClassFile.FieldType.boolean)).before a0 Z = true := hw _ (List.mem_of_getElem? (i := 52) rfl)
theorem w53 {Z : State} {a0 : Array Value} (hw : oHw Z a0) : (Jvm.Cond.lambdaSite ({ cls := z1, name := "isShelfName", desc := "(Ljava/lang/String;)Z" } : Jvm.MethodName) (3 : Nat) (42 : Nat) (Jvm.Lambda.Shape.mk "java/util/function/IntPredicate" "test" (Jvm.ClassFile.MethodDescriptor.mk ([Jvm.ClassFile.FieldType.int] : List Jvm.ClassFile.FieldType) (Option.some Jvm.ClassFile.FieldType.boolean)) ([] : List Jvm.ClassFile.FieldType) (6 : Nat) z1 "isShelfChar" (Jvm.ClassFile.MethodDescriptor.mk ([Jvm.ClassFile.FieldType.int] : List Jvm.ClassFile.FieldType) (Option.some Jvm.ClassFile.FieldType.boolean)) false (Jvm.ClassFile.MethodDescriptor.mk ([Jvm.ClassFile.FieldType.int] : List Jvm.ClassFile.FieldType) (Option.some Jvm.ClassFile.FieldType.boolean)))).before a0 Z = true := hw _ (List.mem_of_getElem? (i := 53) rfl)
theorem w56 {Z : State} {a0 : Array Value} (hw : oHw Z a0) : (Jvm.Cond.methodLink z1 (46 : Nat) ({ cls := z1, name := "isMadeOf", desc := z11 } : Jvm.MethodName)).before a0 Z = true := hw _ (List.mem_of_getElem? (i := 56) rfl)
theorem w57 {Z : State} {a0 : Array Value} (hw : oHw Z a0) : (Jvm.Cond.static ({ cls := z1, name := "isMadeOf", desc := z11 } : Jvm.MethodName)).before a0 Z = true := hw _ (List.mem_of_getElem? (i := 57) rfl)
theorem w58 {Z : State} {a0 : Array Value} (hw : oHw Z a0) : (Jvm.Cond.code ({ cls := z1, name := "isMadeOf", desc := z11 } : Jvm.MethodName) prog_16_method_6_code (4 : Nat) (Option.some Jvm.ClassFile.FieldType.boolean)).before a0 Z = true := hw _ (List.mem_of_getElem? (i := 58) rfl)
theorem w59 {Z : State} {a0 : Array Value} (hw : oHw Z a0) : (Jvm.Cond.methodLink z1 (51 : Nat) ({ cls := z0, name := "isEmpty", desc := "()Z" } : Jvm.MethodName)).before a0 Z = true := hw _ (List.mem_of_getElem? (i := 59) rfl)
theorem w60 {Z : State} {a0 : Array Value} (hw : oHw Z a0) : (Jvm.Cond.declares ({ cls := z0, name := "isEmpty", desc := "()Z" } : Jvm.MethodName)).before a0 Z = true := hw _ (List.mem_of_getElem? (i := 60) rfl)
theorem w61 {Z : State} {a0 : Array Value} (hw : oHw Z a0) : (Jvm.Cond.instanceMethod ({ cls := z0, name := "isEmpty", desc := "()Z" } : Jvm.MethodName)).before a0 Z = true := hw _ (List.mem_of_getElem? (i := 61) rfl)
theorem w62 {Z : State} {a0 : Array Value} (hw : oHw Z a0) : (Jvm.Cond.selects z0 ({ cls := z0, name := "isEmpty", desc := "()Z" } : Jvm.MethodName) ({ cls := z0, name := "isEmpty", desc := "()Z" } : Jvm.MethodName)).before a0 Z = true := hw _ (List.mem_of_getElem? (i := 62) rfl)
theorem w63 {Z : State} {a0 : Array Value} (hw : oHw Z a0) : (Jvm.Cond.code ({ cls := z0, name := "isEmpty", desc := "()Z" } : Jvm.MethodName) jdk_42_method_55_code (1 : Nat) (Option.some Jvm.ClassFile.FieldType.boolean)).before a0 Z = true := hw _ (List.mem_of_getElem? (i := 63) rfl)
theorem w64 {Z : State} {a0 : Array Value} (hw : oHw Z a0) : (Jvm.Cond.methodLink z1 (55 : Nat) ({ cls := z0, name := "length", desc := "()I" } : Jvm.MethodName)).before a0 Z = true := hw _ (List.mem_of_getElem? (i := 64) rfl)
theorem w65 {Z : State} {a0 : Array Value} (hw : oHw Z a0) : (Jvm.Cond.declares ({ cls := z0, name := "length", desc := "()I" } : Jvm.MethodName)).before a0 Z = true := hw _ (List.mem_of_getElem? (i := 65) rfl)
theorem w66 {Z : State} {a0 : Array Value} (hw : oHw Z a0) : (Jvm.Cond.instanceMethod ({ cls := z0, name := "length", desc := "()I" } : Jvm.MethodName)).before a0 Z = true := hw _ (List.mem_of_getElem? (i := 66) rfl)
theorem w67 {Z : State} {a0 : Array Value} (hw : oHw Z a0) : (Jvm.Cond.selects z0 ({ cls := z0, name := "length", desc := "()I" } : Jvm.MethodName) ({ cls := z0, name := "length", desc := "()I" } : Jvm.MethodName)).before a0 Z = true := hw _ (List.mem_of_getElem? (i := 67) rfl)
theorem w68 {Z : State} {a0 : Array Value} (hw : oHw Z a0) : (Jvm.Cond.code ({ cls := z0, name := "length", desc := "()I" } : Jvm.MethodName) jdk_42_method_54_code (1 : Nat) (Option.some Jvm.ClassFile.FieldType.int)).before a0 Z = true := hw _ (List.mem_of_getElem? (i := 68) rfl)
theorem w69 {Z : State} {a0 : Array Value} (hw : oHw Z a0) : (Jvm.Cond.methodLink z0 (335 : Nat) ({ cls := z0, name := "coder", desc := "()B" } : Jvm.MethodName)).before a0 Z = true := hw _ (List.mem_of_getElem? (i := 69) rfl)
theorem w70 {Z : State} {a0 : Array Value} (hw : oHw Z a0) : (Jvm.Cond.declares ({ cls := z0, name := "coder", desc := "()B" } : Jvm.MethodName)).before a0 Z = true := hw _ (List.mem_of_getElem? (i := 70) rfl)
theorem w71 {Z : State} {a0 : Array Value} (hw : oHw Z a0) : (Jvm.Cond.instanceMethod ({ cls := z0, name := "coder", desc := "()B" } : Jvm.MethodName)).before a0 Z = true := hw _ (List.mem_of_getElem? (i := 71) rfl)
theorem w72 {Z : State} {a0 : Array Value} (hw : oHw Z a0) : (Jvm.Cond.selects z0 ({ cls := z0, name := "coder", desc := "()B" } : Jvm.MethodName) ({ cls := z0, name := "coder", desc := "()B" } : Jvm.MethodName)).before a0 Z = true := hw _ (List.mem_of_getElem? (i := 72) rfl)
theorem w73 {Z : State} {a0 : Array Value} (hw : oHw Z a0) : (Jvm.Cond.code ({ cls := z0, name := "coder", desc := "()B" } : Jvm.MethodName) jdk_42_method_152_code (1 : Nat) (Option.some Jvm.ClassFile.FieldType.byte)).before a0 Z = true := hw _ (List.mem_of_getElem? (i := 73) rfl)
theorem w74 {Z : State} {a0 : Array Value} (hw : oHw Z a0) : (Jvm.Cond.methodLink z1 (58 : Nat) ({ cls := z0, name := "charAt", desc := "(I)C" } : Jvm.MethodName)).before a0 Z = true := hw _ (List.mem_of_getElem? (i := 74) rfl)
theorem w75 {Z : State} {a0 : Array Value} (hw : oHw Z a0) : (Jvm.Cond.declares ({ cls := z0, name := "charAt", desc := "(I)C" } : Jvm.MethodName)).before a0 Z = true := hw _ (List.mem_of_getElem? (i := 75) rfl)
theorem w76 {Z : State} {a0 : Array Value} (hw : oHw Z a0) : (Jvm.Cond.instanceMethod ({ cls := z0, name := "charAt", desc := "(I)C" } : Jvm.MethodName)).before a0 Z = true := hw _ (List.mem_of_getElem? (i := 76) rfl)
theorem w77 {Z : State} {a0 : Array Value} (hw : oHw Z a0) : (Jvm.Cond.selects z0 ({ cls := z0, name := "charAt", desc := "(I)C" } : Jvm.MethodName) ({ cls := z0, name := "charAt", desc := "(I)C" } : Jvm.MethodName)).before a0 Z = true := hw _ (List.mem_of_getElem? (i := 77) rfl)
theorem w78 {Z : State} {a0 : Array Value} (hw : oHw Z a0) : (Jvm.Cond.code ({ cls := z0, name := "charAt", desc := "(I)C" } : Jvm.MethodName) jdk_42_method_56_code (2 : Nat) (Option.some Jvm.ClassFile.FieldType.char)).before a0 Z = true := hw _ (List.mem_of_getElem? (i := 78) rfl)
theorem w79 {Z : State} {a0 : Array Value} (hw : oHw Z a0) : (Jvm.Cond.methodLink z0 (492 : Nat) ({ cls := z0, name := "isLatin1", desc := "()Z" } : Jvm.MethodName)).before a0 Z = true := hw _ (List.mem_of_getElem? (i := 79) rfl)
theorem w80 {Z : State} {a0 : Array Value} (hw : oHw Z a0) : (Jvm.Cond.declares ({ cls := z0, name := "isLatin1", desc := "()Z" } : Jvm.MethodName)).before a0 Z = true := hw _ (List.mem_of_getElem? (i := 80) rfl)
theorem w81 {Z : State} {a0 : Array Value} (hw : oHw Z a0) : (Jvm.Cond.instanceMethod ({ cls := z0, name := "isLatin1", desc := "()Z" } : Jvm.MethodName)).before a0 Z = true := hw _ (List.mem_of_getElem? (i := 81) rfl)
theorem w82 {Z : State} {a0 : Array Value} (hw : oHw Z a0) : (Jvm.Cond.selects z0 ({ cls := z0, name := "isLatin1", desc := "()Z" } : Jvm.MethodName) ({ cls := z0, name := "isLatin1", desc := "()Z" } : Jvm.MethodName)).before a0 Z = true := hw _ (List.mem_of_getElem? (i := 82) rfl)
theorem w83 {Z : State} {a0 : Array Value} (hw : oHw Z a0) : (Jvm.Cond.code ({ cls := z0, name := "isLatin1", desc := "()Z" } : Jvm.MethodName) jdk_42_method_154_code (1 : Nat) (Option.some Jvm.ClassFile.FieldType.boolean)).before a0 Z = true := hw _ (List.mem_of_getElem? (i := 83) rfl)
theorem w84 {Z : State} {a0 : Array Value} (hw : oHw Z a0) : (Jvm.Cond.methodLink z0 (495 : Nat) ({ cls := "java/lang/StringLatin1", name := "charAt", desc := "([BI)C" } : Jvm.MethodName)).before a0 Z = true := hw _ (List.mem_of_getElem? (i := 84) rfl)
theorem w85 {Z : State} {a0 : Array Value} (hw : oHw Z a0) : (Jvm.Cond.static ({ cls := "java/lang/StringLatin1", name := "charAt", desc := "([BI)C" } : Jvm.MethodName)).before a0 Z = true := hw _ (List.mem_of_getElem? (i := 85) rfl)
theorem w86 {Z : State} {a0 : Array Value} (hw : oHw Z a0) : (Jvm.Cond.initialized "java/lang/StringLatin1").before a0 Z = true := hw _ (List.mem_of_getElem? (i := 86) rfl)
theorem w87 {Z : State} {a0 : Array Value} (hw : oHw Z a0) : (Jvm.Cond.code ({ cls := "java/lang/StringLatin1", name := "charAt", desc := "([BI)C" } : Jvm.MethodName) jdk_43_method_2_code (2 : Nat) (Option.some Jvm.ClassFile.FieldType.char)).before a0 Z = true := hw _ (List.mem_of_getElem? (i := 87) rfl)
theorem w88 {Z : State} {a0 : Array Value} (hw : oHw Z a0) : (Jvm.Cond.methodLink "java/lang/StringLatin1" (9 : Nat) ({ cls := z0, name := "checkIndex", desc := "(II)V" } : Jvm.MethodName)).before a0 Z = true := hw _ (List.mem_of_getElem? (i := 88) rfl)
theorem w89 {Z : State} {a0 : Array Value} (hw : oHw Z a0) : (Jvm.Cond.static ({ cls := z0, name := "checkIndex", desc := "(II)V" } : Jvm.MethodName)).before a0 Z = true := hw _ (List.mem_of_getElem? (i := 89) rfl)
theorem w90 {Z : State} {a0 : Array Value} (hw : oHw Z a0) : (Jvm.Cond.code ({ cls := z0, name := "checkIndex", desc := "(II)V" } : Jvm.MethodName) jdk_42_method_155_code (2 : Nat) (Option.none : Option Jvm.ClassFile.FieldType)).before a0 Z = true := hw _ (List.mem_of_getElem? (i := 90) rfl)
theorem w91 {Z : State} {a0 : Array Value} (hw : oHw Z a0) : (Jvm.Cond.fieldLink z0 (1053 : Nat) z3 z5 z6).before a0 Z = true := hw _ (List.mem_of_getElem? (i := 91) rfl)
theorem w92 {Z : State} {a0 : Array Value} (hw : oHw Z a0) : (Jvm.Cond.initialized z3).before a0 Z = true := hw _ (List.mem_of_getElem? (i := 92) rfl)
theorem w93 {Z : State} {a0 : Array Value} (hw : oHw Z a0) : (Jvm.Cond.methodLink z0 (1059 : Nat) ({ cls := z3, name := "checkIndex", desc := "(IILjava/util/function/BiFunction;)I" } : Jvm.MethodName)).before a0 Z = true := hw _ (List.mem_of_getElem? (i := 93) rfl)
theorem w94 {Z : State} {a0 : Array Value} (hw : oHw Z a0) : (Jvm.Cond.static ({ cls := z3, name := "checkIndex", desc := "(IILjava/util/function/BiFunction;)I" } : Jvm.MethodName)).before a0 Z = true := hw _ (List.mem_of_getElem? (i := 94) rfl)
theorem w95 {Z : State} {a0 : Array Value} (hw : oHw Z a0) : (Jvm.Cond.code ({ cls := z3, name := "checkIndex", desc := "(IILjava/util/function/BiFunction;)I" } : Jvm.MethodName) jdk_41_method_11_code (3 : Nat) (Option.some Jvm.ClassFile.FieldType.int)).before a0 Z = true := hw _ (List.mem_of_getElem? (i := 95) rfl)
theorem w96 {Z : State} {a0 : Array Value} (hw : oHw Z a0) : (Jvm.Cond.methodLink z1 (62 : Nat) ({ cls := "java/util/function/IntPredicate", name := "test", desc := "(I)Z" } : Jvm.MethodName)).before a0 Z = true := hw _ (List.mem_of_getElem? (i := 96) rfl)
theorem w97 {Z : State} {a0 : Array Value} (hw : oHw Z a0) : (Jvm.Cond.declares ({ cls := "java/util/function/IntPredicate", name := "test", desc := "(I)Z" } : Jvm.MethodName)).before a0 Z = true := hw _ (List.mem_of_getElem? (i := 97) rfl)
theorem w98 {Z : State} {a0 : Array Value} (hw : oHw Z a0) : (Jvm.Cond.interfaceMethod "java/util/function/IntPredicate" "java/util/function/IntPredicate" "test" "(I)Z").before a0 Z = true := hw _ (List.mem_of_getElem? (i := 98) rfl)
theorem w99 {Z : State} {a0 : Array Value} (hw : oHw Z a0) : (Jvm.Cond.static ({ cls := z1, name := "isShelfChar", desc := "(I)Z" } : Jvm.MethodName)).before a0 Z = true := hw _ (List.mem_of_getElem? (i := 99) rfl)
theorem w100 {Z : State} {a0 : Array Value} (hw : oHw Z a0) : (Jvm.Cond.code ({ cls := z1, name := "isShelfChar", desc := "(I)Z" } : Jvm.MethodName) prog_16_method_7_code (1 : Nat) (Option.some Jvm.ClassFile.FieldType.boolean)).before a0 Z = true := hw _ (List.mem_of_getElem? (i := 100) rfl)
theorem w101 {Z : State} {a0 : Array Value} (hw : oHw Z a0) : (Jvm.Cond.methodLink z1 (20 : Nat) ({ cls := z1, name := "isRecordId", desc := "(Ljava/lang/String;)Z" } : Jvm.MethodName)).before a0 Z = true := hw _ (List.mem_of_getElem? (i := 101) rfl)
theorem w102 {Z : State} {a0 : Array Value} (hw : oHw Z a0) : (Jvm.Cond.static ({ cls := z1, name := "isRecordId", desc := "(Ljava/lang/String;)Z" } : Jvm.MethodName)).before a0 Z = true := hw _ (List.mem_of_getElem? (i := 102) rfl)
theorem w103 {Z : State} {a0 : Array Value} (hw : oHw Z a0) : (Jvm.Cond.code ({ cls := z1, name := "isRecordId", desc := "(Ljava/lang/String;)Z" } : Jvm.MethodName) prog_16_method_5_code (1 : Nat) (Option.some Jvm.ClassFile.FieldType.boolean)).before a0 Z = true := hw _ (List.mem_of_getElem? (i := 103) rfl)
theorem w104 {Z : State} {a0 : Array Value} (hw : oHw Z a0) : (Jvm.Cond.lambdaSite ({ cls := z1, name := "isRecordId", desc := "(Ljava/lang/String;)Z" } : Jvm.MethodName) (4 : Nat) (50 : Nat) (Jvm.Lambda.Shape.mk "java/util/function/IntPredicate" "test" (Jvm.ClassFile.MethodDescriptor.mk ([Jvm.ClassFile.FieldType.int] : List Jvm.ClassFile.FieldType) (Option.some Jvm.ClassFile.FieldType.boolean)) ([] : List Jvm.ClassFile.FieldType) (6 : Nat) z1 "isIdChar" (Jvm.ClassFile.MethodDescriptor.mk ([Jvm.ClassFile.FieldType.int] : List Jvm.ClassFile.FieldType) (Option.some Jvm.ClassFile.FieldType.boolean)) false (Jvm.ClassFile.MethodDescriptor.mk ([Jvm.ClassFile.FieldType.int] : List Jvm.ClassFile.FieldType) (Option.some Jvm.ClassFile.FieldType.boolean)))).before a0 Z = true := hw _ (List.mem_of_getElem? (i := 104) rfl)
theorem w105 {Z : State} {a0 : Array Value} (hw : oHw Z a0) : (Jvm.Cond.static ({ cls := z1, name := "isIdChar", desc := "(I)Z" } : Jvm.MethodName)).before a0 Z = true := hw _ (List.mem_of_getElem? (i := 105) rfl)
theorem w106 {Z : State} {a0 : Array Value} (hw : oHw Z a0) : (Jvm.Cond.code ({ cls := z1, name := "isIdChar", desc := "(I)Z" } : Jvm.MethodName) prog_16_method_8_code (1 : Nat) (Option.some Jvm.ClassFile.FieldType.boolean)).before a0 Z = true := hw _ (List.mem_of_getElem? (i := 106) rfl)
theorem w107 {Z : State} {a0 : Array Value} (hw : oHw Z a0) : (Jvm.Cond.methodLink z1 (67 : Nat) ({ cls := z1, name := "isShelfChar", desc := "(I)Z" } : Jvm.MethodName)).before a0 Z = true := hw _ (List.mem_of_getElem? (i := 107) rfl)
theorem w108 {Z : State} {a0 : Array Value} (hw : oHw Z a0) : (Jvm.Cond.fieldLink z1 (25 : Nat) z1 "shelf" z2).before a0 Z = true := hw _ (List.mem_of_getElem? (i := 108) rfl)
theorem w109 {Z : State} {a0 : Array Value} (hw : oHw Z a0) : (Jvm.Cond.laysFinal z1 z1 "shelf" z2).before a0 Z = true := hw _ (List.mem_of_getElem? (i := 109) rfl)
theorem w110 {Z : State} {a0 : Array Value} (hw : oHw Z a0) : (Jvm.Cond.fieldLink z1 (29 : Nat) z1 "id" z2).before a0 Z = true := hw _ (List.mem_of_getElem? (i := 110) rfl)
theorem w111 {Z : State} {a0 : Array Value} (hw : oHw Z a0) : (Jvm.Cond.laysFinal z1 z1 "id" z2).before a0 Z = true := hw _ (List.mem_of_getElem? (i := 111) rfl)
theorem w112 {Z : State} {a0 : Array Value} (hw : oHw Z a0) : (Jvm.Cond.methodLink z7 (27 : Nat) ({ cls := z1, name := "equals", desc := z10 } : Jvm.MethodName)).before a0 Z = true := hw _ (List.mem_of_getElem? (i := 112) rfl)
theorem w113 {Z : State} {a0 : Array Value} (hw : oHw Z a0) : (Jvm.Cond.declares ({ cls := z1, name := "equals", desc := z10 } : Jvm.MethodName)).before a0 Z = true := hw _ (List.mem_of_getElem? (i := 113) rfl)
theorem w114 {Z : State} {a0 : Array Value} (hw : oHw Z a0) : (Jvm.Cond.instanceMethod ({ cls := z1, name := "equals", desc := z10 } : Jvm.MethodName)).before a0 Z = true := hw _ (List.mem_of_getElem? (i := 114) rfl)
theorem w115 {Z : State} {a0 : Array Value} (hw : oHw Z a0) : (Jvm.Cond.selects z1 ({ cls := z1, name := "equals", desc := z10 } : Jvm.MethodName) ({ cls := z1, name := "equals", desc := z10 } : Jvm.MethodName)).before a0 Z = true := hw _ (List.mem_of_getElem? (i := 115) rfl)
theorem w116 {Z : State} {a0 : Array Value} (hw : oHw Z a0) : (Jvm.Cond.code ({ cls := z1, name := "equals", desc := z10 } : Jvm.MethodName) prog_16_method_2_code (3 : Nat) (Option.some Jvm.ClassFile.FieldType.boolean)).before a0 Z = true := hw _ (List.mem_of_getElem? (i := 116) rfl)
theorem w117 {Z : State} {a0 : Array Value} (hw : oHw Z a0) : (Jvm.Cond.classLink z1 (1 : Nat) z1).before a0 Z = true := hw _ (List.mem_of_getElem? (i := 117) rfl)
theorem w118 {Z : State} {a0 : Array Value} (hw : oHw Z a0) : (Jvm.Cond.methodLink z1 (32 : Nat) ({ cls := z0, name := "equals", desc := z10 } : Jvm.MethodName)).before a0 Z = true := hw _ (List.mem_of_getElem? (i := 118) rfl)
theorem w119 {Z : State} {a0 : Array Value} (hw : oHw Z a0) : (Jvm.Cond.declares ({ cls := z0, name := "equals", desc := z10 } : Jvm.MethodName)).before a0 Z = true := hw _ (List.mem_of_getElem? (i := 119) rfl)
theorem w120 {Z : State} {a0 : Array Value} (hw : oHw Z a0) : (Jvm.Cond.instanceMethod ({ cls := z0, name := "equals", desc := z10 } : Jvm.MethodName)).before a0 Z = true := hw _ (List.mem_of_getElem? (i := 120) rfl)
theorem w121 {Z : State} {a0 : Array Value} (hw : oHw Z a0) : (Jvm.Cond.selects z0 ({ cls := z0, name := "equals", desc := z10 } : Jvm.MethodName) ({ cls := z0, name := "equals", desc := z10 } : Jvm.MethodName)).before a0 Z = true := hw _ (List.mem_of_getElem? (i := 121) rfl)
theorem w122 {Z : State} {a0 : Array Value} (hw : oHw Z a0) : (Jvm.Cond.code ({ cls := z0, name := "equals", desc := z10 } : Jvm.MethodName) jdk_42_method_66_code (3 : Nat) (Option.some Jvm.ClassFile.FieldType.boolean)).before a0 Z = true := hw _ (List.mem_of_getElem? (i := 122) rfl)
theorem w123 {Z : State} {a0 : Array Value} (hw : oHw Z a0) : (Jvm.Cond.classLink z0 (10 : Nat) z0).before a0 Z = true := hw _ (List.mem_of_getElem? (i := 123) rfl)
theorem w124 {Z : State} {a0 : Array Value} (hw : oHw Z a0) : (Jvm.Cond.methodLink z0 (541 : Nat) ({ cls := "java/lang/StringLatin1", name := "equals", desc := "([B[B)Z" } : Jvm.MethodName)).before a0 Z = true := hw _ (List.mem_of_getElem? (i := 124) rfl)
theorem w125 {Z : State} {a0 : Array Value} (hw : oHw Z a0) : (Jvm.Cond.static ({ cls := "java/lang/StringLatin1", name := "equals", desc := "([B[B)Z" } : Jvm.MethodName)).before a0 Z = true := hw _ (List.mem_of_getElem? (i := 125) rfl)
theorem w126 {Z : State} {a0 : Array Value} (hw : oHw Z a0) : (Jvm.Cond.code ({ cls := "java/lang/StringLatin1", name := "equals", desc := "([B[B)Z" } : Jvm.MethodName) jdk_43_method_13_code (3 : Nat) (Option.some Jvm.ClassFile.FieldType.boolean)).before a0 Z = true := hw _ (List.mem_of_getElem? (i := 126) rfl)
theorem w127 {Z : State} {a0 : Array Value} (hw : oHw Z a0) : (Jvm.Cond.superclass z0 "java/lang/Object").before a0 Z = true := hw _ (List.mem_of_getElem? (i := 127) rfl)
theorem w128 {Z : State} {a0 : Array Value} (hw : oHw Z a0) : (Jvm.Cond.noSuperclass "java/lang/Object").before a0 Z = true := hw _ (List.mem_of_getElem? (i := 128) rfl)
theorem d0_0 : decode method_2_code 0 = .ok (.iload_n 0, 1) := by decide +kernel
theorem d0_1 : decode method_2_code 1 = .ok (.ldc 7, 2) := by decide +kernel
theorem d0_3 : decode method_2_code 3 = .ok (.iand, 1) := by decide +kernel
theorem d0_4 : decode method_2_code 4 = .ok (.bipush 37, 2) := by decide +kernel
theorem d0_6 : decode method_2_code 6 = .ok (.irem, 1) := by decide +kernel
theorem d0_7 : decode method_2_code 7 = .ok (.istore_n 1, 1) := by decide +kernel
theorem d0_8 : decode method_2_code 8 = .ok (.iload_n 1, 1) := by decide +kernel
theorem d0_9 : decode method_2_code 9 = .ok (.bipush 26, 2) := by decide +kernel
theorem d0_11 : decode method_2_code 11 = .ok (.if_icmp .ge 9, 3) := by decide +kernel
theorem d0_14 : decode method_2_code 14 = .ok (.bipush 97, 2) := by decide +kernel
theorem d0_16 : decode method_2_code 16 = .ok (.iload_n 1, 1) := by decide +kernel
theorem d0_17 : decode method_2_code 17 = .ok (.iadd, 1) := by decide +kernel
theorem d0_18 : decode method_2_code 18 = .ok (.i2c, 1) := by decide +kernel
theorem d0_19 : decode method_2_code 19 = .ok (.ireturn, 1) := by decide +kernel
theorem d0_20 : decode method_2_code 20 = .ok (.iload_n 1, 1) := by decide +kernel
theorem d0_21 : decode method_2_code 21 = .ok (.bipush 36, 2) := by decide +kernel
theorem d0_23 : decode method_2_code 23 = .ok (.if_icmp .ge 12, 3) := by decide +kernel
theorem d0_26 : decode method_2_code 26 = .ok (.bipush 48, 2) := by decide +kernel
theorem d0_28 : decode method_2_code 28 = .ok (.iload_n 1, 1) := by decide +kernel
theorem d0_29 : decode method_2_code 29 = .ok (.bipush 26, 2) := by decide +kernel
theorem d0_31 : decode method_2_code 31 = .ok (.isub, 1) := by decide +kernel
theorem d0_32 : decode method_2_code 32 = .ok (.iadd, 1) := by decide +kernel
theorem d0_33 : decode method_2_code 33 = .ok (.i2c, 1) := by decide +kernel
theorem d0_34 : decode method_2_code 34 = .ok (.ireturn, 1) := by decide +kernel
theorem d0_35 : decode method_2_code 35 = .ok (.bipush 45, 2) := by decide +kernel
theorem d0_37 : decode method_2_code 37 = .ok (.ireturn, 1) := by decide +kernel
def r_shelfChar : Room := { frames := 0, cells := 0, slots := 0, locals := 0 }
def Q_shelfChar (Z : State) (x : Int32) (h0 : Heap) (v : Option Value) (h : Heap) : Prop := ∃ r : Int32, v = some (.int r) ∧ h0 = h ∧ oSh r ∧ oCh r ∧ nar .char r = r
theorem rm_shelfChar (l : Launch) (Z : State) (a0 : Array Value) (hw : oHw Z a0) (x : Int32) (h0 : Heap) : oMet l Z (⟨z7, "shelfChar", "(I)C"⟩ : MethodName) method_2_code 2 (some .char) r_shelfChar [] #[.int x] h0 (Q_shelfChar Z x h0) := by
 refine oEnter (plainFor_of_name (by first | (simp [plainName, overriddenIn]; done) | decide +kernel)) (own := z7) (nm := "shelfChar") rfl rfl (L := #[.val (.int x), .unset]) (fun m => by first | (simp [entryFrame, mkF, argsToLocals, Value.category]; done) | rfl) ?_
 intro pp ee ss mm bb mtd cc T0 K X0
 have E0 := X0.ext0
 refine o_iloadN K X0 d0_0 rfl rfl ?_
 refine o_ldc K X0 (w5 hw) d0_1 rfl ?_
 refine o_iand K X0 d0_3 rfl (z := (x &&& (2147483647 : Int32))) rfl ?_
 refine o_bipush K X0 d0_4 rfl (z := 37) rfl ?_
 refine o_irem K X0 d0_6 rfl (by decide) (z := ((x &&& (2147483647 : Int32)) % (37 : Int32))) rfl ?_
 refine o_istoreN K X0 d0_7 rfl (L' := #[vI x, vI ((x &&& (2147483647 : Int32)) % (37 : Int32))]) rfl ?_
 refine o_iloadN K X0 d0_8 rfl rfl ?_
 refine o_bipush K X0 d0_9 rfl (z := 26) rfl ?_
 by_cases c11_1 : ((x &&& (2147483647 : Int32)) % (37 : Int32)) < (26 : Int32)
 refine o_icmp_ge_f K X0 d0_11 rfl c11_1 ?_
 refine o_bipush K X0 d0_14 rfl (z := 97) rfl ?_
 refine o_iloadN K X0 d0_16 rfl rfl ?_
 refine o_iadd K X0 d0_17 rfl (z := ((97 : Int32) + ((x &&& (2147483647 : Int32)) % (37 : Int32)))) rfl ?_
 refine o_i2c K X0 d0_18 rfl (z := ((97 : Int32) + ((x &&& (2147483647 : Int32)) % (37 : Int32)))) (oChN (oSa (oK37 x) c11_1).2) ?_
 refine o_ireturnN K X0 .char d0_19 rfl (by simp) (z' := ((97 : Int32) + ((x &&& (2147483647 : Int32)) % (37 : Int32)))) (oChN (oSa (oK37 x) c11_1).2) ?_ (by decide) (by decide)
 exact ⟨((97 : Int32) + ((x &&& (2147483647 : Int32)) % (37 : Int32))), rfl, rfl, (show oSh ((97 : Int32) + ((x &&& (2147483647 : Int32)) % (37 : Int32))) ∧ oCh ((97 : Int32) + ((x &&& (2147483647 : Int32)) % (37 : Int32))) from oSa (oK37 x) c11_1).1, (show oSh ((97 : Int32) + ((x &&& (2147483647 : Int32)) % (37 : Int32))) ∧ oCh ((97 : Int32) + ((x &&& (2147483647 : Int32)) % (37 : Int32))) from oSa (oK37 x) c11_1).2, (oChN (show oSh ((97 : Int32) + ((x &&& (2147483647 : Int32)) % (37 : Int32))) ∧ oCh ((97 : Int32) + ((x &&& (2147483647 : Int32)) % (37 : Int32))) from oSa (oK37 x) c11_1).2)⟩
 refine o_icmp_ge_t K X0 d0_11 (by decide) (pc' := 20) (by decide) c11_1 ?_
 refine o_iloadN K X0 d0_20 rfl rfl ?_
 refine o_bipush K X0 d0_21 rfl (z := 36) rfl ?_
 by_cases c23_2 : ((x &&& (2147483647 : Int32)) % (37 : Int32)) < (36 : Int32)
 refine o_icmp_ge_f K X0 d0_23 rfl c23_2 ?_
 refine o_bipush K X0 d0_26 rfl (z := 48) rfl ?_
 refine o_iloadN K X0 d0_28 rfl rfl ?_
 refine o_bipush K X0 d0_29 rfl (z := 26) rfl ?_
 refine o_isub K X0 d0_31 rfl (z := (((x &&& (2147483647 : Int32)) % (37 : Int32)) - (26 : Int32))) rfl ?_
 refine o_iadd K X0 d0_32 rfl (z := ((48 : Int32) + (((x &&& (2147483647 : Int32)) % (37 : Int32)) - (26 : Int32)))) rfl ?_
 refine o_i2c K X0 d0_33 rfl (z := ((48 : Int32) + (((x &&& (2147483647 : Int32)) % (37 : Int32)) - (26 : Int32)))) (oChN (oSb (oK37 x) c11_1 c23_2).2) ?_
 refine o_ireturnN K X0 .char d0_34 rfl (by simp) (z' := ((48 : Int32) + (((x &&& (2147483647 : Int32)) % (37 : Int32)) - (26 : Int32)))) (oChN (oSb (oK37 x) c11_1 c23_2).2) ?_ (by decide) (by decide)
 exact ⟨((48 : Int32) + (((x &&& (2147483647 : Int32)) % (37 : Int32)) - (26 : Int32))), rfl, rfl, (show oSh ((48 : Int32) + (((x &&& (2147483647 : Int32)) % (37 : Int32)) - (26 : Int32))) ∧ oCh ((48 : Int32) + (((x &&& (2147483647 : Int32)) % (37 : Int32)) - (26 : Int32))) from oSb (oK37 x) c11_1 c23_2).1, (show oSh ((48 : Int32) + (((x &&& (2147483647 : Int32)) % (37 : Int32)) - (26 : Int32))) ∧ oCh ((48 : Int32) + (((x &&& (2147483647 : Int32)) % (37 : Int32)) - (26 : Int32))) from oSb (oK37 x) c11_1 c23_2).2, (oChN (show oSh ((48 : Int32) + (((x &&& (2147483647 : Int32)) % (37 : Int32)) - (26 : Int32))) ∧ oCh ((48 : Int32) + (((x &&& (2147483647 : Int32)) % (37 : Int32)) - (26 : Int32))) from oSb (oK37 x) c11_1 c23_2).2)⟩
 refine o_icmp_ge_t K X0 d0_23 (by decide) (pc' := 35) (by decide) c23_2 ?_
 refine o_bipush K X0 d0_35 rfl (z := 45) rfl ?_
 refine o_ireturnN K X0 .char d0_37 rfl (by simp) (z' := 45) (by decide) ?_ (by decide) (by decide)
 exact ⟨(45 : Int32), rfl, rfl, (show oSh (45 : Int32) ∧ oCh (45 : Int32) from ⟨by decide, by decide⟩).1, (show oSh (45 : Int32) ∧ oCh (45 : Int32) from ⟨by decide, by decide⟩).2, (oChN (show oSh (45 : Int32) ∧ oCh (45 : Int32) from ⟨by decide, by decide⟩).2)⟩
theorem d1_0 : decode method_3_code 0 = .ok (.iload_n 0, 1) := by decide +kernel
theorem d1_1 : decode method_3_code 1 = .ok (.ldc 7, 2) := by decide +kernel
theorem d1_3 : decode method_3_code 3 = .ok (.iand, 1) := by decide +kernel
theorem d1_4 : decode method_3_code 4 = .ok (.bipush 64, 2) := by decide +kernel
theorem d1_6 : decode method_3_code 6 = .ok (.irem, 1) := by decide +kernel
theorem d1_7 : decode method_3_code 7 = .ok (.istore_n 1, 1) := by decide +kernel
theorem d1_8 : decode method_3_code 8 = .ok (.iload_n 1, 1) := by decide +kernel
theorem d1_9 : decode method_3_code 9 = .ok (.bipush 26, 2) := by decide +kernel
theorem d1_11 : decode method_3_code 11 = .ok (.if_icmp .ge 9, 3) := by decide +kernel
theorem d1_14 : decode method_3_code 14 = .ok (.bipush 97, 2) := by decide +kernel
theorem d1_16 : decode method_3_code 16 = .ok (.iload_n 1, 1) := by decide +kernel
theorem d1_17 : decode method_3_code 17 = .ok (.iadd, 1) := by decide +kernel
theorem d1_18 : decode method_3_code 18 = .ok (.i2c, 1) := by decide +kernel
theorem d1_19 : decode method_3_code 19 = .ok (.ireturn, 1) := by decide +kernel
theorem d1_20 : decode method_3_code 20 = .ok (.iload_n 1, 1) := by decide +kernel
theorem d1_21 : decode method_3_code 21 = .ok (.bipush 52, 2) := by decide +kernel
theorem d1_23 : decode method_3_code 23 = .ok (.if_icmp .ge 12, 3) := by decide +kernel
theorem d1_26 : decode method_3_code 26 = .ok (.bipush 65, 2) := by decide +kernel
theorem d1_28 : decode method_3_code 28 = .ok (.iload_n 1, 1) := by decide +kernel
theorem d1_29 : decode method_3_code 29 = .ok (.bipush 26, 2) := by decide +kernel
theorem d1_31 : decode method_3_code 31 = .ok (.isub, 1) := by decide +kernel
theorem d1_32 : decode method_3_code 32 = .ok (.iadd, 1) := by decide +kernel
theorem d1_33 : decode method_3_code 33 = .ok (.i2c, 1) := by decide +kernel
theorem d1_34 : decode method_3_code 34 = .ok (.ireturn, 1) := by decide +kernel
theorem d1_35 : decode method_3_code 35 = .ok (.iload_n 1, 1) := by decide +kernel
theorem d1_36 : decode method_3_code 36 = .ok (.bipush 62, 2) := by decide +kernel
theorem d1_38 : decode method_3_code 38 = .ok (.if_icmp .ge 12, 3) := by decide +kernel
theorem d1_41 : decode method_3_code 41 = .ok (.bipush 48, 2) := by decide +kernel
theorem d1_43 : decode method_3_code 43 = .ok (.iload_n 1, 1) := by decide +kernel
theorem d1_44 : decode method_3_code 44 = .ok (.bipush 52, 2) := by decide +kernel
theorem d1_46 : decode method_3_code 46 = .ok (.isub, 1) := by decide +kernel
theorem d1_47 : decode method_3_code 47 = .ok (.iadd, 1) := by decide +kernel
theorem d1_48 : decode method_3_code 48 = .ok (.i2c, 1) := by decide +kernel
theorem d1_49 : decode method_3_code 49 = .ok (.ireturn, 1) := by decide +kernel
theorem d1_50 : decode method_3_code 50 = .ok (.iload_n 1, 1) := by decide +kernel
theorem d1_51 : decode method_3_code 51 = .ok (.bipush 62, 2) := by decide +kernel
theorem d1_53 : decode method_3_code 53 = .ok (.if_icmp .ne 6, 3) := by decide +kernel
theorem d1_56 : decode method_3_code 56 = .ok (.bipush 45, 2) := by decide +kernel
theorem d1_58 : decode method_3_code 58 = .ok (.ireturn, 1) := by decide +kernel
theorem d1_59 : decode method_3_code 59 = .ok (.bipush 95, 2) := by decide +kernel
theorem d1_61 : decode method_3_code 61 = .ok (.ireturn, 1) := by decide +kernel
def r_idChar : Room := { frames := 0, cells := 0, slots := 0, locals := 0 }
def Q_idChar (Z : State) (x : Int32) (h0 : Heap) (v : Option Value) (h : Heap) : Prop := ∃ r : Int32, v = some (.int r) ∧ h0 = h ∧ oId r ∧ oCh r ∧ nar .char r = r
theorem rm_idChar (l : Launch) (Z : State) (a0 : Array Value) (hw : oHw Z a0) (x : Int32) (h0 : Heap) : oMet l Z (⟨z7, "idChar", "(I)C"⟩ : MethodName) method_3_code 2 (some .char) r_idChar [] #[.int x] h0 (Q_idChar Z x h0) := by
 refine oEnter (plainFor_of_name (by first | (simp [plainName, overriddenIn]; done) | decide +kernel)) (own := z7) (nm := "idChar") rfl rfl (L := #[.val (.int x), .unset]) (fun m => by first | (simp [entryFrame, mkF, argsToLocals, Value.category]; done) | rfl) ?_
 intro pp ee ss mm bb mtd cc T0 K X0
 have E0 := X0.ext0
 refine o_iloadN K X0 d1_0 rfl rfl ?_
 refine o_ldc K X0 (w5 hw) d1_1 rfl ?_
 refine o_iand K X0 d1_3 rfl (z := (x &&& (2147483647 : Int32))) rfl ?_
 refine o_bipush K X0 d1_4 rfl (z := 64) rfl ?_
 refine o_irem K X0 d1_6 rfl (by decide) (z := ((x &&& (2147483647 : Int32)) % (64 : Int32))) rfl ?_
 refine o_istoreN K X0 d1_7 rfl (L' := #[vI x, vI ((x &&& (2147483647 : Int32)) % (64 : Int32))]) rfl ?_
 refine o_iloadN K X0 d1_8 rfl rfl ?_
 refine o_bipush K X0 d1_9 rfl (z := 26) rfl ?_
 by_cases c11_1 : ((x &&& (2147483647 : Int32)) % (64 : Int32)) < (26 : Int32)
 refine o_icmp_ge_f K X0 d1_11 rfl c11_1 ?_
 refine o_bipush K X0 d1_14 rfl (z := 97) rfl ?_
 refine o_iloadN K X0 d1_16 rfl rfl ?_
 refine o_iadd K X0 d1_17 rfl (z := ((97 : Int32) + ((x &&& (2147483647 : Int32)) % (64 : Int32)))) rfl ?_
 refine o_i2c K X0 d1_18 rfl (z := ((97 : Int32) + ((x &&& (2147483647 : Int32)) % (64 : Int32)))) (oChN (oIa (oK64 x) c11_1).2) ?_
 refine o_ireturnN K X0 .char d1_19 rfl (by simp) (z' := ((97 : Int32) + ((x &&& (2147483647 : Int32)) % (64 : Int32)))) (oChN (oIa (oK64 x) c11_1).2) ?_ (by decide) (by decide)
 exact ⟨((97 : Int32) + ((x &&& (2147483647 : Int32)) % (64 : Int32))), rfl, rfl, (show oId ((97 : Int32) + ((x &&& (2147483647 : Int32)) % (64 : Int32))) ∧ oCh ((97 : Int32) + ((x &&& (2147483647 : Int32)) % (64 : Int32))) from oIa (oK64 x) c11_1).1, (show oId ((97 : Int32) + ((x &&& (2147483647 : Int32)) % (64 : Int32))) ∧ oCh ((97 : Int32) + ((x &&& (2147483647 : Int32)) % (64 : Int32))) from oIa (oK64 x) c11_1).2, (oChN (show oId ((97 : Int32) + ((x &&& (2147483647 : Int32)) % (64 : Int32))) ∧ oCh ((97 : Int32) + ((x &&& (2147483647 : Int32)) % (64 : Int32))) from oIa (oK64 x) c11_1).2)⟩
 refine o_icmp_ge_t K X0 d1_11 (by decide) (pc' := 20) (by decide) c11_1 ?_
 refine o_iloadN K X0 d1_20 rfl rfl ?_
 refine o_bipush K X0 d1_21 rfl (z := 52) rfl ?_
 by_cases c23_2 : ((x &&& (2147483647 : Int32)) % (64 : Int32)) < (52 : Int32)
 refine o_icmp_ge_f K X0 d1_23 rfl c23_2 ?_
 refine o_bipush K X0 d1_26 rfl (z := 65) rfl ?_
 refine o_iloadN K X0 d1_28 rfl rfl ?_
 refine o_bipush K X0 d1_29 rfl (z := 26) rfl ?_
 refine o_isub K X0 d1_31 rfl (z := (((x &&& (2147483647 : Int32)) % (64 : Int32)) - (26 : Int32))) rfl ?_
 refine o_iadd K X0 d1_32 rfl (z := ((65 : Int32) + (((x &&& (2147483647 : Int32)) % (64 : Int32)) - (26 : Int32)))) rfl ?_
 refine o_i2c K X0 d1_33 rfl (z := ((65 : Int32) + (((x &&& (2147483647 : Int32)) % (64 : Int32)) - (26 : Int32)))) (oChN (oJb (oK64 x) c11_1 c23_2).2) ?_
 refine o_ireturnN K X0 .char d1_34 rfl (by simp) (z' := ((65 : Int32) + (((x &&& (2147483647 : Int32)) % (64 : Int32)) - (26 : Int32)))) (oChN (oJb (oK64 x) c11_1 c23_2).2) ?_ (by decide) (by decide)
 exact ⟨((65 : Int32) + (((x &&& (2147483647 : Int32)) % (64 : Int32)) - (26 : Int32))), rfl, rfl, (show oId ((65 : Int32) + (((x &&& (2147483647 : Int32)) % (64 : Int32)) - (26 : Int32))) ∧ oCh ((65 : Int32) + (((x &&& (2147483647 : Int32)) % (64 : Int32)) - (26 : Int32))) from oJb (oK64 x) c11_1 c23_2).1, (show oId ((65 : Int32) + (((x &&& (2147483647 : Int32)) % (64 : Int32)) - (26 : Int32))) ∧ oCh ((65 : Int32) + (((x &&& (2147483647 : Int32)) % (64 : Int32)) - (26 : Int32))) from oJb (oK64 x) c11_1 c23_2).2, (oChN (show oId ((65 : Int32) + (((x &&& (2147483647 : Int32)) % (64 : Int32)) - (26 : Int32))) ∧ oCh ((65 : Int32) + (((x &&& (2147483647 : Int32)) % (64 : Int32)) - (26 : Int32))) from oJb (oK64 x) c11_1 c23_2).2)⟩
 refine o_icmp_ge_t K X0 d1_23 (by decide) (pc' := 35) (by decide) c23_2 ?_
 refine o_iloadN K X0 d1_35 rfl rfl ?_
 refine o_bipush K X0 d1_36 rfl (z := 62) rfl ?_
 by_cases c38_3 : ((x &&& (2147483647 : Int32)) % (64 : Int32)) < (62 : Int32)
 refine o_icmp_ge_f K X0 d1_38 rfl c38_3 ?_
 refine o_bipush K X0 d1_41 rfl (z := 48) rfl ?_
 refine o_iloadN K X0 d1_43 rfl rfl ?_
 refine o_bipush K X0 d1_44 rfl (z := 52) rfl ?_
 refine o_isub K X0 d1_46 rfl (z := (((x &&& (2147483647 : Int32)) % (64 : Int32)) - (52 : Int32))) rfl ?_
 refine o_iadd K X0 d1_47 rfl (z := ((48 : Int32) + (((x &&& (2147483647 : Int32)) % (64 : Int32)) - (52 : Int32)))) rfl ?_
 refine o_i2c K X0 d1_48 rfl (z := ((48 : Int32) + (((x &&& (2147483647 : Int32)) % (64 : Int32)) - (52 : Int32)))) (oChN (oJc (oK64 x) c23_2 c38_3).2) ?_
 refine o_ireturnN K X0 .char d1_49 rfl (by simp) (z' := ((48 : Int32) + (((x &&& (2147483647 : Int32)) % (64 : Int32)) - (52 : Int32)))) (oChN (oJc (oK64 x) c23_2 c38_3).2) ?_ (by decide) (by decide)
 exact ⟨((48 : Int32) + (((x &&& (2147483647 : Int32)) % (64 : Int32)) - (52 : Int32))), rfl, rfl, (show oId ((48 : Int32) + (((x &&& (2147483647 : Int32)) % (64 : Int32)) - (52 : Int32))) ∧ oCh ((48 : Int32) + (((x &&& (2147483647 : Int32)) % (64 : Int32)) - (52 : Int32))) from oJc (oK64 x) c23_2 c38_3).1, (show oId ((48 : Int32) + (((x &&& (2147483647 : Int32)) % (64 : Int32)) - (52 : Int32))) ∧ oCh ((48 : Int32) + (((x &&& (2147483647 : Int32)) % (64 : Int32)) - (52 : Int32))) from oJc (oK64 x) c23_2 c38_3).2, (oChN (show oId ((48 : Int32) + (((x &&& (2147483647 : Int32)) % (64 : Int32)) - (52 : Int32))) ∧ oCh ((48 : Int32) + (((x &&& (2147483647 : Int32)) % (64 : Int32)) - (52 : Int32))) from oJc (oK64 x) c23_2 c38_3).2)⟩
 refine o_icmp_ge_t K X0 d1_38 (by decide) (pc' := 50) (by decide) c38_3 ?_
 refine o_iloadN K X0 d1_50 rfl rfl ?_
 refine o_bipush K X0 d1_51 rfl (z := 62) rfl ?_
 by_cases c53_4 : ((x &&& (2147483647 : Int32)) % (64 : Int32)) = (62 : Int32)
 refine o_icmp_ne_f K X0 d1_53 rfl c53_4 ?_
 refine o_bipush K X0 d1_56 rfl (z := 45) rfl ?_
 refine o_ireturnN K X0 .char d1_58 rfl (by simp) (z' := 45) (by decide) ?_ (by decide) (by decide)
 exact ⟨(45 : Int32), rfl, rfl, (show oId (45 : Int32) ∧ oCh (45 : Int32) from ⟨by decide, by decide⟩).1, (show oId (45 : Int32) ∧ oCh (45 : Int32) from ⟨by decide, by decide⟩).2, (oChN (show oId (45 : Int32) ∧ oCh (45 : Int32) from ⟨by decide, by decide⟩).2)⟩
 refine o_icmp_ne_t K X0 d1_53 (by decide) (pc' := 59) (by decide) c53_4 ?_
 refine o_bipush K X0 d1_59 rfl (z := 95) rfl ?_
 refine o_ireturnN K X0 .char d1_61 rfl (by simp) (z' := 95) (by decide) ?_ (by decide) (by decide)
 exact ⟨(95 : Int32), rfl, rfl, (show oId (95 : Int32) ∧ oCh (95 : Int32) from ⟨by decide, by decide⟩).1, (show oId (95 : Int32) ∧ oCh (95 : Int32) from ⟨by decide, by decide⟩).2, (oChN (show oId (95 : Int32) ∧ oCh (95 : Int32) from ⟨by decide, by decide⟩).2)⟩
theorem d2_0 : decode prog_16_method_7_code 0 = .ok (.iload_n 0, 1) := by decide +kernel
theorem d2_1 : decode prog_16_method_7_code 1 = .ok (.bipush 97, 2) := by decide +kernel
theorem d2_3 : decode prog_16_method_7_code 3 = .ok (.if_icmp .lt 9, 3) := by decide +kernel
theorem d2_6 : decode prog_16_method_7_code 6 = .ok (.iload_n 0, 1) := by decide +kernel
theorem d2_7 : decode prog_16_method_7_code 7 = .ok (.bipush 122, 2) := by decide +kernel
theorem d2_9 : decode prog_16_method_7_code 9 = .ok (.if_icmp .le 21, 3) := by decide +kernel
theorem d2_12 : decode prog_16_method_7_code 12 = .ok (.iload_n 0, 1) := by decide +kernel
theorem d2_13 : decode prog_16_method_7_code 13 = .ok (.bipush 48, 2) := by decide +kernel
theorem d2_15 : decode prog_16_method_7_code 15 = .ok (.if_icmp .lt 9, 3) := by decide +kernel
theorem d2_18 : decode prog_16_method_7_code 18 = .ok (.iload_n 0, 1) := by decide +kernel
theorem d2_19 : decode prog_16_method_7_code 19 = .ok (.bipush 57, 2) := by decide +kernel
theorem d2_21 : decode prog_16_method_7_code 21 = .ok (.if_icmp .le 9, 3) := by decide +kernel
theorem d2_24 : decode prog_16_method_7_code 24 = .ok (.iload_n 0, 1) := by decide +kernel
theorem d2_25 : decode prog_16_method_7_code 25 = .ok (.bipush 45, 2) := by decide +kernel
theorem d2_27 : decode prog_16_method_7_code 27 = .ok (.if_icmp .ne 7, 3) := by decide +kernel
theorem d2_30 : decode prog_16_method_7_code 30 = .ok (.iconst 1, 1) := by decide +kernel
theorem d2_31 : decode prog_16_method_7_code 31 = .ok (.goto 4, 3) := by decide +kernel
theorem d2_35 : decode prog_16_method_7_code 35 = .ok (.ireturn, 1) := by decide +kernel
def r_shc1 : Room := { frames := 0, cells := 0, slots := 0, locals := 0 }
def Q_shc1 (Z : State) (c : Int32) (h0 : Heap) (v : Option Value) (h : Heap) : Prop := v = some (.int 1) ∧ h0 = h
theorem rm_shc1 (l : Launch) (Z : State) (a0 : Array Value) (hw : oHw Z a0) (c : Int32) (h0 : Heap) (q0 : oSh c) : oMet l Z (⟨z1, "isShelfChar", "(I)Z"⟩ : MethodName) prog_16_method_7_code 1 (some .boolean) r_shc1 [] #[.int c] h0 (Q_shc1 Z c h0) := by
 refine oEnter (plainFor_of_name (by first | (simp [plainName, overriddenIn]; done) | decide +kernel)) (own := z1) (nm := "isShelfChar") rfl rfl (L := #[.val (.int c)]) (fun m => by first | (simp [entryFrame, mkF, argsToLocals, Value.category]; done) | rfl) ?_
 intro pp ee ss mm bb mtd cc T0 K X0
 have E0 := X0.ext0
 rcases q0 with ⟨p0, p1⟩ | ⟨p0, p1, p2⟩ | rfl
 refine o_iloadN K X0 d2_0 rfl rfl ?_
 refine o_bipush K X0 d2_1 rfl (z := 97) rfl ?_
 refine o_icmp_lt_f K X0 d2_3 rfl p0 ?_
 refine o_iloadN K X0 d2_6 rfl rfl ?_
 refine o_bipush K X0 d2_7 rfl (z := 122) rfl ?_
 refine o_icmp_le_t K X0 d2_9 (by decide) (pc' := 30) (by decide) p1 ?_
 refine o_iconst K X0 d2_30 rfl (z := 1) rfl ?_
 refine o_goto K X0 d2_31 (by decide) (pc' := 35) (by decide) ?_
 refine o_ireturnN K X0 .boolean d2_35 rfl (by simp) (z' := 1) (by decide) ?_ (by decide) (by decide)
 exact ⟨rfl, rfl⟩
 refine o_iloadN K X0 d2_0 rfl rfl ?_
 refine o_bipush K X0 d2_1 rfl (z := 97) rfl ?_
 refine o_icmp_lt_t K X0 d2_3 (by decide) (pc' := 12) (by decide) p0 ?_
 refine o_iloadN K X0 d2_12 rfl rfl ?_
 refine o_bipush K X0 d2_13 rfl (z := 48) rfl ?_
 refine o_icmp_lt_f K X0 d2_15 rfl p1 ?_
 refine o_iloadN K X0 d2_18 rfl rfl ?_
 refine o_bipush K X0 d2_19 rfl (z := 57) rfl ?_
 refine o_icmp_le_t K X0 d2_21 (by decide) (pc' := 30) (by decide) p2 ?_
 refine o_iconst K X0 d2_30 rfl (z := 1) rfl ?_
 refine o_goto K X0 d2_31 (by decide) (pc' := 35) (by decide) ?_
 refine o_ireturnN K X0 .boolean d2_35 rfl (by simp) (z' := 1) (by decide) ?_ (by decide) (by decide)
 exact ⟨rfl, rfl⟩
 refine o_iloadN K X0 d2_0 rfl rfl ?_
 refine o_bipush K X0 d2_1 rfl (z := 97) rfl ?_
 refine o_icmp_lt_t K X0 d2_3 (by decide) (pc' := 12) (by decide) (by decide) ?_
 refine o_iloadN K X0 d2_12 rfl rfl ?_
 refine o_bipush K X0 d2_13 rfl (z := 48) rfl ?_
 refine o_icmp_lt_t K X0 d2_15 (by decide) (pc' := 24) (by decide) (by decide) ?_
 refine o_iloadN K X0 d2_24 rfl rfl ?_
 refine o_bipush K X0 d2_25 rfl (z := 45) rfl ?_
 refine o_icmp_ne_f K X0 d2_27 rfl (by decide) ?_
 refine o_iconst K X0 d2_30 rfl (z := 1) rfl ?_
 refine o_goto K X0 d2_31 (by decide) (pc' := 35) (by decide) ?_
 refine o_ireturnN K X0 .boolean d2_35 rfl (by simp) (z' := 1) (by decide) ?_ (by decide) (by decide)
 exact ⟨rfl, rfl⟩
theorem d2_34 : decode prog_16_method_7_code 34 = .ok (.iconst 0, 1) := by decide +kernel
def r_shc0 : Room := { frames := 0, cells := 0, slots := 0, locals := 0 }
def Q_shc0 (Z : State) (c : Int32) (h0 : Heap) (v : Option Value) (h : Heap) : Prop := v = some (.int 0) ∧ h0 = h
theorem rm_shc0 (l : Launch) (Z : State) (a0 : Array Value) (hw : oHw Z a0) (c : Int32) (h0 : Heap) (q0 : oUp c) : oMet l Z (⟨z1, "isShelfChar", "(I)Z"⟩ : MethodName) prog_16_method_7_code 1 (some .boolean) r_shc0 [] #[.int c] h0 (Q_shc0 Z c h0) := by
 refine oEnter (plainFor_of_name (by first | (simp [plainName, overriddenIn]; done) | decide +kernel)) (own := z1) (nm := "isShelfChar") rfl rfl (L := #[.val (.int c)]) (fun m => by first | (simp [entryFrame, mkF, argsToLocals, Value.category]; done) | rfl) ?_
 intro pp ee ss mm bb mtd cc T0 K X0
 have E0 := X0.ext0
 rcases q0 with ⟨p0, p1, p2, p3, p4, p5⟩
 refine o_iloadN K X0 d2_0 rfl rfl ?_
 refine o_bipush K X0 d2_1 rfl (z := 97) rfl ?_
 refine o_icmp_lt_t K X0 d2_3 (by decide) (pc' := 12) (by decide) p0 ?_
 refine o_iloadN K X0 d2_12 rfl rfl ?_
 refine o_bipush K X0 d2_13 rfl (z := 48) rfl ?_
 refine o_icmp_lt_f K X0 d2_15 rfl p1 ?_
 refine o_iloadN K X0 d2_18 rfl rfl ?_
 refine o_bipush K X0 d2_19 rfl (z := 57) rfl ?_
 refine o_icmp_le_f K X0 d2_21 rfl p2 ?_
 refine o_iloadN K X0 d2_24 rfl rfl ?_
 refine o_bipush K X0 d2_25 rfl (z := 45) rfl ?_
 refine o_icmp_ne_t K X0 d2_27 (by decide) (pc' := 34) (by decide) p3 ?_
 refine o_iconst K X0 d2_34 rfl (z := 0) rfl ?_
 refine o_ireturnN K X0 .boolean d2_35 rfl (by simp) (z' := 0) (by decide) ?_ (by decide) (by decide)
 exact ⟨rfl, rfl⟩
def r_shc95 : Room := { frames := 0, cells := 0, slots := 0, locals := 0 }
def Q_shc95 (Z : State) (h0 : Heap) (v : Option Value) (h : Heap) : Prop := v = some (.int 0) ∧ h0 = h
theorem rm_shc95 (l : Launch) (Z : State) (a0 : Array Value) (hw : oHw Z a0) (h0 : Heap) : oMet l Z (⟨z1, "isShelfChar", "(I)Z"⟩ : MethodName) prog_16_method_7_code 1 (some .boolean) r_shc95 [] #[.int 95] h0 (Q_shc95 Z h0) := by
 refine oEnter (plainFor_of_name (by first | (simp [plainName, overriddenIn]; done) | decide +kernel)) (own := z1) (nm := "isShelfChar") rfl rfl (L := #[.val (.int 95)]) (fun m => by first | (simp [entryFrame, mkF, argsToLocals, Value.category]; done) | rfl) ?_
 intro pp ee ss mm bb mtd cc T0 K X0
 have E0 := X0.ext0
 refine o_iloadN K X0 d2_0 rfl rfl ?_
 refine o_bipush K X0 d2_1 rfl (z := 97) rfl ?_
 refine o_icmp_lt_t K X0 d2_3 (by decide) (pc' := 12) (by decide) (by decide) ?_
 refine o_iloadN K X0 d2_12 rfl rfl ?_
 refine o_bipush K X0 d2_13 rfl (z := 48) rfl ?_
 refine o_icmp_lt_f K X0 d2_15 rfl (by decide) ?_
 refine o_iloadN K X0 d2_18 rfl rfl ?_
 refine o_bipush K X0 d2_19 rfl (z := 57) rfl ?_
 refine o_icmp_le_f K X0 d2_21 rfl (by decide) ?_
 refine o_iloadN K X0 d2_24 rfl rfl ?_
 refine o_bipush K X0 d2_25 rfl (z := 45) rfl ?_
 refine o_icmp_ne_t K X0 d2_27 (by decide) (pc' := 34) (by decide) (by decide) ?_
 refine o_iconst K X0 d2_34 rfl (z := 0) rfl ?_
 refine o_ireturnN K X0 .boolean d2_35 rfl (by simp) (z' := 0) (by decide) ?_ (by decide) (by decide)
 exact ⟨rfl, rfl⟩
theorem d3_0 : decode prog_16_method_8_code 0 = .ok (.iload_n 0, 1) := by decide +kernel
theorem d3_1 : decode prog_16_method_8_code 1 = .ok (.invokestatic 67, 3) := by decide +kernel
theorem d3_4 : decode prog_16_method_8_code 4 = .ok (.ifCond .ne 21, 3) := by decide +kernel
theorem d3_7 : decode prog_16_method_8_code 7 = .ok (.iload_n 0, 1) := by decide +kernel
theorem d3_8 : decode prog_16_method_8_code 8 = .ok (.bipush 65, 2) := by decide +kernel
theorem d3_10 : decode prog_16_method_8_code 10 = .ok (.if_icmp .lt 9, 3) := by decide +kernel
theorem d3_13 : decode prog_16_method_8_code 13 = .ok (.iload_n 0, 1) := by decide +kernel
theorem d3_14 : decode prog_16_method_8_code 14 = .ok (.bipush 90, 2) := by decide +kernel
theorem d3_16 : decode prog_16_method_8_code 16 = .ok (.if_icmp .le 9, 3) := by decide +kernel
theorem d3_19 : decode prog_16_method_8_code 19 = .ok (.iload_n 0, 1) := by decide +kernel
theorem d3_20 : decode prog_16_method_8_code 20 = .ok (.bipush 95, 2) := by decide +kernel
theorem d3_22 : decode prog_16_method_8_code 22 = .ok (.if_icmp .ne 7, 3) := by decide +kernel
theorem d3_25 : decode prog_16_method_8_code 25 = .ok (.iconst 1, 1) := by decide +kernel
theorem d3_26 : decode prog_16_method_8_code 26 = .ok (.goto 4, 3) := by decide +kernel
theorem d3_30 : decode prog_16_method_8_code 30 = .ok (.ireturn, 1) := by decide +kernel
theorem pd0 : parseMethodDescriptor "(I)Z" = some ⟨[.int], some .boolean⟩ := by decide +kernel
def r_idc1 : Room := { frames := 1, cells := 0, slots := 0, locals := 12 }
def Q_idc1 (Z : State) (c : Int32) (h0 : Heap) (v : Option Value) (h : Heap) : Prop := v = some (.int 1) ∧ h0 = h
theorem rm_idc1 (l : Launch) (Z : State) (a0 : Array Value) (hw : oHw Z a0) (c : Int32) (h0 : Heap) (q0 : oId c) : oMet l Z (⟨z1, "isIdChar", "(I)Z"⟩ : MethodName) prog_16_method_8_code 1 (some .boolean) r_idc1 [] #[.int c] h0 (Q_idc1 Z c h0) := by
 refine oEnter (plainFor_of_name (by first | (simp [plainName, overriddenIn]; done) | decide +kernel)) (own := z1) (nm := "isIdChar") rfl rfl (L := #[.val (.int c)]) (fun m => by first | (simp [entryFrame, mkF, argsToLocals, Value.category]; done) | rfl) ?_
 intro pp ee ss mm bb mtd cc T0 K X0
 have E0 := X0.ext0
 rcases q0 with p0 | p0 | rfl
 refine o_iloadN K X0 d3_0 rfl rfl ?_
 refine o_static K X0  (w107 hw) (w99 hw) (w11 hw) (w100 hw) (by decide) (rm_shc1 l Z a0 hw c h0 p0) (by decide) rfl (argsL := [.int c]) rfl (lenOf pd0 rfl) (W := 0) rfl (by decide) (by decide) (by decide) d3_1 rfl ?_
 intro v1 T1 h1 X1 U1
 obtain ⟨rfl, rfl⟩ := U1
 show oGoes pp ee bb ss Z T1 (mkF mm 4 _ [.int 1]) _ _ _
 refine o_if_ne_t K X1 d3_4 (by decide) (pc' := 25) (by decide) (by decide) ?_
 refine o_iconst K X1 d3_25 rfl (z := 1) rfl ?_
 refine o_goto K X1 d3_26 (by decide) (pc' := 30) (by decide) ?_
 refine o_ireturnN K X1 .boolean d3_30 rfl (by simp) (z' := 1) (by decide) ?_ (by decide) (by decide)
 exact ⟨rfl, rfl⟩
 obtain ⟨p1, p2, p3, p4, p5, p6⟩ := id p0
 refine o_iloadN K X0 d3_0 rfl rfl ?_
 refine o_static K X0  (w107 hw) (w99 hw) (w11 hw) (w100 hw) (by decide) (rm_shc0 l Z a0 hw c h0 p0) (by decide) rfl (argsL := [.int c]) rfl (lenOf pd0 rfl) (W := 0) rfl (by decide) (by decide) (by decide) d3_1 rfl ?_
 intro v2 T2 h2 X2 U2
 obtain ⟨rfl, rfl⟩ := U2
 show oGoes pp ee bb ss Z T2 (mkF mm 4 _ [.int 0]) _ _ _
 refine o_if_ne_f K X2 d3_4 rfl (by decide) ?_
 refine o_iloadN K X2 d3_7 rfl rfl ?_
 refine o_bipush K X2 d3_8 rfl (z := 65) rfl ?_
 refine o_icmp_lt_f K X2 d3_10 rfl p5 ?_
 refine o_iloadN K X2 d3_13 rfl rfl ?_
 refine o_bipush K X2 d3_14 rfl (z := 90) rfl ?_
 refine o_icmp_le_t K X2 d3_16 (by decide) (pc' := 25) (by decide) p6 ?_
 refine o_iconst K X2 d3_25 rfl (z := 1) rfl ?_
 refine o_goto K X2 d3_26 (by decide) (pc' := 30) (by decide) ?_
 refine o_ireturnN K X2 .boolean d3_30 rfl (by simp) (z' := 1) (by decide) ?_ (by decide) (by decide)
 exact ⟨rfl, rfl⟩
 refine o_iloadN K X0 d3_0 rfl rfl ?_
 refine o_static K X0  (w107 hw) (w99 hw) (w11 hw) (w100 hw) (by decide) (rm_shc95 l Z a0 hw  h0) (by decide) rfl (argsL := [.int 95]) rfl (lenOf pd0 rfl) (W := 0) rfl (by decide) (by decide) (by decide) d3_1 rfl ?_
 intro v3 T3 h3 X3 U3
 obtain ⟨rfl, rfl⟩ := U3
 show oGoes pp ee bb ss Z T3 (mkF mm 4 _ [.int 0]) _ _ _
 refine o_if_ne_f K X3 d3_4 rfl (by decide) ?_
 refine o_iloadN K X3 d3_7 rfl rfl ?_
 refine o_bipush K X3 d3_8 rfl (z := 65) rfl ?_
 refine o_icmp_lt_f K X3 d3_10 rfl (by decide) ?_
 refine o_iloadN K X3 d3_13 rfl rfl ?_
 refine o_bipush K X3 d3_14 rfl (z := 90) rfl ?_
 refine o_icmp_le_f K X3 d3_16 rfl (by decide) ?_
 refine o_iloadN K X3 d3_19 rfl rfl ?_
 refine o_bipush K X3 d3_20 rfl (z := 95) rfl ?_
 refine o_icmp_ne_f K X3 d3_22 rfl (by decide) ?_
 refine o_iconst K X3 d3_25 rfl (z := 1) rfl ?_
 refine o_goto K X3 d3_26 (by decide) (pc' := 30) (by decide) ?_
 refine o_ireturnN K X3 .boolean d3_30 rfl (by simp) (z' := 1) (by decide) ?_ (by decide) (by decide)
 exact ⟨rfl, rfl⟩
theorem d4_0 : decode jdk_52_method_21_code 0 = .ok (.iconst 0, 1) := by decide +kernel
theorem d4_1 : decode jdk_52_method_21_code 1 = .ok (.istore 5, 2) := by decide +kernel
theorem d4_3 : decode jdk_52_method_21_code 3 = .ok (.iload 5, 2) := by decide +kernel
theorem d4_5 : decode jdk_52_method_21_code 5 = .ok (.iload 4, 2) := by decide +kernel
theorem d4_7 : decode jdk_52_method_21_code 7 = .ok (.if_icmp .ge 37, 3) := by decide +kernel
theorem d4_10 : decode jdk_52_method_21_code 10 = .ok (.aload_n 0, 1) := by decide +kernel
theorem d4_11 : decode jdk_52_method_21_code 11 = .ok (.iload_n 1, 1) := by decide +kernel
theorem d4_12 : decode jdk_52_method_21_code 12 = .ok (.caload, 1) := by decide +kernel
theorem d4_13 : decode jdk_52_method_21_code 13 = .ok (.istore 6, 2) := by decide +kernel
theorem d4_15 : decode jdk_52_method_21_code 15 = .ok (.iload 6, 2) := by decide +kernel
theorem d4_17 : decode jdk_52_method_21_code 17 = .ok (.sipush 255, 3) := by decide +kernel
theorem d4_20 : decode jdk_52_method_21_code 20 = .ok (.if_icmp .le 6, 3) := by decide +kernel
theorem d4_26 : decode jdk_52_method_21_code 26 = .ok (.aload_n 2, 1) := by decide +kernel
theorem d4_27 : decode jdk_52_method_21_code 27 = .ok (.iload_n 3, 1) := by decide +kernel
theorem d4_28 : decode jdk_52_method_21_code 28 = .ok (.iload 6, 2) := by decide +kernel
theorem d4_30 : decode jdk_52_method_21_code 30 = .ok (.i2b, 1) := by decide +kernel
theorem d4_31 : decode jdk_52_method_21_code 31 = .ok (.bastore, 1) := by decide +kernel
theorem d4_32 : decode jdk_52_method_21_code 32 = .ok (.iinc 1 1, 3) := by decide +kernel
theorem d4_35 : decode jdk_52_method_21_code 35 = .ok (.iinc 3 1, 3) := by decide +kernel
theorem d4_38 : decode jdk_52_method_21_code 38 = .ok (.iinc 5 1, 3) := by decide +kernel
theorem d4_41 : decode jdk_52_method_21_code 41 = .ok (.goto (-38), 3) := by decide +kernel
theorem d4_44 : decode jdk_52_method_21_code 44 = .ok (.iload 4, 2) := by decide +kernel
theorem d4_46 : decode jdk_52_method_21_code 46 = .ok (.ireturn, 1) := by decide +kernel
def r_cmp5_1 : Room := { frames := 0, cells := 0, slots := 0, locals := 0 }
def Q_cmp5_1 (Z : State) (b : Addr) (kb : ClassId) (d : Addr) (kd : ClassId) (c0 : Int32) (h0 : Heap) (v : Option Value) (h : Heap) : Prop := v = some (.int 1) ∧ Keep h0 h [d] ∧ oArr Z h d kd .byte [(.int (nar .byte c0))]
theorem rm_cmp5_1 (l : Launch) (Z : State) (a0 : Array Value) (hw : oHw Z a0) (b : Addr) (kb : ClassId) (d : Addr) (kd : ClassId) (c0 : Int32) (h0 : Heap) (q0 : oArr Z h0 b kb .char [.int c0]) (q1 : oArr Z h0 d kd .byte [.int 0]) (q2 : Z.heap.size ≤ d) (q3 : b ≠ d) (q4 : ¬ ((255 : Int32) < c0)) : oMet l Z (⟨z9, "compress", "([CI[BII)I"⟩ : MethodName) jdk_52_method_21_code 7 (some .int) r_cmp5_1 [] #[.ref b, .int 0, .ref d, .int 0, .int 1] h0 (Q_cmp5_1 Z b kb d kd c0 h0) := by
 refine oEnter (plainFor_of_name (by first | (simp [plainName, overriddenIn]; done) | decide +kernel)) (own := z9) (nm := "compress") rfl rfl (L := #[.val (.ref b), .val (.int 0), .val (.ref d), .val (.int 0), .val (.int 1), .unset, .unset]) (fun m => by first | (simp [entryFrame, mkF, argsToLocals, Value.category]; done) | rfl) ?_
 intro pp ee ss mm bb mtd cc T0 K X0
 have E0 := X0.ext0
 refine o_iconst K X0 d4_0 rfl (z := 0) rfl ?_
 refine o_istore K X0 d4_1 rfl (L' := #[vR b, vI 0, vR d, vI 0, vI 1, vI 0, uS]) rfl ?_
 refine o_iload K X0 d4_3 rfl rfl ?_
 refine o_iload K X0 d4_5 rfl rfl ?_
 refine o_icmp_ge_f K X0 d4_7 rfl (by decide) ?_
 refine o_aloadN K X0 d4_10 rfl rfl rfl ?_
 refine o_iloadN K X0 d4_11 rfl rfl ?_
 refine o_caload K X0 q0 (by decide) (v := (.int c0)) rfl d4_12 rfl ?_
 refine o_istore K X0 d4_13 rfl (L' := #[vR b, vI 0, vR d, vI 0, vI 1, vI 0, vI c0]) rfl ?_
 refine o_iload K X0 d4_15 rfl rfl ?_
 refine o_sipush K X0 d4_17 rfl (z := 255) rfl ?_
 refine o_icmp_le_t K X0 d4_20 (by decide) (pc' := 26) (by decide) q4 ?_
 refine o_aloadN K X0 d4_26 rfl rfl rfl ?_
 refine o_iloadN K X0 d4_27 rfl rfl ?_
 refine o_iload K X0 d4_28 rfl rfl ?_
 refine o_i2b K X0 d4_30 rfl (z := (nar .byte c0)) rfl ?_
 refine o_bastore K X0 q1 (by decide) (show (0 : Int32).toNatClampNeg < 1 from (by decide)) q2 (z := (.int (nar .byte c0))) (congrArg Value.int (oNarIdembyte _)) d4_31 rfl ?_
 intro T1 h1 X1 W1 A1
 replace A1 : oArr Z h1 d kd .byte [(.int (nar .byte c0))] := A1
 refine o_iinc K X1 d4_32 rfl rfl (L' := #[vR b, vI 1, vR d, vI 0, vI 1, vI 0, vI c0]) (by rw [show (0 : Int32) + Int32.ofInt 1 = (1 : Int32) from (by decide)]; rfl) ?_
 refine o_iinc K X1 d4_35 rfl rfl (L' := #[vR b, vI 1, vR d, vI 1, vI 1, vI 0, vI c0]) (by rw [show (0 : Int32) + Int32.ofInt 1 = (1 : Int32) from (by decide)]; rfl) ?_
 refine o_iinc K X1 d4_38 rfl rfl (L' := #[vR b, vI 1, vR d, vI 1, vI 1, vI 1, vI c0]) (by rw [show (0 : Int32) + Int32.ofInt 1 = (1 : Int32) from (by decide)]; rfl) ?_
 refine o_goto K X1 d4_41 (by decide) (pc' := 3) (by decide) ?_
 refine o_iload K X1 d4_3 rfl rfl ?_
 refine o_iload K X1 d4_5 rfl rfl ?_
 refine o_icmp_ge_t K X1 d4_7 (by decide) (pc' := 44) (by decide) (by decide) ?_
 refine o_iload K X1 d4_44 rfl rfl ?_
 refine o_ireturn K X1 d4_46 rfl ?_ (by decide) (by decide)
 exact ⟨rfl, ((Keep.refl h0 [d]).wr W1 (Or.inl me0)), A1⟩
theorem d5_0 : decode jdk_52_method_16_code 0 = .ok (.iload_n 2, 1) := by decide +kernel
theorem d5_1 : decode jdk_52_method_16_code 1 = .ok (.newarray .byte, 2) := by decide +kernel
theorem d5_3 : decode jdk_52_method_16_code 3 = .ok (.astore_n 3, 1) := by decide +kernel
theorem d5_4 : decode jdk_52_method_16_code 4 = .ok (.aload_n 0, 1) := by decide +kernel
theorem d5_5 : decode jdk_52_method_16_code 5 = .ok (.iload_n 1, 1) := by decide +kernel
theorem d5_6 : decode jdk_52_method_16_code 6 = .ok (.aload_n 3, 1) := by decide +kernel
theorem d5_7 : decode jdk_52_method_16_code 7 = .ok (.iconst 0, 1) := by decide +kernel
theorem d5_8 : decode jdk_52_method_16_code 8 = .ok (.iload_n 2, 1) := by decide +kernel
theorem d5_9 : decode jdk_52_method_16_code 9 = .ok (.invokestatic 115, 3) := by decide +kernel
theorem d5_12 : decode jdk_52_method_16_code 12 = .ok (.istore 4, 2) := by decide +kernel
theorem d5_14 : decode jdk_52_method_16_code 14 = .ok (.iload 4, 2) := by decide +kernel
theorem d5_16 : decode jdk_52_method_16_code 16 = .ok (.iload_n 2, 1) := by decide +kernel
theorem d5_17 : decode jdk_52_method_16_code 17 = .ok (.if_icmp .eq 40, 3) := by decide +kernel
theorem d5_57 : decode jdk_52_method_16_code 57 = .ok (.aload_n 3, 1) := by decide +kernel
theorem d5_58 : decode jdk_52_method_16_code 58 = .ok (.areturn, 1) := by decide +kernel
theorem pd1 : parseMethodDescriptor "([CI[BII)I" = some ⟨[(.array .char), .int, (.array .byte), .int, .int], some .int⟩ := by decide +kernel
def r_cmp3_1 : Room := { frames := 1, cells := 1, slots := 1, locals := 18 }
def Q_cmp3_1 (Z : State) (b : Addr) (kb : ClassId) (c0 : Int32) (h0 : Heap) (v : Option Value) (h : Heap) : Prop := ∃ r : Addr, ∃ k : ClassId, v = some (.ref r) ∧ Keep h0 h [] ∧ h0.size ≤ r ∧ oArr Z h r k .byte [(.int (nar .byte c0))]
theorem rm_cmp3_1 (l : Launch) (Z : State) (a0 : Array Value) (hw : oHw Z a0) (b : Addr) (kb : ClassId) (c0 : Int32) (h0 : Heap) (q0 : oArr Z h0 b kb .char [.int c0]) (q1 : ¬ ((255 : Int32) < c0)) : oMet l Z (⟨z9, "compress", "([CII)[B"⟩ : MethodName) jdk_52_method_16_code 6 (some (.array .byte)) r_cmp3_1 [] #[.ref b, .int 0, .int 1] h0 (Q_cmp3_1 Z b kb c0 h0) := by
 refine oEnter (plainFor_of_name (by first | (simp [plainName, overriddenIn]; done) | decide +kernel)) (own := z9) (nm := "compress") rfl rfl (L := #[.val (.ref b), .val (.int 0), .val (.int 1), .unset, .unset, .unset]) (fun m => by first | (simp [entryFrame, mkF, argsToLocals, Value.category]; done) | rfl) ?_
 intro pp ee ss mm bb mtd cc T0 K X0
 have E0 := X0.ext0
 refine o_iloadN K X0 d5_0 rfl rfl ?_
 refine o_newarray K X0 (aty := .byte) 1 (w30 hw) (ad := "[B") (by decide +kernel) (by decide) (by decide) (by decide) rfl d5_1 rfl (by decide) (by decide) ?_
 intro T1 h1 b1 k1 X1 g1 E1 A1 B1 G1
 replace A1 : oArr Z h1 b1 k1 .byte [.int 0] := A1
 refine o_astoreN K X1 d5_3 rfl rfl (L' := #[vR b, vI 0, vI 1, vR b1, uS, uS]) rfl ?_
 refine o_aloadN K X1 d5_4 rfl rfl rfl ?_
 refine o_iloadN K X1 d5_5 rfl rfl ?_
 refine o_aloadN K X1 d5_6 rfl rfl rfl ?_
 refine o_iconst K X1 d5_7 rfl (z := 0) rfl ?_
 refine o_iloadN K X1 d5_8 rfl rfl ?_
 have m2 := (q0.ext E1)
 have n3 := oLz q0.lt (oLe g1)
 refine o_static K X1  (w31 hw) (w32 hw) (w28 hw) (w33 hw) (by decide) (rm_cmp5_1 l Z a0 hw b kb b1 k1 c0 h1 m2 A1 G1 n3 q1) (by decide) rfl (argsL := [.ref b, .int 0, .ref b1, .int 0, .int 1]) rfl (lenOf pd1 rfl) (W := 0) rfl (by decide) (by decide) (by decide) d5_9 rfl ?_
 intro v4 T4 h4 X4 U4
 obtain ⟨rfl, u4_0, u4_1⟩ := U4
 show oGoes pp ee bb ss Z T4 (mkF mm 12 _ [.int 1]) _ _ _
 refine o_istore K X4 d5_12 rfl (L' := #[vR b, vI 0, vI 1, vR b1, vI 1, uS]) rfl ?_
 refine o_iload K X4 d5_14 rfl rfl ?_
 refine o_iloadN K X4 d5_16 rfl rfl ?_
 refine o_icmp_eq_t K X4 d5_17 (by decide) (pc' := 57) (by decide) (by decide) ?_
 refine o_aloadN K X4 d5_57 rfl rfl rfl ?_
 refine o_areturn K X4 (t := (.array .byte)) d5_58 rfl rfl rfl ?_ (by decide) (by decide)
 exact ⟨b1, k1, rfl, (((Keep.refl h0 []).ext E1).trans u4_0 (allS (Or.inr (oLe g1)) all0)), (oLe g1), u4_1⟩
theorem d6_0 : decode jdk_52_method_15_code 0 = .ok (.iload_n 1, 1) := by decide +kernel
theorem d6_1 : decode jdk_52_method_15_code 1 = .ok (.aload_n 0, 1) := by decide +kernel
theorem d6_2 : decode jdk_52_method_15_code 2 = .ok (.arraylength, 1) := by decide +kernel
theorem d6_3 : decode jdk_52_method_15_code 3 = .ok (.isub, 1) := by decide +kernel
theorem d6_4 : decode jdk_52_method_15_code 4 = .ok (.bipush 31, 2) := by decide +kernel
theorem d6_6 : decode jdk_52_method_15_code 6 = .ok (.iushr, 1) := by decide +kernel
theorem d6_7 : decode jdk_52_method_15_code 7 = .ok (.i2b, 1) := by decide +kernel
theorem d6_8 : decode jdk_52_method_15_code 8 = .ok (.ireturn, 1) := by decide +kernel
def r_coder_1 : Room := { frames := 0, cells := 0, slots := 0, locals := 0 }
def Q_coder_1 (Z : State) (b : Addr) (kb : ClassId) (c0 : Int32) (h0 : Heap) (v : Option Value) (h : Heap) : Prop := v = some (.int 0) ∧ h0 = h
theorem rm_coder_1 (l : Launch) (Z : State) (a0 : Array Value) (hw : oHw Z a0) (b : Addr) (kb : ClassId) (c0 : Int32) (h0 : Heap) (q0 : oArr Z h0 b kb .byte [.int c0]) : oMet l Z (⟨z9, "coderFromArrayLen", "([BI)B"⟩ : MethodName) jdk_52_method_15_code 2 (some .byte) r_coder_1 [] #[.ref b, .int 1] h0 (Q_coder_1 Z b kb c0 h0) := by
 refine oEnter (plainFor_of_name (by first | (simp [plainName, overriddenIn]; done) | decide +kernel)) (own := z9) (nm := "coderFromArrayLen") rfl rfl (L := #[.val (.ref b), .val (.int 1)]) (fun m => by first | (simp [entryFrame, mkF, argsToLocals, Value.category]; done) | rfl) ?_
 intro pp ee ss mm bb mtd cc T0 K X0
 have E0 := X0.ext0
 refine o_iloadN K X0 d6_0 rfl rfl ?_
 refine o_aloadN K X0 d6_1 rfl rfl rfl ?_
 refine o_arraylength K X0 q0 (z := 1) rfl d6_2 rfl ?_
 refine o_isub K X0 d6_3 rfl (z := 0) (by decide) ?_
 refine o_bipush K X0 d6_4 rfl (z := 31) rfl ?_
 refine o_iushr K X0 d6_6 rfl (z := 0) (by decide) ?_
 refine o_i2b K X0 d6_7 rfl (z := 0) (by decide) ?_
 refine o_ireturnN K X0 .byte d6_8 rfl (by simp) (z' := 0) (by decide) ?_ (by decide) (by decide)
 exact ⟨rfl, rfl⟩
theorem d7_0 : decode jdk_42_method_149_code 0 = .ok (.aload_n 0, 1) := by decide +kernel
theorem d7_1 : decode jdk_42_method_149_code 1 = .ok (.invokespecial 1, 3) := by decide +kernel
theorem d7_4 : decode jdk_42_method_149_code 4 = .ok (.iload_n 3, 1) := by decide +kernel
theorem d7_5 : decode jdk_42_method_149_code 5 = .ok (.ifCond .ne 22, 3) := by decide +kernel
theorem d7_27 : decode jdk_42_method_149_code 27 = .ok (.getstatic 38, 3) := by decide +kernel
theorem d7_30 : decode jdk_42_method_149_code 30 = .ok (.ifCond .eq 28, 3) := by decide +kernel
theorem d7_33 : decode jdk_42_method_149_code 33 = .ok (.aload_n 1, 1) := by decide +kernel
theorem d7_34 : decode jdk_42_method_149_code 34 = .ok (.iload_n 2, 1) := by decide +kernel
theorem d7_35 : decode jdk_42_method_149_code 35 = .ok (.iload_n 3, 1) := by decide +kernel
theorem d7_36 : decode jdk_42_method_149_code 36 = .ok (.invokestatic 177, 3) := by decide +kernel
theorem d7_39 : decode jdk_42_method_149_code 39 = .ok (.astore 5, 2) := by decide +kernel
theorem d7_41 : decode jdk_42_method_149_code 41 = .ok (.aload_n 0, 1) := by decide +kernel
theorem d7_42 : decode jdk_42_method_149_code 42 = .ok (.aload 5, 2) := by decide +kernel
theorem d7_44 : decode jdk_42_method_149_code 44 = .ok (.iload_n 3, 1) := by decide +kernel
theorem d7_45 : decode jdk_42_method_149_code 45 = .ok (.invokestatic 47, 3) := by decide +kernel
theorem d7_48 : decode jdk_42_method_149_code 48 = .ok (.putfield 15, 3) := by decide +kernel
theorem d7_51 : decode jdk_42_method_149_code 51 = .ok (.aload_n 0, 1) := by decide +kernel
theorem d7_52 : decode jdk_42_method_149_code 52 = .ok (.aload 5, 2) := by decide +kernel
theorem d7_54 : decode jdk_42_method_149_code 54 = .ok (.putfield 9, 3) := by decide +kernel
theorem d7_57 : decode jdk_42_method_149_code 57 = .ok (.return_, 1) := by decide +kernel
theorem pd2 : parseMethodDescriptor "([CII)[B" = some ⟨[(.array .char), .int, .int], some (.array .byte)⟩ := by decide +kernel
theorem pd3 : parseMethodDescriptor "([BI)B" = some ⟨[(.array .byte), .int], some .byte⟩ := by decide +kernel
def r_str4_1 : Room := { frames := 2, cells := 1, slots := 1, locals := 35 }
def Q_str4_1 (Z : State) (a b : Addr) (kb : ClassId) (cs c0 : Int32) (h0 : Heap) (v : Option Value) (h : Heap) : Prop := ∃ vb : Addr, ∃ k : ClassId, v = none ∧ Keep h0 h [a] ∧ Exa Z h a z0 ∧ Fld Z h a z0 "value" "[B" (.ref vb) ∧ Fld Z h a z0 "coder" "B" (.int 0) ∧ h0.size ≤ vb ∧ oArr Z h vb k .byte [(.int (nar .byte c0))]
theorem rm_str4_1 (l : Launch) (Z : State) (a0 : Array Value) (hw : oHw Z a0) (a b : Addr) (kb : ClassId) (cs c0 : Int32) (h0 : Heap) (q0 : Exa Z h0 a z0) (q1 : Fld Z h0 a z0 "value" "[B" .null) (q2 : Fld Z h0 a z0 "coder" "B" (.int 0)) (q3 : Z.heap.size ≤ a) (q4 : oArr Z h0 b kb .char [.int c0]) (q5 : Sta Z Z.heap z0 z4 "Z" (.int cs)) (q6 : ¬ (cs = (0 : Int32))) (q7 : ¬ ((255 : Int32) < c0)) : oMet l Z (⟨z0, "<init>", "([CIILjava/lang/Void;)V"⟩ : MethodName) jdk_42_method_149_code 6 none r_str4_1 [] #[.ref a, .ref b, .int 0, .int 1, .null] h0 (Q_str4_1 Z a b kb cs c0 h0) := by
 refine oEnter (plainFor_of_name (by first | (simp [plainName, overriddenIn]; done) | decide +kernel)) (own := z0) (nm := "<init>") rfl rfl (L := #[.val (.ref a), .val (.ref b), .val (.int 0), .val (.int 1), .val .null, .unset]) (fun m => by first | (simp [entryFrame, mkF, argsToLocals, Value.category]; done) | rfl) ?_
 intro pp ee ss mm bb mtd cc T0 K X0
 have E0 := X0.ext0
 refine o_aloadN K X0 d7_0 rfl rfl rfl ?_
 refine o_initObj K X0 (w22 hw) (w23 hw) (w24 hw) d7_1 rfl rfl (by decide) (W := 0) rfl (by decide) ?_
 intro T1 X1
 refine o_iloadN K X1 d7_4 rfl rfl ?_
 refine o_if_ne_t K X1 d7_5 (by decide) (pc' := 27) (by decide) (by decide) ?_
 refine o_getstatic K X1 (host := "") (Or.inl (w25 hw)) Via.refl (q5.ext X1.ext0) d7_27 rfl ?_
 intro T2 X2
 refine o_if_eq_f K X2 d7_30 rfl q6 ?_
 refine o_aloadN K X2 d7_33 rfl rfl rfl ?_
 refine o_iloadN K X2 d7_34 rfl rfl ?_
 refine o_iloadN K X2 d7_35 rfl rfl ?_
 refine o_static K X2  (w26 hw) (w27 hw) (w28 hw) (w29 hw) (by decide) (rm_cmp3_1 l Z a0 hw b kb c0 h0 q4 q7) (by decide) rfl (argsL := [.ref b, .int 0, .int 1]) rfl (lenOf pd2 rfl) (W := 0) rfl (by decide) (by decide) (by decide) d7_36 rfl ?_
 intro v3 T3 h3 X3 U3
 obtain ⟨r_3, k_3, rfl, u3_0, u3_1, u3_2⟩ := U3
 have G3_r : Z.heap.size ≤ r_3 := Nat.le_trans X2.ext0.1 u3_1
 show oGoes pp ee bb ss Z T3 (mkF mm 39 _ [.ref r_3]) _ _ _
 refine o_astore K X3 d7_39 rfl rfl (L' := #[vR a, vR b, vI 0, vI 1, vN, vR r_3]) rfl ?_
 refine o_aloadN K X3 d7_41 rfl rfl rfl ?_
 refine o_aload K X3 d7_42 rfl rfl rfl ?_
 refine o_iloadN K X3 d7_44 rfl rfl ?_
 refine o_static K X3  (w34 hw) (w35 hw) (w28 hw) (w36 hw) (by decide) (rm_coder_1 l Z a0 hw r_3 k_3 (nar .byte c0) h3 u3_2) (by decide) rfl (argsL := [.ref r_3, .int 1]) rfl (lenOf pd3 rfl) (W := 1) rfl (by decide) (by decide) (by decide) d7_45 rfl ?_
 intro v4 T4 h4 X4 U4
 obtain ⟨rfl, rfl⟩ := U4
 show oGoes pp ee bb ss Z T4 (mkF mm 48 _ [.int 0, .ref a]) _ _ _
 have m6 := (q2.keep u3_0 nin0)
 have m7 := (q0.keep u3_0)
 refine o_putfieldN K X4 (w37 hw) Via.refl m6 m7 (Or.inr ⟨(w38 hw), rfl, rfl⟩) (w13 hw) (ty := .byte) (by decide) (v' := (.int 0)) (congrArg Value.int (by decide)) (oFitbyte (x := (0 : Int32)) (by decide)) q3 d7_48 rfl ?_
 intro T5 h5 X5 W5
 have F5 := Fld.same W5 m6
 refine o_aloadN K X5 d7_51 rfl rfl rfl ?_
 refine o_aload K X5 d7_52 rfl rfl rfl ?_
 have m9 := (Fld.other W5 (q1.keep u3_0 nin0) (Or.inr (slot_ne (Or.inr (w40 hw)) (Or.inr (w38 hw)) (by decide) (t := (.array .byte)) (t' := .byte) (by decide) (by decide))))
 have m10 := (Exa.wr W5 m7)
 refine o_putfield K X5 (host := "") (Or.inl (w39 hw)) Via.refl m9 m10 (Or.inr ⟨(w40 hw), rfl, rfl⟩) (w13 hw) (ty := (.array .byte)) (by decide) rfl rfl q3 d7_54 rfl ?_
 intro T8 h8 X8 W8
 have F8 := Fld.same W8 m9
 refine o_return K X8 d7_57 rfl ?_ (by decide) (by decide)
 have m11 := (Exa.wr W8 m10)
 have m12 := (Fld.other W8 F5 (Or.inr (slot_ne (Or.inr (w38 hw)) (Or.inr (w40 hw)) (by decide) (t := .byte) (t' := (.array .byte)) (by decide) (by decide))))
 have n13 := oLsz q0.lt u3_1
 have m14 := ((u3_2.other W5 n13).other W8 n13)
 exact ⟨r_3, k_3, rfl, ((((Keep.refl h0 [a]).trans u3_0 all0).wr W5 (Or.inl me0)).wr W8 (Or.inl me0)), m11, F8, m12, u3_1, m14⟩
theorem d8_0 : decode jdk_42_method_3_code 0 = .ok (.aload_n 0, 1) := by decide +kernel
theorem d8_1 : decode jdk_42_method_3_code 1 = .ok (.aload_n 1, 1) := by decide +kernel
theorem d8_2 : decode jdk_42_method_3_code 2 = .ok (.iconst 0, 1) := by decide +kernel
theorem d8_3 : decode jdk_42_method_3_code 3 = .ok (.aload_n 1, 1) := by decide +kernel
theorem d8_4 : decode jdk_42_method_3_code 4 = .ok (.arraylength, 1) := by decide +kernel
theorem d8_5 : decode jdk_42_method_3_code 5 = .ok (.aconst_null, 1) := by decide +kernel
theorem d8_6 : decode jdk_42_method_3_code 6 = .ok (.invokespecial 27, 3) := by decide +kernel
theorem d8_9 : decode jdk_42_method_3_code 9 = .ok (.return_, 1) := by decide +kernel
theorem pd4 : parseMethodDescriptor "([CIILjava/lang/Void;)V" = some ⟨[(.array .char), .int, .int, (.object "java/lang/Void")], none⟩ := by decide +kernel
def r_str_1 : Room := { frames := 3, cells := 1, slots := 1, locals := 52 }
def Q_str_1 (Z : State) (a b : Addr) (kb : ClassId) (cs c0 : Int32) (h0 : Heap) (v : Option Value) (h : Heap) : Prop := ∃ vb : Addr, ∃ k : ClassId, v = none ∧ Keep h0 h [a] ∧ Exa Z h a z0 ∧ Fld Z h a z0 "value" "[B" (.ref vb) ∧ Fld Z h a z0 "coder" "B" (.int 0) ∧ h0.size ≤ vb ∧ oArr Z h vb k .byte [(.int (nar .byte c0))]
theorem rm_str_1 (l : Launch) (Z : State) (a0 : Array Value) (hw : oHw Z a0) (a b : Addr) (kb : ClassId) (cs c0 : Int32) (h0 : Heap) (q0 : Exa Z h0 a z0) (q1 : Fld Z h0 a z0 "value" "[B" .null) (q2 : Fld Z h0 a z0 "coder" "B" (.int 0)) (q3 : Z.heap.size ≤ a) (q4 : oArr Z h0 b kb .char [.int c0]) (q5 : Sta Z Z.heap z0 z4 "Z" (.int cs)) (q6 : ¬ (cs = (0 : Int32))) (q7 : ¬ ((255 : Int32) < c0)) : oMet l Z (⟨z0, "<init>", "([C)V"⟩ : MethodName) jdk_42_method_3_code 2 none r_str_1 [] #[.ref a, .ref b] h0 (Q_str_1 Z a b kb cs c0 h0) := by
 refine oEnter (plainFor_of_name (by first | (simp [plainName, overriddenIn]; done) | decide +kernel)) (own := z0) (nm := "<init>") rfl rfl (L := #[.val (.ref a), .val (.ref b)]) (fun m => by first | (simp [entryFrame, mkF, argsToLocals, Value.category]; done) | rfl) ?_
 intro pp ee ss mm bb mtd cc T0 K X0
 have E0 := X0.ext0
 refine o_aloadN K X0 d8_0 rfl rfl rfl ?_
 refine o_aloadN K X0 d8_1 rfl rfl rfl ?_
 refine o_iconst K X0 d8_2 rfl (z := 0) rfl ?_
 refine o_aloadN K X0 d8_3 rfl rfl rfl ?_
 refine o_arraylength K X0 q4 (z := 1) rfl d8_4 rfl ?_
 refine o_aconst_null K X0 d8_5 rfl ?_
 refine o_special K X0 (y := (⟨z0, "<init>", "([CIILjava/lang/Void;)V"⟩ : MethodName)) rfl (w18 hw) (w19 hw) (w14 hw) (w21 hw) (by decide) (rm_str4_1 l Z a0 hw a b kb cs c0 h0 q0 q1 q2 q3 q4 q5 q6 q7) (by decide) rfl (argsL := [.ref b, .int 0, .int 1, .null]) rfl (lenOf pd4 rfl) (W := 0) rfl (by decide) (by decide) (by decide) d8_6 rfl ?_
 intro v1 T1 h1 X1 U1
 obtain ⟨vb_1, k_1, rfl, u1_0, u1_1, u1_2, u1_3, u1_4, u1_5⟩ := U1
 have G1_vb : Z.heap.size ≤ vb_1 := Nat.le_trans X0.ext0.1 u1_4
 show oGoes pp ee bb ss Z T1 (mkF mm 9 _ []) _ _ _
 refine o_return K X1 d8_9 rfl ?_ (by decide) (by decide)
 exact ⟨vb_1, k_1, rfl, ((Keep.refl h0 [a]).trans u1_0 (allS (Or.inl me0) all0)), u1_1, u1_2, u1_3, u1_4, u1_5⟩
def r_cmp5_2 : Room := { frames := 0, cells := 0, slots := 0, locals := 0 }
def Q_cmp5_2 (Z : State) (b : Addr) (kb : ClassId) (d : Addr) (kd : ClassId) (c0 c1 : Int32) (h0 : Heap) (v : Option Value) (h : Heap) : Prop := v = some (.int 2) ∧ Keep h0 h [d] ∧ oArr Z h d kd .byte [(.int (nar .byte c0)), (.int (nar .byte c1))]
theorem rm_cmp5_2 (l : Launch) (Z : State) (a0 : Array Value) (hw : oHw Z a0) (b : Addr) (kb : ClassId) (d : Addr) (kd : ClassId) (c0 c1 : Int32) (h0 : Heap) (q0 : oArr Z h0 b kb .char [.int c0, .int c1]) (q1 : oArr Z h0 d kd .byte [.int 0, .int 0]) (q2 : Z.heap.size ≤ d) (q3 : b ≠ d) (q4 : ¬ ((255 : Int32) < c0)) (q5 : ¬ ((255 : Int32) < c1)) : oMet l Z (⟨z9, "compress", "([CI[BII)I"⟩ : MethodName) jdk_52_method_21_code 7 (some .int) r_cmp5_2 [] #[.ref b, .int 0, .ref d, .int 0, .int 2] h0 (Q_cmp5_2 Z b kb d kd c0 c1 h0) := by
 refine oEnter (plainFor_of_name (by first | (simp [plainName, overriddenIn]; done) | decide +kernel)) (own := z9) (nm := "compress") rfl rfl (L := #[.val (.ref b), .val (.int 0), .val (.ref d), .val (.int 0), .val (.int 2), .unset, .unset]) (fun m => by first | (simp [entryFrame, mkF, argsToLocals, Value.category]; done) | rfl) ?_
 intro pp ee ss mm bb mtd cc T0 K X0
 have E0 := X0.ext0
 refine o_iconst K X0 d4_0 rfl (z := 0) rfl ?_
 refine o_istore K X0 d4_1 rfl (L' := #[vR b, vI 0, vR d, vI 0, vI 2, vI 0, uS]) rfl ?_
 refine o_iload K X0 d4_3 rfl rfl ?_
 refine o_iload K X0 d4_5 rfl rfl ?_
 refine o_icmp_ge_f K X0 d4_7 rfl (by decide) ?_
 refine o_aloadN K X0 d4_10 rfl rfl rfl ?_
 refine o_iloadN K X0 d4_11 rfl rfl ?_
 refine o_caload K X0 q0 (by decide) (v := (.int c0)) rfl d4_12 rfl ?_
 refine o_istore K X0 d4_13 rfl (L' := #[vR b, vI 0, vR d, vI 0, vI 2, vI 0, vI c0]) rfl ?_
 refine o_iload K X0 d4_15 rfl rfl ?_
 refine o_sipush K X0 d4_17 rfl (z := 255) rfl ?_
 refine o_icmp_le_t K X0 d4_20 (by decide) (pc' := 26) (by decide) q4 ?_
 refine o_aloadN K X0 d4_26 rfl rfl rfl ?_
 refine o_iloadN K X0 d4_27 rfl rfl ?_
 refine o_iload K X0 d4_28 rfl rfl ?_
 refine o_i2b K X0 d4_30 rfl (z := (nar .byte c0)) rfl ?_
 refine o_bastore K X0 q1 (by decide) (show (0 : Int32).toNatClampNeg < 2 from (by decide)) q2 (z := (.int (nar .byte c0))) (congrArg Value.int (oNarIdembyte _)) d4_31 rfl ?_
 intro T1 h1 X1 W1 A1
 replace A1 : oArr Z h1 d kd .byte [(.int (nar .byte c0)), .int 0] := A1
 refine o_iinc K X1 d4_32 rfl rfl (L' := #[vR b, vI 1, vR d, vI 0, vI 2, vI 0, vI c0]) (by rw [show (0 : Int32) + Int32.ofInt 1 = (1 : Int32) from (by decide)]; rfl) ?_
 refine o_iinc K X1 d4_35 rfl rfl (L' := #[vR b, vI 1, vR d, vI 1, vI 2, vI 0, vI c0]) (by rw [show (0 : Int32) + Int32.ofInt 1 = (1 : Int32) from (by decide)]; rfl) ?_
 refine o_iinc K X1 d4_38 rfl rfl (L' := #[vR b, vI 1, vR d, vI 1, vI 2, vI 1, vI c0]) (by rw [show (0 : Int32) + Int32.ofInt 1 = (1 : Int32) from (by decide)]; rfl) ?_
 refine o_goto K X1 d4_41 (by decide) (pc' := 3) (by decide) ?_
 refine o_iload K X1 d4_3 rfl rfl ?_
 refine o_iload K X1 d4_5 rfl rfl ?_
 refine o_icmp_ge_f K X1 d4_7 rfl (by decide) ?_
 refine o_aloadN K X1 d4_10 rfl rfl rfl ?_
 refine o_iloadN K X1 d4_11 rfl rfl ?_
 have m2 := (q0.other W1 q3)
 refine o_caload K X1 m2 (by decide) (v := (.int c1)) rfl d4_12 rfl ?_
 refine o_istore K X1 d4_13 rfl (L' := #[vR b, vI 1, vR d, vI 1, vI 2, vI 1, vI c1]) rfl ?_
 refine o_iload K X1 d4_15 rfl rfl ?_
 refine o_sipush K X1 d4_17 rfl (z := 255) rfl ?_
 refine o_icmp_le_t K X1 d4_20 (by decide) (pc' := 26) (by decide) q5 ?_
 refine o_aloadN K X1 d4_26 rfl rfl rfl ?_
 refine o_iloadN K X1 d4_27 rfl rfl ?_
 refine o_iload K X1 d4_28 rfl rfl ?_
 refine o_i2b K X1 d4_30 rfl (z := (nar .byte c1)) rfl ?_
 refine o_bastore K X1 A1 (by decide) (show (1 : Int32).toNatClampNeg < 2 from (by decide)) q2 (z := (.int (nar .byte c1))) (congrArg Value.int (oNarIdembyte _)) d4_31 rfl ?_
 intro T3 h3 X3 W3 A3
 replace A3 : oArr Z h3 d kd .byte [(.int (nar .byte c0)), (.int (nar .byte c1))] := A3
 refine o_iinc K X3 d4_32 rfl rfl (L' := #[vR b, vI 2, vR d, vI 1, vI 2, vI 1, vI c1]) (by rw [show (1 : Int32) + Int32.ofInt 1 = (2 : Int32) from (by decide)]; rfl) ?_
 refine o_iinc K X3 d4_35 rfl rfl (L' := #[vR b, vI 2, vR d, vI 2, vI 2, vI 1, vI c1]) (by rw [show (1 : Int32) + Int32.ofInt 1 = (2 : Int32) from (by decide)]; rfl) ?_
 refine o_iinc K X3 d4_38 rfl rfl (L' := #[vR b, vI 2, vR d, vI 2, vI 2, vI 2, vI c1]) (by rw [show (1 : Int32) + Int32.ofInt 1 = (2 : Int32) from (by decide)]; rfl) ?_
 refine o_goto K X3 d4_41 (by decide) (pc' := 3) (by decide) ?_
 refine o_iload K X3 d4_3 rfl rfl ?_
 refine o_iload K X3 d4_5 rfl rfl ?_
 refine o_icmp_ge_t K X3 d4_7 (by decide) (pc' := 44) (by decide) (by decide) ?_
 refine o_iload K X3 d4_44 rfl rfl ?_
 refine o_ireturn K X3 d4_46 rfl ?_ (by decide) (by decide)
 exact ⟨rfl, (((Keep.refl h0 [d]).wr W1 (Or.inl me0)).wr W3 (Or.inl me0)), A3⟩
def r_cmp3_2 : Room := { frames := 1, cells := 1, slots := 2, locals := 18 }
def Q_cmp3_2 (Z : State) (b : Addr) (kb : ClassId) (c0 c1 : Int32) (h0 : Heap) (v : Option Value) (h : Heap) : Prop := ∃ r : Addr, ∃ k : ClassId, v = some (.ref r) ∧ Keep h0 h [] ∧ h0.size ≤ r ∧ oArr Z h r k .byte [(.int (nar .byte c0)), (.int (nar .byte c1))]
theorem rm_cmp3_2 (l : Launch) (Z : State) (a0 : Array Value) (hw : oHw Z a0) (b : Addr) (kb : ClassId) (c0 c1 : Int32) (h0 : Heap) (q0 : oArr Z h0 b kb .char [.int c0, .int c1]) (q1 : ¬ ((255 : Int32) < c0)) (q2 : ¬ ((255 : Int32) < c1)) : oMet l Z (⟨z9, "compress", "([CII)[B"⟩ : MethodName) jdk_52_method_16_code 6 (some (.array .byte)) r_cmp3_2 [] #[.ref b, .int 0, .int 2] h0 (Q_cmp3_2 Z b kb c0 c1 h0) := by
 refine oEnter (plainFor_of_name (by first | (simp [plainName, overriddenIn]; done) | decide +kernel)) (own := z9) (nm := "compress") rfl rfl (L := #[.val (.ref b), .val (.int 0), .val (.int 2), .unset, .unset, .unset]) (fun m => by first | (simp [entryFrame, mkF, argsToLocals, Value.category]; done) | rfl) ?_
 intro pp ee ss mm bb mtd cc T0 K X0
 have E0 := X0.ext0
 refine o_iloadN K X0 d5_0 rfl rfl ?_
 refine o_newarray K X0 (aty := .byte) 2 (w30 hw) (ad := "[B") (by decide +kernel) (by decide) (by decide) (by decide) rfl d5_1 rfl (by decide) (by decide) ?_
 intro T1 h1 b1 k1 X1 g1 E1 A1 B1 G1
 replace A1 : oArr Z h1 b1 k1 .byte [.int 0, .int 0] := A1
 refine o_astoreN K X1 d5_3 rfl rfl (L' := #[vR b, vI 0, vI 2, vR b1, uS, uS]) rfl ?_
 refine o_aloadN K X1 d5_4 rfl rfl rfl ?_
 refine o_iloadN K X1 d5_5 rfl rfl ?_
 refine o_aloadN K X1 d5_6 rfl rfl rfl ?_
 refine o_iconst K X1 d5_7 rfl (z := 0) rfl ?_
 refine o_iloadN K X1 d5_8 rfl rfl ?_
 have m2 := (q0.ext E1)
 have n3 := oLz q0.lt (oLe g1)
 refine o_static K X1  (w31 hw) (w32 hw) (w28 hw) (w33 hw) (by decide) (rm_cmp5_2 l Z a0 hw b kb b1 k1 c0 c1 h1 m2 A1 G1 n3 q1 q2) (by decide) rfl (argsL := [.ref b, .int 0, .ref b1, .int 0, .int 2]) rfl (lenOf pd1 rfl) (W := 0) rfl (by decide) (by decide) (by decide) d5_9 rfl ?_
 intro v4 T4 h4 X4 U4
 obtain ⟨rfl, u4_0, u4_1⟩ := U4
 show oGoes pp ee bb ss Z T4 (mkF mm 12 _ [.int 2]) _ _ _
 refine o_istore K X4 d5_12 rfl (L' := #[vR b, vI 0, vI 2, vR b1, vI 2, uS]) rfl ?_
 refine o_iload K X4 d5_14 rfl rfl ?_
 refine o_iloadN K X4 d5_16 rfl rfl ?_
 refine o_icmp_eq_t K X4 d5_17 (by decide) (pc' := 57) (by decide) (by decide) ?_
 refine o_aloadN K X4 d5_57 rfl rfl rfl ?_
 refine o_areturn K X4 (t := (.array .byte)) d5_58 rfl rfl rfl ?_ (by decide) (by decide)
 exact ⟨b1, k1, rfl, (((Keep.refl h0 []).ext E1).trans u4_0 (allS (Or.inr (oLe g1)) all0)), (oLe g1), u4_1⟩
def r_coder_2 : Room := { frames := 0, cells := 0, slots := 0, locals := 0 }
def Q_coder_2 (Z : State) (b : Addr) (kb : ClassId) (c0 c1 : Int32) (h0 : Heap) (v : Option Value) (h : Heap) : Prop := v = some (.int 0) ∧ h0 = h
theorem rm_coder_2 (l : Launch) (Z : State) (a0 : Array Value) (hw : oHw Z a0) (b : Addr) (kb : ClassId) (c0 c1 : Int32) (h0 : Heap) (q0 : oArr Z h0 b kb .byte [.int c0, .int c1]) : oMet l Z (⟨z9, "coderFromArrayLen", "([BI)B"⟩ : MethodName) jdk_52_method_15_code 2 (some .byte) r_coder_2 [] #[.ref b, .int 2] h0 (Q_coder_2 Z b kb c0 c1 h0) := by
 refine oEnter (plainFor_of_name (by first | (simp [plainName, overriddenIn]; done) | decide +kernel)) (own := z9) (nm := "coderFromArrayLen") rfl rfl (L := #[.val (.ref b), .val (.int 2)]) (fun m => by first | (simp [entryFrame, mkF, argsToLocals, Value.category]; done) | rfl) ?_
 intro pp ee ss mm bb mtd cc T0 K X0
 have E0 := X0.ext0
 refine o_iloadN K X0 d6_0 rfl rfl ?_
 refine o_aloadN K X0 d6_1 rfl rfl rfl ?_
 refine o_arraylength K X0 q0 (z := 2) rfl d6_2 rfl ?_
 refine o_isub K X0 d6_3 rfl (z := 0) (by decide) ?_
 refine o_bipush K X0 d6_4 rfl (z := 31) rfl ?_
 refine o_iushr K X0 d6_6 rfl (z := 0) (by decide) ?_
 refine o_i2b K X0 d6_7 rfl (z := 0) (by decide) ?_
 refine o_ireturnN K X0 .byte d6_8 rfl (by simp) (z' := 0) (by decide) ?_ (by decide) (by decide)
 exact ⟨rfl, rfl⟩
def r_str4_2 : Room := { frames := 2, cells := 1, slots := 2, locals := 35 }
def Q_str4_2 (Z : State) (a b : Addr) (kb : ClassId) (cs c0 c1 : Int32) (h0 : Heap) (v : Option Value) (h : Heap) : Prop := ∃ vb : Addr, ∃ k : ClassId, v = none ∧ Keep h0 h [a] ∧ Exa Z h a z0 ∧ Fld Z h a z0 "value" "[B" (.ref vb) ∧ Fld Z h a z0 "coder" "B" (.int 0) ∧ h0.size ≤ vb ∧ oArr Z h vb k .byte [(.int (nar .byte c0)), (.int (nar .byte c1))]
theorem rm_str4_2 (l : Launch) (Z : State) (a0 : Array Value) (hw : oHw Z a0) (a b : Addr) (kb : ClassId) (cs c0 c1 : Int32) (h0 : Heap) (q0 : Exa Z h0 a z0) (q1 : Fld Z h0 a z0 "value" "[B" .null) (q2 : Fld Z h0 a z0 "coder" "B" (.int 0)) (q3 : Z.heap.size ≤ a) (q4 : oArr Z h0 b kb .char [.int c0, .int c1]) (q5 : Sta Z Z.heap z0 z4 "Z" (.int cs)) (q6 : ¬ (cs = (0 : Int32))) (q7 : ¬ ((255 : Int32) < c0)) (q8 : ¬ ((255 : Int32) < c1)) : oMet l Z (⟨z0, "<init>", "([CIILjava/lang/Void;)V"⟩ : MethodName) jdk_42_method_149_code 6 none r_str4_2 [] #[.ref a, .ref b, .int 0, .int 2, .null] h0 (Q_str4_2 Z a b kb cs c0 c1 h0) := by
 refine oEnter (plainFor_of_name (by first | (simp [plainName, overriddenIn]; done) | decide +kernel)) (own := z0) (nm := "<init>") rfl rfl (L := #[.val (.ref a), .val (.ref b), .val (.int 0), .val (.int 2), .val .null, .unset]) (fun m => by first | (simp [entryFrame, mkF, argsToLocals, Value.category]; done) | rfl) ?_
 intro pp ee ss mm bb mtd cc T0 K X0
 have E0 := X0.ext0
 refine o_aloadN K X0 d7_0 rfl rfl rfl ?_
 refine o_initObj K X0 (w22 hw) (w23 hw) (w24 hw) d7_1 rfl rfl (by decide) (W := 0) rfl (by decide) ?_
 intro T1 X1
 refine o_iloadN K X1 d7_4 rfl rfl ?_
 refine o_if_ne_t K X1 d7_5 (by decide) (pc' := 27) (by decide) (by decide) ?_
 refine o_getstatic K X1 (host := "") (Or.inl (w25 hw)) Via.refl (q5.ext X1.ext0) d7_27 rfl ?_
 intro T2 X2
 refine o_if_eq_f K X2 d7_30 rfl q6 ?_
 refine o_aloadN K X2 d7_33 rfl rfl rfl ?_
 refine o_iloadN K X2 d7_34 rfl rfl ?_
 refine o_iloadN K X2 d7_35 rfl rfl ?_
 refine o_static K X2  (w26 hw) (w27 hw) (w28 hw) (w29 hw) (by decide) (rm_cmp3_2 l Z a0 hw b kb c0 c1 h0 q4 q7 q8) (by decide) rfl (argsL := [.ref b, .int 0, .int 2]) rfl (lenOf pd2 rfl) (W := 0) rfl (by decide) (by decide) (by decide) d7_36 rfl ?_
 intro v3 T3 h3 X3 U3
 obtain ⟨r_3, k_3, rfl, u3_0, u3_1, u3_2⟩ := U3
 have G3_r : Z.heap.size ≤ r_3 := Nat.le_trans X2.ext0.1 u3_1
 show oGoes pp ee bb ss Z T3 (mkF mm 39 _ [.ref r_3]) _ _ _
 refine o_astore K X3 d7_39 rfl rfl (L' := #[vR a, vR b, vI 0, vI 2, vN, vR r_3]) rfl ?_
 refine o_aloadN K X3 d7_41 rfl rfl rfl ?_
 refine o_aload K X3 d7_42 rfl rfl rfl ?_
 refine o_iloadN K X3 d7_44 rfl rfl ?_
 refine o_static K X3  (w34 hw) (w35 hw) (w28 hw) (w36 hw) (by decide) (rm_coder_2 l Z a0 hw r_3 k_3 (nar .byte c0) (nar .byte c1) h3 u3_2) (by decide) rfl (argsL := [.ref r_3, .int 2]) rfl (lenOf pd3 rfl) (W := 1) rfl (by decide) (by decide) (by decide) d7_45 rfl ?_
 intro v4 T4 h4 X4 U4
 obtain ⟨rfl, rfl⟩ := U4
 show oGoes pp ee bb ss Z T4 (mkF mm 48 _ [.int 0, .ref a]) _ _ _
 have m6 := (q2.keep u3_0 nin0)
 have m7 := (q0.keep u3_0)
 refine o_putfieldN K X4 (w37 hw) Via.refl m6 m7 (Or.inr ⟨(w38 hw), rfl, rfl⟩) (w13 hw) (ty := .byte) (by decide) (v' := (.int 0)) (congrArg Value.int (by decide)) (oFitbyte (x := (0 : Int32)) (by decide)) q3 d7_48 rfl ?_
 intro T5 h5 X5 W5
 have F5 := Fld.same W5 m6
 refine o_aloadN K X5 d7_51 rfl rfl rfl ?_
 refine o_aload K X5 d7_52 rfl rfl rfl ?_
 have m9 := (Fld.other W5 (q1.keep u3_0 nin0) (Or.inr (slot_ne (Or.inr (w40 hw)) (Or.inr (w38 hw)) (by decide) (t := (.array .byte)) (t' := .byte) (by decide) (by decide))))
 have m10 := (Exa.wr W5 m7)
 refine o_putfield K X5 (host := "") (Or.inl (w39 hw)) Via.refl m9 m10 (Or.inr ⟨(w40 hw), rfl, rfl⟩) (w13 hw) (ty := (.array .byte)) (by decide) rfl rfl q3 d7_54 rfl ?_
 intro T8 h8 X8 W8
 have F8 := Fld.same W8 m9
 refine o_return K X8 d7_57 rfl ?_ (by decide) (by decide)
 have m11 := (Exa.wr W8 m10)
 have m12 := (Fld.other W8 F5 (Or.inr (slot_ne (Or.inr (w38 hw)) (Or.inr (w40 hw)) (by decide) (t := .byte) (t' := (.array .byte)) (by decide) (by decide))))
 have n13 := oLsz q0.lt u3_1
 have m14 := ((u3_2.other W5 n13).other W8 n13)
 exact ⟨r_3, k_3, rfl, ((((Keep.refl h0 [a]).trans u3_0 all0).wr W5 (Or.inl me0)).wr W8 (Or.inl me0)), m11, F8, m12, u3_1, m14⟩
def r_str_2 : Room := { frames := 3, cells := 1, slots := 2, locals := 52 }
def Q_str_2 (Z : State) (a b : Addr) (kb : ClassId) (cs c0 c1 : Int32) (h0 : Heap) (v : Option Value) (h : Heap) : Prop := ∃ vb : Addr, ∃ k : ClassId, v = none ∧ Keep h0 h [a] ∧ Exa Z h a z0 ∧ Fld Z h a z0 "value" "[B" (.ref vb) ∧ Fld Z h a z0 "coder" "B" (.int 0) ∧ h0.size ≤ vb ∧ oArr Z h vb k .byte [(.int (nar .byte c0)), (.int (nar .byte c1))]
theorem rm_str_2 (l : Launch) (Z : State) (a0 : Array Value) (hw : oHw Z a0) (a b : Addr) (kb : ClassId) (cs c0 c1 : Int32) (h0 : Heap) (q0 : Exa Z h0 a z0) (q1 : Fld Z h0 a z0 "value" "[B" .null) (q2 : Fld Z h0 a z0 "coder" "B" (.int 0)) (q3 : Z.heap.size ≤ a) (q4 : oArr Z h0 b kb .char [.int c0, .int c1]) (q5 : Sta Z Z.heap z0 z4 "Z" (.int cs)) (q6 : ¬ (cs = (0 : Int32))) (q7 : ¬ ((255 : Int32) < c0)) (q8 : ¬ ((255 : Int32) < c1)) : oMet l Z (⟨z0, "<init>", "([C)V"⟩ : MethodName) jdk_42_method_3_code 2 none r_str_2 [] #[.ref a, .ref b] h0 (Q_str_2 Z a b kb cs c0 c1 h0) := by
 refine oEnter (plainFor_of_name (by first | (simp [plainName, overriddenIn]; done) | decide +kernel)) (own := z0) (nm := "<init>") rfl rfl (L := #[.val (.ref a), .val (.ref b)]) (fun m => by first | (simp [entryFrame, mkF, argsToLocals, Value.category]; done) | rfl) ?_
 intro pp ee ss mm bb mtd cc T0 K X0
 have E0 := X0.ext0
 refine o_aloadN K X0 d8_0 rfl rfl rfl ?_
 refine o_aloadN K X0 d8_1 rfl rfl rfl ?_
 refine o_iconst K X0 d8_2 rfl (z := 0) rfl ?_
 refine o_aloadN K X0 d8_3 rfl rfl rfl ?_
 refine o_arraylength K X0 q4 (z := 2) rfl d8_4 rfl ?_
 refine o_aconst_null K X0 d8_5 rfl ?_
 refine o_special K X0 (y := (⟨z0, "<init>", "([CIILjava/lang/Void;)V"⟩ : MethodName)) rfl (w18 hw) (w19 hw) (w14 hw) (w21 hw) (by decide) (rm_str4_2 l Z a0 hw a b kb cs c0 c1 h0 q0 q1 q2 q3 q4 q5 q6 q7 q8) (by decide) rfl (argsL := [.ref b, .int 0, .int 2, .null]) rfl (lenOf pd4 rfl) (W := 0) rfl (by decide) (by decide) (by decide) d8_6 rfl ?_
 intro v1 T1 h1 X1 U1
 obtain ⟨vb_1, k_1, rfl, u1_0, u1_1, u1_2, u1_3, u1_4, u1_5⟩ := U1
 have G1_vb : Z.heap.size ≤ vb_1 := Nat.le_trans X0.ext0.1 u1_4
 show oGoes pp ee bb ss Z T1 (mkF mm 9 _ []) _ _ _
 refine o_return K X1 d8_9 rfl ?_ (by decide) (by decide)
 exact ⟨vb_1, k_1, rfl, ((Keep.refl h0 [a]).trans u1_0 (allS (Or.inl me0) all0)), u1_1, u1_2, u1_3, u1_4, u1_5⟩
theorem d9_0 : decode jdk_30_method_1_code 0 = .ok (.aload_n 0, 1) := by decide +kernel
theorem d9_1 : decode jdk_30_method_1_code 1 = .ok (.invokespecial 1, 3) := by decide +kernel
theorem d9_4 : decode jdk_30_method_1_code 4 = .ok (.return_, 1) := by decide +kernel
def r_rec : Room := { frames := 1, cells := 0, slots := 0, locals := 12 }
def Q_rec (Z : State) (a : Addr) (h0 : Heap) (v : Option Value) (h : Heap) : Prop := v = none ∧ h0 = h
theorem rm_rec (l : Launch) (Z : State) (a0 : Array Value) (hw : oHw Z a0) (a : Addr) (h0 : Heap) : oMet l Z (⟨"java/lang/Record", "<init>", "()V"⟩ : MethodName) jdk_30_method_1_code 1 none r_rec [] #[.ref a] h0 (Q_rec Z a h0) := by
 refine oEnter (plainFor_of_name (by first | (simp [plainName, overriddenIn]; done) | decide +kernel)) (own := "java/lang/Record") (nm := "<init>") rfl rfl (L := #[.val (.ref a)]) (fun m => by first | (simp [entryFrame, mkF, argsToLocals, Value.category]; done) | rfl) ?_
 intro pp ee ss mm bb mtd cc T0 K X0
 have E0 := X0.ext0
 refine o_aloadN K X0 d9_0 rfl rfl rfl ?_
 refine o_initObj K X0 (w49 hw) (w23 hw) (w24 hw) d9_1 rfl rfl (by decide) (W := 0) rfl (by decide) ?_
 intro T1 X1
 refine o_return K X1 d9_4 rfl ?_ (by decide) (by decide)
 exact ⟨rfl, rfl⟩
theorem d10_0 : decode jdk_42_method_152_code 0 = .ok (.getstatic 38, 3) := by decide +kernel
theorem d10_3 : decode jdk_42_method_152_code 3 = .ok (.ifCond .eq 10, 3) := by decide +kernel
theorem d10_6 : decode jdk_42_method_152_code 6 = .ok (.aload_n 0, 1) := by decide +kernel
theorem d10_7 : decode jdk_42_method_152_code 7 = .ok (.getfield 15, 3) := by decide +kernel
theorem d10_10 : decode jdk_42_method_152_code 10 = .ok (.goto 4, 3) := by decide +kernel
theorem d10_14 : decode jdk_42_method_152_code 14 = .ok (.ireturn, 1) := by decide +kernel
def r_strcoder : Room := { frames := 0, cells := 0, slots := 0, locals := 0 }
def Q_strcoder (Z : State) (a : Addr) (cs : Int32) (h0 : Heap) (v : Option Value) (h : Heap) : Prop := v = some (.int 0) ∧ h0 = h
theorem rm_strcoder (l : Launch) (Z : State) (a0 : Array Value) (hw : oHw Z a0) (a : Addr) (cs : Int32) (h0 : Heap) (q0 : Fld Z h0 a z0 "coder" "B" (.int 0)) (q1 : Sta Z Z.heap z0 z4 "Z" (.int cs)) (q2 : ¬ (cs = (0 : Int32))) : oMet l Z (⟨z0, "coder", "()B"⟩ : MethodName) jdk_42_method_152_code 1 (some .byte) r_strcoder [] #[.ref a] h0 (Q_strcoder Z a cs h0) := by
 refine oEnter (plainFor_of_name (by first | (simp [plainName, overriddenIn]; done) | decide +kernel)) (own := z0) (nm := "coder") rfl rfl (L := #[.val (.ref a)]) (fun m => by first | (simp [entryFrame, mkF, argsToLocals, Value.category]; done) | rfl) ?_
 intro pp ee ss mm bb mtd cc T0 K X0
 have E0 := X0.ext0
 refine o_getstatic K X0 (host := "") (Or.inl (w25 hw)) Via.refl (q1.ext X0.ext0) d10_0 rfl ?_
 intro T1 X1
 refine o_if_eq_f K X1 d10_3 rfl q2 ?_
 refine o_aloadN K X1 d10_6 rfl rfl rfl ?_
 refine o_getfield K X1 (host := "") (Or.inl (w37 hw)) Via.refl q0 d10_7 rfl ?_
 intro T2 X2
 refine o_goto K X2 d10_10 (by decide) (pc' := 14) (by decide) ?_
 refine o_ireturnN K X2 .byte d10_14 rfl (by simp) (z' := 0) (by decide) ?_ (by decide) (by decide)
 exact ⟨rfl, rfl⟩
theorem d11_0 : decode jdk_42_method_154_code 0 = .ok (.getstatic 38, 3) := by decide +kernel
theorem d11_3 : decode jdk_42_method_154_code 3 = .ok (.ifCond .eq 14, 3) := by decide +kernel
theorem d11_6 : decode jdk_42_method_154_code 6 = .ok (.aload_n 0, 1) := by decide +kernel
theorem d11_7 : decode jdk_42_method_154_code 7 = .ok (.getfield 15, 3) := by decide +kernel
theorem d11_10 : decode jdk_42_method_154_code 10 = .ok (.ifCond .ne 7, 3) := by decide +kernel
theorem d11_13 : decode jdk_42_method_154_code 13 = .ok (.iconst 1, 1) := by decide +kernel
theorem d11_14 : decode jdk_42_method_154_code 14 = .ok (.goto 4, 3) := by decide +kernel
theorem d11_18 : decode jdk_42_method_154_code 18 = .ok (.ireturn, 1) := by decide +kernel
def r_strlat : Room := { frames := 0, cells := 0, slots := 0, locals := 0 }
def Q_strlat (Z : State) (a : Addr) (cs : Int32) (h0 : Heap) (v : Option Value) (h : Heap) : Prop := v = some (.int 1) ∧ h0 = h
theorem rm_strlat (l : Launch) (Z : State) (a0 : Array Value) (hw : oHw Z a0) (a : Addr) (cs : Int32) (h0 : Heap) (q0 : Fld Z h0 a z0 "coder" "B" (.int 0)) (q1 : Sta Z Z.heap z0 z4 "Z" (.int cs)) (q2 : ¬ (cs = (0 : Int32))) : oMet l Z (⟨z0, "isLatin1", "()Z"⟩ : MethodName) jdk_42_method_154_code 1 (some .boolean) r_strlat [] #[.ref a] h0 (Q_strlat Z a cs h0) := by
 refine oEnter (plainFor_of_name (by first | (simp [plainName, overriddenIn]; done) | decide +kernel)) (own := z0) (nm := "isLatin1") rfl rfl (L := #[.val (.ref a)]) (fun m => by first | (simp [entryFrame, mkF, argsToLocals, Value.category]; done) | rfl) ?_
 intro pp ee ss mm bb mtd cc T0 K X0
 have E0 := X0.ext0
 refine o_getstatic K X0 (host := "") (Or.inl (w25 hw)) Via.refl (q1.ext X0.ext0) d11_0 rfl ?_
 intro T1 X1
 refine o_if_eq_f K X1 d11_3 rfl q2 ?_
 refine o_aloadN K X1 d11_6 rfl rfl rfl ?_
 refine o_getfield K X1 (host := "") (Or.inl (w37 hw)) Via.refl q0 d11_7 rfl ?_
 intro T2 X2
 refine o_if_ne_f K X2 d11_10 rfl (by decide) ?_
 refine o_iconst K X2 d11_13 rfl (z := 1) rfl ?_
 refine o_goto K X2 d11_14 (by decide) (pc' := 18) (by decide) ?_
 refine o_ireturnN K X2 .boolean d11_18 rfl (by simp) (z' := 1) (by decide) ?_ (by decide) (by decide)
 exact ⟨rfl, rfl⟩
theorem d12_0 : decode jdk_42_method_55_code 0 = .ok (.aload_n 0, 1) := by decide +kernel
theorem d12_1 : decode jdk_42_method_55_code 1 = .ok (.getfield 9, 3) := by decide +kernel
theorem d12_4 : decode jdk_42_method_55_code 4 = .ok (.arraylength, 1) := by decide +kernel
theorem d12_5 : decode jdk_42_method_55_code 5 = .ok (.ifCond .ne 7, 3) := by decide +kernel
theorem d12_12 : decode jdk_42_method_55_code 12 = .ok (.iconst 0, 1) := by decide +kernel
theorem d12_13 : decode jdk_42_method_55_code 13 = .ok (.ireturn, 1) := by decide +kernel
def r_strem1 : Room := { frames := 0, cells := 0, slots := 0, locals := 0 }
def Q_strem1 (Z : State) (a va : Addr) (k : ClassId) (c0 : Int32) (h0 : Heap) (v : Option Value) (h : Heap) : Prop := v = some (.int 0) ∧ h0 = h
theorem rm_strem1 (l : Launch) (Z : State) (a0 : Array Value) (hw : oHw Z a0) (a va : Addr) (k : ClassId) (c0 : Int32) (h0 : Heap) (q0 : Exa Z h0 a z0) (q1 : Fld Z h0 a z0 "value" "[B" (.ref va)) (q2 : Fld Z h0 a z0 "coder" "B" (.int 0)) (q3 : oArr Z h0 va k .byte [(.int (nar .byte c0))]) : oMet l Z (⟨z0, "isEmpty", "()Z"⟩ : MethodName) jdk_42_method_55_code 1 (some .boolean) r_strem1 [] #[.ref a] h0 (Q_strem1 Z a va k c0 h0) := by
 refine oEnter (plainFor_of_name (by first | (simp [plainName, overriddenIn]; done) | decide +kernel)) (own := z0) (nm := "isEmpty") rfl rfl (L := #[.val (.ref a)]) (fun m => by first | (simp [entryFrame, mkF, argsToLocals, Value.category]; done) | rfl) ?_
 intro pp ee ss mm bb mtd cc T0 K X0
 have E0 := X0.ext0
 refine o_aloadN K X0 d12_0 rfl rfl rfl ?_
 refine o_getfield K X0 (host := "") (Or.inl (w39 hw)) Via.refl q1 d12_1 rfl ?_
 intro T1 X1
 refine o_arraylength K X1 q3 (z := 1) rfl d12_4 rfl ?_
 refine o_if_ne_t K X1 d12_5 (by decide) (pc' := 12) (by decide) (by decide) ?_
 refine o_iconst K X1 d12_12 rfl (z := 0) rfl ?_
 refine o_ireturnN K X1 .boolean d12_13 rfl (by simp) (z' := 0) (by decide) ?_ (by decide) (by decide)
 exact ⟨rfl, rfl⟩
theorem d13_0 : decode jdk_42_method_54_code 0 = .ok (.aload_n 0, 1) := by decide +kernel
theorem d13_1 : decode jdk_42_method_54_code 1 = .ok (.getfield 9, 3) := by decide +kernel
theorem d13_4 : decode jdk_42_method_54_code 4 = .ok (.arraylength, 1) := by decide +kernel
theorem d13_5 : decode jdk_42_method_54_code 5 = .ok (.aload_n 0, 1) := by decide +kernel
theorem d13_6 : decode jdk_42_method_54_code 6 = .ok (.invokevirtual 335, 3) := by decide +kernel
theorem d13_9 : decode jdk_42_method_54_code 9 = .ok (.ishr, 1) := by decide +kernel
theorem d13_10 : decode jdk_42_method_54_code 10 = .ok (.ireturn, 1) := by decide +kernel
theorem pd5 : parseMethodDescriptor "()B" = some ⟨[], some .byte⟩ := by decide +kernel
def r_strlen1 : Room := { frames := 1, cells := 0, slots := 0, locals := 13 }
def Q_strlen1 (Z : State) (a va : Addr) (k : ClassId) (c0 cs : Int32) (h0 : Heap) (v : Option Value) (h : Heap) : Prop := v = some (.int 1) ∧ h0 = h
theorem rm_strlen1 (l : Launch) (Z : State) (a0 : Array Value) (hw : oHw Z a0) (a va : Addr) (k : ClassId) (c0 cs : Int32) (h0 : Heap) (q0 : Exa Z h0 a z0) (q1 : Fld Z h0 a z0 "value" "[B" (.ref va)) (q2 : Fld Z h0 a z0 "coder" "B" (.int 0)) (q3 : oArr Z h0 va k .byte [(.int (nar .byte c0))]) (q4 : Sta Z Z.heap z0 z4 "Z" (.int cs)) (q5 : ¬ (cs = (0 : Int32))) : oMet l Z (⟨z0, "length", "()I"⟩ : MethodName) jdk_42_method_54_code 1 (some .int) r_strlen1 [] #[.ref a] h0 (Q_strlen1 Z a va k c0 cs h0) := by
 refine oEnter (plainFor_of_name (by first | (simp [plainName, overriddenIn]; done) | decide +kernel)) (own := z0) (nm := "length") rfl rfl (L := #[.val (.ref a)]) (fun m => by first | (simp [entryFrame, mkF, argsToLocals, Value.category]; done) | rfl) ?_
 intro pp ee ss mm bb mtd cc T0 K X0
 have E0 := X0.ext0
 refine o_aloadN K X0 d13_0 rfl rfl rfl ?_
 refine o_getfield K X0 (host := "") (Or.inl (w39 hw)) Via.refl q1 d13_1 rfl ?_
 intro T1 X1
 refine o_arraylength K X1 q3 (z := 1) rfl d13_4 rfl ?_
 refine o_aloadN K X1 d13_5 rfl rfl rfl ?_
 refine o_virtual K X1   (w69 hw) (w70 hw) (oNF (w72 hw)) (w72 hw) (w71 hw) (w14 hw) (w73 hw) (by decide) q0 (rm_strcoder l Z a0 hw a cs h0 q2 q4 q5) (by decide) rfl (argsL := []) rfl (lenOf pd5 rfl) (W := 1) rfl (by decide) (by decide) (by decide) d13_6 rfl ?_
 intro v2 T2 h2 X2 U2
 obtain ⟨rfl, rfl⟩ := U2
 show oGoes pp ee bb ss Z T2 (mkF mm 9 _ [.int 0, .int 1]) _ _ _
 refine o_ishr K X2 d13_9 rfl (z := 1) (by decide) ?_
 refine o_ireturn K X2 d13_10 rfl ?_ (by decide) (by decide)
 exact ⟨rfl, rfl⟩
theorem d14_0 : decode jdk_41_method_11_code 0 = .ok (.iload_n 0, 1) := by decide +kernel
theorem d14_1 : decode jdk_41_method_11_code 1 = .ok (.ifCond .lt 8, 3) := by decide +kernel
theorem d14_4 : decode jdk_41_method_11_code 4 = .ok (.iload_n 0, 1) := by decide +kernel
theorem d14_5 : decode jdk_41_method_11_code 5 = .ok (.iload_n 1, 1) := by decide +kernel
theorem d14_6 : decode jdk_41_method_11_code 6 = .ok (.if_icmp .lt 10, 3) := by decide +kernel
theorem d14_16 : decode jdk_41_method_11_code 16 = .ok (.iload_n 0, 1) := by decide +kernel
theorem d14_17 : decode jdk_41_method_11_code 17 = .ok (.ireturn, 1) := by decide +kernel
def r_pchk1_0 : Room := { frames := 0, cells := 0, slots := 0, locals := 0 }
def Q_pchk1_0 (Z : State) (fm : Value) (h0 : Heap) (v : Option Value) (h : Heap) : Prop := v = some (.int 0) ∧ h0 = h
theorem rm_pchk1_0 (l : Launch) (Z : State) (a0 : Array Value) (hw : oHw Z a0) (fm : Value) (h0 : Heap) (q0 : fm.isRef = true) : oMet l Z (⟨z3, "checkIndex", "(IILjava/util/function/BiFunction;)I"⟩ : MethodName) jdk_41_method_11_code 3 (some .int) r_pchk1_0 [] #[.int 0, .int 1, fm] h0 (Q_pchk1_0 Z fm h0) := by
 refine oEnter (plainFor_of_name (by first | (simp [plainName, overriddenIn]; done) | decide +kernel)) (own := z3) (nm := "checkIndex") rfl rfl (L := #[.val (.int 0), .val (.int 1), .val fm]) (fun m => by first | (simp [entryFrame, mkF, argsToLocals, oCat1, oCat2, oCat3, oCat4, oCatRef q0]; done) | rfl) ?_
 intro pp ee ss mm bb mtd cc T0 K X0
 have E0 := X0.ext0
 refine o_iloadN K X0 d14_0 rfl rfl ?_
 refine o_if_lt_f K X0 d14_1 rfl (by decide) ?_
 refine o_iloadN K X0 d14_4 rfl rfl ?_
 refine o_iloadN K X0 d14_5 rfl rfl ?_
 refine o_icmp_lt_t K X0 d14_6 (by decide) (pc' := 16) (by decide) (by decide) ?_
 refine o_iloadN K X0 d14_16 rfl rfl ?_
 refine o_ireturn K X0 d14_17 rfl ?_ (by decide) (by decide)
 exact ⟨rfl, rfl⟩
theorem d15_0 : decode jdk_42_method_155_code 0 = .ok (.iload_n 0, 1) := by decide +kernel
theorem d15_1 : decode jdk_42_method_155_code 1 = .ok (.iload_n 1, 1) := by decide +kernel
theorem d15_2 : decode jdk_42_method_155_code 2 = .ok (.getstatic 1053, 3) := by decide +kernel
theorem d15_5 : decode jdk_42_method_155_code 5 = .ok (.invokestatic 1059, 3) := by decide +kernel
theorem d15_8 : decode jdk_42_method_155_code 8 = .ok (.pop, 1) := by decide +kernel
theorem d15_9 : decode jdk_42_method_155_code 9 = .ok (.return_, 1) := by decide +kernel
theorem pd6 : parseMethodDescriptor "(IILjava/util/function/BiFunction;)I" = some ⟨[.int, .int, (.object "java/util/function/BiFunction")], some .int⟩ := by decide +kernel
def r_schk1_0 : Room := { frames := 1, cells := 0, slots := 0, locals := 14 }
def Q_schk1_0 (Z : State) (fm : Value) (h0 : Heap) (v : Option Value) (h : Heap) : Prop := v = none ∧ h0 = h
theorem rm_schk1_0 (l : Launch) (Z : State) (a0 : Array Value) (hw : oHw Z a0) (fm : Value) (h0 : Heap) (q0 : Sta Z Z.heap z3 z5 z6 fm) (q1 : fm.isRef = true) : oMet l Z (⟨z0, "checkIndex", "(II)V"⟩ : MethodName) jdk_42_method_155_code 2 none r_schk1_0 [] #[.int 0, .int 1] h0 (Q_schk1_0 Z fm h0) := by
 refine oEnter (plainFor_of_name (by first | (simp [plainName, overriddenIn]; done) | decide +kernel)) (own := z0) (nm := "checkIndex") rfl rfl (L := #[.val (.int 0), .val (.int 1)]) (fun m => by first | (simp [entryFrame, mkF, argsToLocals, Value.category, oCatRef q1]; done) | rfl) ?_
 intro pp ee ss mm bb mtd cc T0 K X0
 have E0 := X0.ext0
 refine o_iloadN K X0 d15_0 rfl rfl ?_
 refine o_iloadN K X0 d15_1 rfl rfl ?_
 refine o_getstatic K X0 (host := "") (Or.inl (w91 hw)) Via.refl (q0.ext X0.ext0) d15_2 rfl ?_
 intro T1 X1
 refine o_static K X1  (w93 hw) (w94 hw) (w92 hw) (w95 hw) (by decide) (rm_pchk1_0 l Z a0 hw fm h0 q1) (by decide) rfl (argsL := [.int 0, .int 1, fm]) rfl (lenOf pd6 rfl) (W := 0) rfl (by decide) (by decide) (by decide) d15_5 rfl ?_
 intro v2 T2 h2 X2 U2
 obtain ⟨rfl, rfl⟩ := U2
 show oGoes pp ee bb ss Z T2 (mkF mm 8 _ [.int 0]) _ _ _
 refine o_pop K X2 d15_8 rfl rfl ?_
 refine o_return K X2 d15_9 rfl ?_ (by decide) (by decide)
 exact ⟨rfl, rfl⟩
theorem d16_0 : decode jdk_43_method_2_code 0 = .ok (.iload_n 1, 1) := by decide +kernel
theorem d16_1 : decode jdk_43_method_2_code 1 = .ok (.aload_n 0, 1) := by decide +kernel
theorem d16_2 : decode jdk_43_method_2_code 2 = .ok (.arraylength, 1) := by decide +kernel
theorem d16_3 : decode jdk_43_method_2_code 3 = .ok (.invokestatic 9, 3) := by decide +kernel
theorem d16_6 : decode jdk_43_method_2_code 6 = .ok (.aload_n 0, 1) := by decide +kernel
theorem d16_7 : decode jdk_43_method_2_code 7 = .ok (.iload_n 1, 1) := by decide +kernel
theorem d16_8 : decode jdk_43_method_2_code 8 = .ok (.baload, 1) := by decide +kernel
theorem d16_9 : decode jdk_43_method_2_code 9 = .ok (.sipush 255, 3) := by decide +kernel
theorem d16_12 : decode jdk_43_method_2_code 12 = .ok (.iand, 1) := by decide +kernel
theorem d16_13 : decode jdk_43_method_2_code 13 = .ok (.i2c, 1) := by decide +kernel
theorem d16_14 : decode jdk_43_method_2_code 14 = .ok (.ireturn, 1) := by decide +kernel
theorem pd7 : parseMethodDescriptor "(II)V" = some ⟨[.int, .int], none⟩ := by decide +kernel
def r_lchar1_0 : Room := { frames := 2, cells := 0, slots := 0, locals := 27 }
def Q_lchar1_0 (Z : State) (va : Addr) (k : ClassId) (c0 : Int32) (fm : Value) (h0 : Heap) (v : Option Value) (h : Heap) : Prop := v = some (.int c0) ∧ h0 = h ∧ nar .char c0 = c0
theorem rm_lchar1_0 (l : Launch) (Z : State) (a0 : Array Value) (hw : oHw Z a0) (va : Addr) (k : ClassId) (c0 : Int32) (fm : Value) (h0 : Heap) (q0 : oArr Z h0 va k .byte [(.int (nar .byte c0))]) (q1 : oCh c0) (q2 : Sta Z Z.heap z3 z5 z6 fm) (q3 : fm.isRef = true) : oMet l Z (⟨"java/lang/StringLatin1", "charAt", "([BI)C"⟩ : MethodName) jdk_43_method_2_code 2 (some .char) r_lchar1_0 [] #[.ref va, .int 0] h0 (Q_lchar1_0 Z va k c0 fm h0) := by
 refine oEnter (plainFor_of_name (by first | (simp [plainName, overriddenIn]; done) | decide +kernel)) (own := "java/lang/StringLatin1") (nm := "charAt") rfl rfl (L := #[.val (.ref va), .val (.int 0)]) (fun m => by first | (simp [entryFrame, mkF, argsToLocals, Value.category, oCatRef q3]; done) | rfl) ?_
 intro pp ee ss mm bb mtd cc T0 K X0
 have E0 := X0.ext0
 refine o_iloadN K X0 d16_0 rfl rfl ?_
 refine o_aloadN K X0 d16_1 rfl rfl rfl ?_
 refine o_arraylength K X0 q0 (z := 1) rfl d16_2 rfl ?_
 refine o_static K X0  (w88 hw) (w89 hw) (w14 hw) (w90 hw) (by decide) (rm_schk1_0 l Z a0 hw fm h0 q2 q3) (by decide) rfl (argsL := [.int 0, .int 1]) rfl (lenOf pd7 rfl) (W := 0) rfl (by decide) (by decide) (by decide) d16_3 rfl ?_
 intro v1 T1 h1 X1 U1
 obtain ⟨rfl, rfl⟩ := U1
 show oGoes pp ee bb ss Z T1 (mkF mm 6 _ []) _ _ _
 refine o_aloadN K X1 d16_6 rfl rfl rfl ?_
 refine o_iloadN K X1 d16_7 rfl rfl ?_
 refine o_baload K X1 q0 (by decide) (v := (.int (nar .byte c0))) rfl d16_8 rfl ?_
 refine o_sipush K X1 d16_9 rfl (z := 255) rfl ?_
 refine o_iand K X1 d16_12 rfl (z := c0) (oBack q1) ?_
 refine o_i2c K X1 d16_13 rfl (z := c0) (oChN q1) ?_
 refine o_ireturnN K X1 .char d16_14 rfl (by simp) (z' := c0) (oChN q1) ?_ (by decide) (by decide)
 exact ⟨rfl, rfl, (oChN q1)⟩
theorem d17_0 : decode jdk_42_method_56_code 0 = .ok (.aload_n 0, 1) := by decide +kernel
theorem d17_1 : decode jdk_42_method_56_code 1 = .ok (.invokevirtual 492, 3) := by decide +kernel
theorem d17_4 : decode jdk_42_method_56_code 4 = .ok (.ifCond .eq 12, 3) := by decide +kernel
theorem d17_7 : decode jdk_42_method_56_code 7 = .ok (.aload_n 0, 1) := by decide +kernel
theorem d17_8 : decode jdk_42_method_56_code 8 = .ok (.getfield 9, 3) := by decide +kernel
theorem d17_11 : decode jdk_42_method_56_code 11 = .ok (.iload_n 1, 1) := by decide +kernel
theorem d17_12 : decode jdk_42_method_56_code 12 = .ok (.invokestatic 495, 3) := by decide +kernel
theorem d17_15 : decode jdk_42_method_56_code 15 = .ok (.ireturn, 1) := by decide +kernel
theorem pd8 : parseMethodDescriptor "()Z" = some ⟨[], some .boolean⟩ := by decide +kernel
theorem pd9 : parseMethodDescriptor "([BI)C" = some ⟨[(.array .byte), .int], some .char⟩ := by decide +kernel
def r_char1_0 : Room := { frames := 3, cells := 0, slots := 0, locals := 40 }
def Q_char1_0 (Z : State) (a va : Addr) (k : ClassId) (c0 : Int32) (fm : Value) (cs : Int32) (h0 : Heap) (v : Option Value) (h : Heap) : Prop := v = some (.int c0) ∧ h0 = h ∧ nar .char c0 = c0
theorem rm_char1_0 (l : Launch) (Z : State) (a0 : Array Value) (hw : oHw Z a0) (a va : Addr) (k : ClassId) (c0 : Int32) (fm : Value) (cs : Int32) (h0 : Heap) (q0 : Exa Z h0 a z0) (q1 : Fld Z h0 a z0 "value" "[B" (.ref va)) (q2 : Fld Z h0 a z0 "coder" "B" (.int 0)) (q3 : oArr Z h0 va k .byte [(.int (nar .byte c0))]) (q4 : oCh c0) (q5 : Sta Z Z.heap z3 z5 z6 fm) (q6 : fm.isRef = true) (q7 : Sta Z Z.heap z0 z4 "Z" (.int cs)) (q8 : ¬ (cs = (0 : Int32))) : oMet l Z (⟨z0, "charAt", "(I)C"⟩ : MethodName) jdk_42_method_56_code 2 (some .char) r_char1_0 [] #[.ref a, .int 0] h0 (Q_char1_0 Z a va k c0 fm cs h0) := by
 refine oEnter (plainFor_of_name (by first | (simp [plainName, overriddenIn]; done) | decide +kernel)) (own := z0) (nm := "charAt") rfl rfl (L := #[.val (.ref a), .val (.int 0)]) (fun m => by first | (simp [entryFrame, mkF, argsToLocals, Value.category, oCatRef q6]; done) | rfl) ?_
 intro pp ee ss mm bb mtd cc T0 K X0
 have E0 := X0.ext0
 refine o_aloadN K X0 d17_0 rfl rfl rfl ?_
 refine o_virtual K X0   (w79 hw) (w80 hw) (oNF (w82 hw)) (w82 hw) (w81 hw) (w14 hw) (w83 hw) (by decide) q0 (rm_strlat l Z a0 hw a cs h0 q2 q7 q8) (by decide) rfl (argsL := []) rfl (lenOf pd8 rfl) (W := 0) rfl (by decide) (by decide) (by decide) d17_1 rfl ?_
 intro v1 T1 h1 X1 U1
 obtain ⟨rfl, rfl⟩ := U1
 show oGoes pp ee bb ss Z T1 (mkF mm 4 _ [.int 1]) _ _ _
 refine o_if_eq_f K X1 d17_4 rfl (by decide) ?_
 refine o_aloadN K X1 d17_7 rfl rfl rfl ?_
 refine o_getfield K X1 (host := "") (Or.inl (w39 hw)) Via.refl q1 d17_8 rfl ?_
 intro T2 X2
 refine o_iloadN K X2 d17_11 rfl rfl ?_
 refine o_static K X2  (w84 hw) (w85 hw) (w86 hw) (w87 hw) (by decide) (rm_lchar1_0 l Z a0 hw va k c0 fm h0 q3 q4 q5 q6) (by decide) rfl (argsL := [.ref va, .int 0]) rfl (lenOf pd9 rfl) (W := 0) rfl (by decide) (by decide) (by decide) d17_12 rfl ?_
 intro v3 T3 h3 X3 U3
 obtain ⟨rfl, rfl, u3_1⟩ := U3
 show oGoes pp ee bb ss Z T3 (mkF mm 15 _ [.int c0]) _ _ _
 refine o_ireturnN K X3 .char d17_15 rfl (by simp) (z' := c0) u3_1 ?_ (by decide) (by decide)
 exact ⟨rfl, rfl, u3_1⟩
theorem d18_0 : decode prog_16_method_6_code 0 = .ok (.aload_n 0, 1) := by decide +kernel
theorem d18_1 : decode prog_16_method_6_code 1 = .ok (.ifnull 18, 3) := by decide +kernel
theorem d18_4 : decode prog_16_method_6_code 4 = .ok (.aload_n 0, 1) := by decide +kernel
theorem d18_5 : decode prog_16_method_6_code 5 = .ok (.invokevirtual 51, 3) := by decide +kernel
theorem d18_8 : decode prog_16_method_6_code 8 = .ok (.ifCond .ne 11, 3) := by decide +kernel
theorem d18_11 : decode prog_16_method_6_code 11 = .ok (.aload_n 0, 1) := by decide +kernel
theorem d18_12 : decode prog_16_method_6_code 12 = .ok (.invokevirtual 55, 3) := by decide +kernel
theorem d18_15 : decode prog_16_method_6_code 15 = .ok (.iload_n 1, 1) := by decide +kernel
theorem d18_16 : decode prog_16_method_6_code 16 = .ok (.if_icmp .le 5, 3) := by decide +kernel
theorem d18_21 : decode prog_16_method_6_code 21 = .ok (.iconst 0, 1) := by decide +kernel
theorem d18_22 : decode prog_16_method_6_code 22 = .ok (.istore_n 3, 1) := by decide +kernel
theorem d18_23 : decode prog_16_method_6_code 23 = .ok (.iload_n 3, 1) := by decide +kernel
theorem d18_24 : decode prog_16_method_6_code 24 = .ok (.aload_n 0, 1) := by decide +kernel
theorem d18_25 : decode prog_16_method_6_code 25 = .ok (.invokevirtual 55, 3) := by decide +kernel
theorem d18_28 : decode prog_16_method_6_code 28 = .ok (.if_icmp .ge 25, 3) := by decide +kernel
theorem d18_31 : decode prog_16_method_6_code 31 = .ok (.aload_n 2, 1) := by decide +kernel
theorem d18_32 : decode prog_16_method_6_code 32 = .ok (.aload_n 0, 1) := by decide +kernel
theorem d18_33 : decode prog_16_method_6_code 33 = .ok (.iload_n 3, 1) := by decide +kernel
theorem d18_34 : decode prog_16_method_6_code 34 = .ok (.invokevirtual 58, 3) := by decide +kernel
theorem d18_37 : decode prog_16_method_6_code 37 = .ok (.invokeinterface 62 2, 5) := by decide +kernel
theorem d18_42 : decode prog_16_method_6_code 42 = .ok (.ifCond .ne 5, 3) := by decide +kernel
theorem d18_47 : decode prog_16_method_6_code 47 = .ok (.iinc 3 1, 3) := by decide +kernel
theorem d18_50 : decode prog_16_method_6_code 50 = .ok (.goto (-27), 3) := by decide +kernel
theorem d18_53 : decode prog_16_method_6_code 53 = .ok (.iconst 1, 1) := by decide +kernel
theorem d18_54 : decode prog_16_method_6_code 54 = .ok (.ireturn, 1) := by decide +kernel
theorem pd10 : parseMethodDescriptor "()I" = some ⟨[], some .int⟩ := by decide +kernel
theorem pd11 : parseMethodDescriptor "(I)C" = some ⟨[.int], some .char⟩ := by decide +kernel
def r_made1_oSh : Room := { frames := 4, cells := 0, slots := 0, locals := 54 }
def Q_made1_oSh (Z : State) (a va : Addr) (k : ClassId) (c0 : Int32) (f : Addr) (kf : ClassId) (fm : Value) (cs : Int32) (h0 : Heap) (v : Option Value) (h : Heap) : Prop := v = some (.int 1) ∧ h0 = h
theorem rm_made1_oSh (l : Launch) (Z : State) (a0 : Array Value) (hw : oHw Z a0) (a va : Addr) (k : ClassId) (c0 : Int32) (f : Addr) (kf : ClassId) (fm : Value) (cs : Int32) (h0 : Heap) (q0 : Exa Z h0 a z0) (q1 : Fld Z h0 a z0 "value" "[B" (.ref va)) (q2 : Fld Z h0 a z0 "coder" "B" (.int 0)) (q3 : oArr Z h0 va k .byte [(.int (nar .byte c0))]) (q4 : oSh c0) (q5 : oCh c0) (q6 : Sta Z Z.heap z3 z5 z6 fm) (q7 : fm.isRef = true) (q8 : Sta Z Z.heap z0 z4 "Z" (.int cs)) (q9 : ¬ (cs = (0 : Int32))) (q10 : Jvm.LamKit.Made Z z1 oSg0 kf ∧ Jvm.LamKit.FnAt Z.heap f kf) : oMet l Z (⟨z1, "isMadeOf", z11⟩ : MethodName) prog_16_method_6_code 4 (some .boolean) r_made1_oSh [] #[.ref a, .int 64, .ref f] h0 (Q_made1_oSh Z a va k c0 f kf fm cs h0) := by
 refine oEnter (plainFor_of_name (by first | (simp [plainName, overriddenIn]; done) | decide +kernel)) (own := z1) (nm := "isMadeOf") rfl rfl (L := #[.val (.ref a), .val (.int 64), .val (.ref f), .unset]) (fun m => by first | (simp [entryFrame, mkF, argsToLocals, Value.category, oCatRef q7]; done) | rfl) ?_
 intro pp ee ss mm bb mtd cc T0 K X0
 have E0 := X0.ext0
 refine o_aloadN K X0 d18_0 rfl rfl rfl ?_
 refine o_ifnull_f K X0 d18_1 rfl ?_
 refine o_aloadN K X0 d18_4 rfl rfl rfl ?_
 refine o_virtual K X0   (w59 hw) (w60 hw) (oNF (w62 hw)) (w62 hw) (w61 hw) (w14 hw) (w63 hw) (by decide) q0 (rm_strem1 l Z a0 hw a va k c0 h0 q0 q1 q2 q3) (by decide) rfl (argsL := []) rfl (lenOf pd8 rfl) (W := 0) rfl (by decide) (by decide) (by decide) d18_5 rfl ?_
 intro v1 T1 h1 X1 U1
 obtain ⟨rfl, rfl⟩ := U1
 show oGoes pp ee bb ss Z T1 (mkF mm 8 _ [.int 0]) _ _ _
 refine o_if_ne_f K X1 d18_8 rfl (by decide) ?_
 refine o_aloadN K X1 d18_11 rfl rfl rfl ?_
 refine o_virtual K X1   (w64 hw) (w65 hw) (oNF (w67 hw)) (w67 hw) (w66 hw) (w14 hw) (w68 hw) (by decide) q0 (rm_strlen1 l Z a0 hw a va k c0 cs h0 q0 q1 q2 q3 q8 q9) (by decide) rfl (argsL := []) rfl (lenOf pd10 rfl) (W := 0) rfl (by decide) (by decide) (by decide) d18_12 rfl ?_
 intro v2 T2 h2 X2 U2
 obtain ⟨rfl, rfl⟩ := U2
 show oGoes pp ee bb ss Z T2 (mkF mm 15 _ [.int 1]) _ _ _
 refine o_iloadN K X2 d18_15 rfl rfl ?_
 refine o_icmp_le_t K X2 d18_16 (by decide) (pc' := 21) (by decide) (by decide) ?_
 refine o_iconst K X2 d18_21 rfl (z := 0) rfl ?_
 refine o_istoreN K X2 d18_22 rfl (L' := #[vR a, vI 64, vR f, vI 0]) rfl ?_
 refine o_iloadN K X2 d18_23 rfl rfl ?_
 refine o_aloadN K X2 d18_24 rfl rfl rfl ?_
 refine o_virtual K X2   (w64 hw) (w65 hw) (oNF (w67 hw)) (w67 hw) (w66 hw) (w14 hw) (w68 hw) (by decide) q0 (rm_strlen1 l Z a0 hw a va k c0 cs h0 q0 q1 q2 q3 q8 q9) (by decide) rfl (argsL := []) rfl (lenOf pd10 rfl) (W := 1) rfl (by decide) (by decide) (by decide) d18_25 rfl ?_
 intro v3 T3 h3 X3 U3
 obtain ⟨rfl, rfl⟩ := U3
 show oGoes pp ee bb ss Z T3 (mkF mm 28 _ [.int 1, .int 0]) _ _ _
 refine o_icmp_ge_f K X3 d18_28 rfl (by decide) ?_
 refine o_aloadN K X3 d18_31 rfl rfl rfl ?_
 refine o_aloadN K X3 d18_32 rfl rfl rfl ?_
 refine o_iloadN K X3 d18_33 rfl rfl ?_
 refine o_virtual K X3   (w74 hw) (w75 hw) (oNF (w77 hw)) (w77 hw) (w76 hw) (w14 hw) (w78 hw) (by decide) q0 (rm_char1_0 l Z a0 hw a va k c0 fm cs h0 q0 q1 q2 q3 q5 q6 q7 q8 q9) (by decide) rfl (argsL := [.int 0]) rfl (lenOf pd11 rfl) (W := 1) rfl (by decide) (by decide) (by decide) d18_34 rfl ?_
 intro v4 T4 h4 X4 U4
 obtain ⟨rfl, rfl, u4_1⟩ := U4
 show oGoes pp ee bb ss Z T4 (mkF mm 37 _ [.int c0, .ref f]) _ _ _
 refine o_callLam K X4 (w96 hw) (w97 hw) (w98 hw) rfl (w100 hw) (w99 hw) (w11 hw) (by decide +kernel) (by decide +kernel) (by decide) q10.1 q10.2 oFw0 oF0_0 oF0_1 oF0_4 (rm_shc1 l Z a0 hw c0 h0 q4) (fun _ _ q => ⟨_, q.1, by decide⟩) pd0 pd0 (by decide) rfl (W := 0) rfl (by decide) (by decide) (by decide) d18_37 rfl ?_
 intro v5 T5 h5 X5 U5
 obtain ⟨rfl, rfl⟩ := U5
 show oGoes pp ee bb ss Z T5 (mkF mm 42 _ [.int 1]) _ _ _
 refine o_if_ne_t K X5 d18_42 (by decide) (pc' := 47) (by decide) (by decide) ?_
 refine o_iinc K X5 d18_47 rfl rfl (L' := #[vR a, vI 64, vR f, vI 1]) (by rw [show (0 : Int32) + Int32.ofInt 1 = (1 : Int32) from (by decide)]; rfl) ?_
 refine o_goto K X5 d18_50 (by decide) (pc' := 23) (by decide) ?_
 refine o_iloadN K X5 d18_23 rfl rfl ?_
 refine o_aloadN K X5 d18_24 rfl rfl rfl ?_
 refine o_virtual K X5   (w64 hw) (w65 hw) (oNF (w67 hw)) (w67 hw) (w66 hw) (w14 hw) (w68 hw) (by decide) q0 (rm_strlen1 l Z a0 hw a va k c0 cs h0 q0 q1 q2 q3 q8 q9) (by decide) rfl (argsL := []) rfl (lenOf pd10 rfl) (W := 1) rfl (by decide) (by decide) (by decide) d18_25 rfl ?_
 intro v6 T6 h6 X6 U6
 obtain ⟨rfl, rfl⟩ := U6
 show oGoes pp ee bb ss Z T6 (mkF mm 28 _ [.int 1, .int 1]) _ _ _
 refine o_icmp_ge_t K X6 d18_28 (by decide) (pc' := 53) (by decide) (by decide) ?_
 refine o_iconst K X6 d18_53 rfl (z := 1) rfl ?_
 refine o_ireturnN K X6 .boolean d18_54 rfl (by simp) (z' := 1) (by decide) ?_ (by decide) (by decide)
 exact ⟨rfl, rfl⟩
theorem d19_0 : decode prog_16_method_4_code 0 = .ok (.aload_n 0, 1) := by decide +kernel
theorem d19_1 : decode prog_16_method_4_code 1 = .ok (.bipush 64, 2) := by decide +kernel
theorem d19_3 : decode prog_16_method_4_code 3 = .ok (.invokedynamic 42, 5) := by decide +kernel
theorem d19_8 : decode prog_16_method_4_code 8 = .ok (.invokestatic 46, 3) := by decide +kernel
theorem d19_11 : decode prog_16_method_4_code 11 = .ok (.ireturn, 1) := by decide +kernel
theorem pd12 : parseMethodDescriptor z11 = some ⟨[(.object z0), .int, (.object "java/util/function/IntPredicate")], some .boolean⟩ := by decide +kernel
def r_is1_oSh : Room := { frames := 5, cells := 0, slots := 0, locals := 3074 }
def Q_is1_oSh (Z : State) (a va : Addr) (k : ClassId) (c0 : Int32) (fm : Value) (cs : Int32) (h0 : Heap) (v : Option Value) (h : Heap) : Prop := v = some (.int 1) ∧ h0 = h
theorem rm_is1_oSh (l : Launch) (Z : State) (a0 : Array Value) (hw : oHw Z a0) (a va : Addr) (k : ClassId) (c0 : Int32) (fm : Value) (cs : Int32) (h0 : Heap) (q0 : Exa Z h0 a z0) (q1 : Fld Z h0 a z0 "value" "[B" (.ref va)) (q2 : Fld Z h0 a z0 "coder" "B" (.int 0)) (q3 : oArr Z h0 va k .byte [(.int (nar .byte c0))]) (q4 : oSh c0) (q5 : oCh c0) (q6 : Sta Z Z.heap z3 z5 z6 fm) (q7 : fm.isRef = true) (q8 : Sta Z Z.heap z0 z4 "Z" (.int cs)) (q9 : ¬ (cs = (0 : Int32))) : oMet l Z (⟨z1, "isShelfName", "(Ljava/lang/String;)Z"⟩ : MethodName) prog_16_method_4_code 1 (some .boolean) r_is1_oSh [] #[.ref a] h0 (Q_is1_oSh Z a va k c0 fm cs h0) := by
 refine oEnter (plainFor_of_name (by first | (simp [plainName, overriddenIn]; done) | decide +kernel)) (own := z1) (nm := "isShelfName") rfl rfl (L := #[.val (.ref a)]) (fun m => by first | (simp [entryFrame, mkF, argsToLocals, Value.category, oCatRef q7]; done) | rfl) ?_
 intro pp ee ss mm bb mtd cc T0 K X0
 have E0 := X0.ext0
 refine o_aloadN K X0 d19_0 rfl rfl rfl ?_
 refine o_bipush K X0 d19_1 rfl (z := 64) rfl ?_
 refine o_lambda K X0 (σ := oSg0) (w53 hw) rfl rfl d19_3 rfl rfl (W := 2) rfl (by decide) ?_
 intro f1 k1 M1 N1
 refine o_static K X0  (w56 hw) (w57 hw) (w11 hw) (w58 hw) (by decide) (rm_made1_oSh l Z a0 hw a va k c0 f1 k1 fm cs h0 q0 q1 q2 q3 q4 q5 q6 q7 q8 q9 ⟨M1, N1⟩) (by decide) rfl (argsL := [.ref a, .int 64, .ref f1]) rfl (lenOf pd12 rfl) (W := 0) rfl (by decide) (by decide) (by decide) d19_8 rfl ?_
 intro v2 T2 h2 X2 U2
 obtain ⟨rfl, rfl⟩ := U2
 show oGoes pp ee bb ss Z T2 (mkF mm 11 _ [.int 1]) _ _ _
 refine o_ireturnN K X2 .boolean d19_11 rfl (by simp) (z' := 1) (by decide) ?_ (by decide) (by decide)
 exact ⟨rfl, rfl⟩
def r_made1_oId : Room := { frames := 4, cells := 0, slots := 0, locals := 54 }
def Q_made1_oId (Z : State) (a va : Addr) (k : ClassId) (c0 : Int32) (f : Addr) (kf : ClassId) (fm : Value) (cs : Int32) (h0 : Heap) (v : Option Value) (h : Heap) : Prop := v = some (.int 1) ∧ h0 = h
theorem rm_made1_oId (l : Launch) (Z : State) (a0 : Array Value) (hw : oHw Z a0) (a va : Addr) (k : ClassId) (c0 : Int32) (f : Addr) (kf : ClassId) (fm : Value) (cs : Int32) (h0 : Heap) (q0 : Exa Z h0 a z0) (q1 : Fld Z h0 a z0 "value" "[B" (.ref va)) (q2 : Fld Z h0 a z0 "coder" "B" (.int 0)) (q3 : oArr Z h0 va k .byte [(.int (nar .byte c0))]) (q4 : oId c0) (q5 : oCh c0) (q6 : Sta Z Z.heap z3 z5 z6 fm) (q7 : fm.isRef = true) (q8 : Sta Z Z.heap z0 z4 "Z" (.int cs)) (q9 : ¬ (cs = (0 : Int32))) (q10 : Jvm.LamKit.Made Z z1 oSg1 kf ∧ Jvm.LamKit.FnAt Z.heap f kf) : oMet l Z (⟨z1, "isMadeOf", z11⟩ : MethodName) prog_16_method_6_code 4 (some .boolean) r_made1_oId [] #[.ref a, .int 128, .ref f] h0 (Q_made1_oId Z a va k c0 f kf fm cs h0) := by
 refine oEnter (plainFor_of_name (by first | (simp [plainName, overriddenIn]; done) | decide +kernel)) (own := z1) (nm := "isMadeOf") rfl rfl (L := #[.val (.ref a), .val (.int 128), .val (.ref f), .unset]) (fun m => by first | (simp [entryFrame, mkF, argsToLocals, Value.category, oCatRef q7]; done) | rfl) ?_
 intro pp ee ss mm bb mtd cc T0 K X0
 have E0 := X0.ext0
 refine o_aloadN K X0 d18_0 rfl rfl rfl ?_
 refine o_ifnull_f K X0 d18_1 rfl ?_
 refine o_aloadN K X0 d18_4 rfl rfl rfl ?_
 refine o_virtual K X0   (w59 hw) (w60 hw) (oNF (w62 hw)) (w62 hw) (w61 hw) (w14 hw) (w63 hw) (by decide) q0 (rm_strem1 l Z a0 hw a va k c0 h0 q0 q1 q2 q3) (by decide) rfl (argsL := []) rfl (lenOf pd8 rfl) (W := 0) rfl (by decide) (by decide) (by decide) d18_5 rfl ?_
 intro v1 T1 h1 X1 U1
 obtain ⟨rfl, rfl⟩ := U1
 show oGoes pp ee bb ss Z T1 (mkF mm 8 _ [.int 0]) _ _ _
 refine o_if_ne_f K X1 d18_8 rfl (by decide) ?_
 refine o_aloadN K X1 d18_11 rfl rfl rfl ?_
 refine o_virtual K X1   (w64 hw) (w65 hw) (oNF (w67 hw)) (w67 hw) (w66 hw) (w14 hw) (w68 hw) (by decide) q0 (rm_strlen1 l Z a0 hw a va k c0 cs h0 q0 q1 q2 q3 q8 q9) (by decide) rfl (argsL := []) rfl (lenOf pd10 rfl) (W := 0) rfl (by decide) (by decide) (by decide) d18_12 rfl ?_
 intro v2 T2 h2 X2 U2
 obtain ⟨rfl, rfl⟩ := U2
 show oGoes pp ee bb ss Z T2 (mkF mm 15 _ [.int 1]) _ _ _
 refine o_iloadN K X2 d18_15 rfl rfl ?_
 refine o_icmp_le_t K X2 d18_16 (by decide) (pc' := 21) (by decide) (by decide) ?_
 refine o_iconst K X2 d18_21 rfl (z := 0) rfl ?_
 refine o_istoreN K X2 d18_22 rfl (L' := #[vR a, vI 128, vR f, vI 0]) rfl ?_
 refine o_iloadN K X2 d18_23 rfl rfl ?_
 refine o_aloadN K X2 d18_24 rfl rfl rfl ?_
 refine o_virtual K X2   (w64 hw) (w65 hw) (oNF (w67 hw)) (w67 hw) (w66 hw) (w14 hw) (w68 hw) (by decide) q0 (rm_strlen1 l Z a0 hw a va k c0 cs h0 q0 q1 q2 q3 q8 q9) (by decide) rfl (argsL := []) rfl (lenOf pd10 rfl) (W := 1) rfl (by decide) (by decide) (by decide) d18_25 rfl ?_
 intro v3 T3 h3 X3 U3
 obtain ⟨rfl, rfl⟩ := U3
 show oGoes pp ee bb ss Z T3 (mkF mm 28 _ [.int 1, .int 0]) _ _ _
 refine o_icmp_ge_f K X3 d18_28 rfl (by decide) ?_
 refine o_aloadN K X3 d18_31 rfl rfl rfl ?_
 refine o_aloadN K X3 d18_32 rfl rfl rfl ?_
 refine o_iloadN K X3 d18_33 rfl rfl ?_
 refine o_virtual K X3   (w74 hw) (w75 hw) (oNF (w77 hw)) (w77 hw) (w76 hw) (w14 hw) (w78 hw) (by decide) q0 (rm_char1_0 l Z a0 hw a va k c0 fm cs h0 q0 q1 q2 q3 q5 q6 q7 q8 q9) (by decide) rfl (argsL := [.int 0]) rfl (lenOf pd11 rfl) (W := 1) rfl (by decide) (by decide) (by decide) d18_34 rfl ?_
 intro v4 T4 h4 X4 U4
 obtain ⟨rfl, rfl, u4_1⟩ := U4
 show oGoes pp ee bb ss Z T4 (mkF mm 37 _ [.int c0, .ref f]) _ _ _
 refine o_callLam K X4 (w96 hw) (w97 hw) (w98 hw) rfl (w106 hw) (w105 hw) (w11 hw) (by decide +kernel) (by decide +kernel) (by decide) q10.1 q10.2 oFw1 oF1_0 oF1_1 oF1_4 (rm_idc1 l Z a0 hw c0 h0 q4) (fun _ _ q => ⟨_, q.1, by decide⟩) pd0 pd0 (by decide) rfl (W := 0) rfl (by decide) (by decide) (by decide) d18_37 rfl ?_
 intro v5 T5 h5 X5 U5
 obtain ⟨rfl, rfl⟩ := U5
 show oGoes pp ee bb ss Z T5 (mkF mm 42 _ [.int 1]) _ _ _
 refine o_if_ne_t K X5 d18_42 (by decide) (pc' := 47) (by decide) (by decide) ?_
 refine o_iinc K X5 d18_47 rfl rfl (L' := #[vR a, vI 128, vR f, vI 1]) (by rw [show (0 : Int32) + Int32.ofInt 1 = (1 : Int32) from (by decide)]; rfl) ?_
 refine o_goto K X5 d18_50 (by decide) (pc' := 23) (by decide) ?_
 refine o_iloadN K X5 d18_23 rfl rfl ?_
 refine o_aloadN K X5 d18_24 rfl rfl rfl ?_
 refine o_virtual K X5   (w64 hw) (w65 hw) (oNF (w67 hw)) (w67 hw) (w66 hw) (w14 hw) (w68 hw) (by decide) q0 (rm_strlen1 l Z a0 hw a va k c0 cs h0 q0 q1 q2 q3 q8 q9) (by decide) rfl (argsL := []) rfl (lenOf pd10 rfl) (W := 1) rfl (by decide) (by decide) (by decide) d18_25 rfl ?_
 intro v6 T6 h6 X6 U6
 obtain ⟨rfl, rfl⟩ := U6
 show oGoes pp ee bb ss Z T6 (mkF mm 28 _ [.int 1, .int 1]) _ _ _
 refine o_icmp_ge_t K X6 d18_28 (by decide) (pc' := 53) (by decide) (by decide) ?_
 refine o_iconst K X6 d18_53 rfl (z := 1) rfl ?_
 refine o_ireturnN K X6 .boolean d18_54 rfl (by simp) (z' := 1) (by decide) ?_ (by decide) (by decide)
 exact ⟨rfl, rfl⟩
theorem d20_0 : decode prog_16_method_5_code 0 = .ok (.aload_n 0, 1) := by decide +kernel
theorem d20_1 : decode prog_16_method_5_code 1 = .ok (.sipush 128, 3) := by decide +kernel
theorem d20_4 : decode prog_16_method_5_code 4 = .ok (.invokedynamic 50, 5) := by decide +kernel
theorem d20_9 : decode prog_16_method_5_code 9 = .ok (.invokestatic 46, 3) := by decide +kernel
theorem d20_12 : decode prog_16_method_5_code 12 = .ok (.ireturn, 1) := by decide +kernel
def r_is1_oId : Room := { frames := 5, cells := 0, slots := 0, locals := 3074 }
def Q_is1_oId (Z : State) (a va : Addr) (k : ClassId) (c0 : Int32) (fm : Value) (cs : Int32) (h0 : Heap) (v : Option Value) (h : Heap) : Prop := v = some (.int 1) ∧ h0 = h
theorem rm_is1_oId (l : Launch) (Z : State) (a0 : Array Value) (hw : oHw Z a0) (a va : Addr) (k : ClassId) (c0 : Int32) (fm : Value) (cs : Int32) (h0 : Heap) (q0 : Exa Z h0 a z0) (q1 : Fld Z h0 a z0 "value" "[B" (.ref va)) (q2 : Fld Z h0 a z0 "coder" "B" (.int 0)) (q3 : oArr Z h0 va k .byte [(.int (nar .byte c0))]) (q4 : oId c0) (q5 : oCh c0) (q6 : Sta Z Z.heap z3 z5 z6 fm) (q7 : fm.isRef = true) (q8 : Sta Z Z.heap z0 z4 "Z" (.int cs)) (q9 : ¬ (cs = (0 : Int32))) : oMet l Z (⟨z1, "isRecordId", "(Ljava/lang/String;)Z"⟩ : MethodName) prog_16_method_5_code 1 (some .boolean) r_is1_oId [] #[.ref a] h0 (Q_is1_oId Z a va k c0 fm cs h0) := by
 refine oEnter (plainFor_of_name (by first | (simp [plainName, overriddenIn]; done) | decide +kernel)) (own := z1) (nm := "isRecordId") rfl rfl (L := #[.val (.ref a)]) (fun m => by first | (simp [entryFrame, mkF, argsToLocals, Value.category, oCatRef q7]; done) | rfl) ?_
 intro pp ee ss mm bb mtd cc T0 K X0
 have E0 := X0.ext0
 refine o_aloadN K X0 d20_0 rfl rfl rfl ?_
 refine o_sipush K X0 d20_1 rfl (z := 128) rfl ?_
 refine o_lambda K X0 (σ := oSg1) (w104 hw) rfl rfl d20_4 rfl rfl (W := 2) rfl (by decide) ?_
 intro f1 k1 M1 N1
 refine o_static K X0  (w56 hw) (w57 hw) (w11 hw) (w58 hw) (by decide) (rm_made1_oId l Z a0 hw a va k c0 f1 k1 fm cs h0 q0 q1 q2 q3 q4 q5 q6 q7 q8 q9 ⟨M1, N1⟩) (by decide) rfl (argsL := [.ref a, .int 128, .ref f1]) rfl (lenOf pd12 rfl) (W := 0) rfl (by decide) (by decide) (by decide) d20_9 rfl ?_
 intro v2 T2 h2 X2 U2
 obtain ⟨rfl, rfl⟩ := U2
 show oGoes pp ee bb ss Z T2 (mkF mm 12 _ [.int 1]) _ _ _
 refine o_ireturnN K X2 .boolean d20_12 rfl (by simp) (z' := 1) (by decide) ?_ (by decide) (by decide)
 exact ⟨rfl, rfl⟩
def r_strem2 : Room := { frames := 0, cells := 0, slots := 0, locals := 0 }
def Q_strem2 (Z : State) (a va : Addr) (k : ClassId) (c0 c1 : Int32) (h0 : Heap) (v : Option Value) (h : Heap) : Prop := v = some (.int 0) ∧ h0 = h
theorem rm_strem2 (l : Launch) (Z : State) (a0 : Array Value) (hw : oHw Z a0) (a va : Addr) (k : ClassId) (c0 c1 : Int32) (h0 : Heap) (q0 : Exa Z h0 a z0) (q1 : Fld Z h0 a z0 "value" "[B" (.ref va)) (q2 : Fld Z h0 a z0 "coder" "B" (.int 0)) (q3 : oArr Z h0 va k .byte [(.int (nar .byte c0)), (.int (nar .byte c1))]) : oMet l Z (⟨z0, "isEmpty", "()Z"⟩ : MethodName) jdk_42_method_55_code 1 (some .boolean) r_strem2 [] #[.ref a] h0 (Q_strem2 Z a va k c0 c1 h0) := by
 refine oEnter (plainFor_of_name (by first | (simp [plainName, overriddenIn]; done) | decide +kernel)) (own := z0) (nm := "isEmpty") rfl rfl (L := #[.val (.ref a)]) (fun m => by first | (simp [entryFrame, mkF, argsToLocals, Value.category]; done) | rfl) ?_
 intro pp ee ss mm bb mtd cc T0 K X0
 have E0 := X0.ext0
 refine o_aloadN K X0 d12_0 rfl rfl rfl ?_
 refine o_getfield K X0 (host := "") (Or.inl (w39 hw)) Via.refl q1 d12_1 rfl ?_
 intro T1 X1
 refine o_arraylength K X1 q3 (z := 2) rfl d12_4 rfl ?_
 refine o_if_ne_t K X1 d12_5 (by decide) (pc' := 12) (by decide) (by decide) ?_
 refine o_iconst K X1 d12_12 rfl (z := 0) rfl ?_
 refine o_ireturnN K X1 .boolean d12_13 rfl (by simp) (z' := 0) (by decide) ?_ (by decide) (by decide)
 exact ⟨rfl, rfl⟩
def r_strlen2 : Room := { frames := 1, cells := 0, slots := 0, locals := 13 }
def Q_strlen2 (Z : State) (a va : Addr) (k : ClassId) (c0 c1 cs : Int32) (h0 : Heap) (v : Option Value) (h : Heap) : Prop := v = some (.int 2) ∧ h0 = h
theorem rm_strlen2 (l : Launch) (Z : State) (a0 : Array Value) (hw : oHw Z a0) (a va : Addr) (k : ClassId) (c0 c1 cs : Int32) (h0 : Heap) (q0 : Exa Z h0 a z0) (q1 : Fld Z h0 a z0 "value" "[B" (.ref va)) (q2 : Fld Z h0 a z0 "coder" "B" (.int 0)) (q3 : oArr Z h0 va k .byte [(.int (nar .byte c0)), (.int (nar .byte c1))]) (q4 : Sta Z Z.heap z0 z4 "Z" (.int cs)) (q5 : ¬ (cs = (0 : Int32))) : oMet l Z (⟨z0, "length", "()I"⟩ : MethodName) jdk_42_method_54_code 1 (some .int) r_strlen2 [] #[.ref a] h0 (Q_strlen2 Z a va k c0 c1 cs h0) := by
 refine oEnter (plainFor_of_name (by first | (simp [plainName, overriddenIn]; done) | decide +kernel)) (own := z0) (nm := "length") rfl rfl (L := #[.val (.ref a)]) (fun m => by first | (simp [entryFrame, mkF, argsToLocals, Value.category]; done) | rfl) ?_
 intro pp ee ss mm bb mtd cc T0 K X0
 have E0 := X0.ext0
 refine o_aloadN K X0 d13_0 rfl rfl rfl ?_
 refine o_getfield K X0 (host := "") (Or.inl (w39 hw)) Via.refl q1 d13_1 rfl ?_
 intro T1 X1
 refine o_arraylength K X1 q3 (z := 2) rfl d13_4 rfl ?_
 refine o_aloadN K X1 d13_5 rfl rfl rfl ?_
 refine o_virtual K X1   (w69 hw) (w70 hw) (oNF (w72 hw)) (w72 hw) (w71 hw) (w14 hw) (w73 hw) (by decide) q0 (rm_strcoder l Z a0 hw a cs h0 q2 q4 q5) (by decide) rfl (argsL := []) rfl (lenOf pd5 rfl) (W := 1) rfl (by decide) (by decide) (by decide) d13_6 rfl ?_
 intro v2 T2 h2 X2 U2
 obtain ⟨rfl, rfl⟩ := U2
 show oGoes pp ee bb ss Z T2 (mkF mm 9 _ [.int 0, .int 2]) _ _ _
 refine o_ishr K X2 d13_9 rfl (z := 2) (by decide) ?_
 refine o_ireturn K X2 d13_10 rfl ?_ (by decide) (by decide)
 exact ⟨rfl, rfl⟩
def r_pchk2_0 : Room := { frames := 0, cells := 0, slots := 0, locals := 0 }
def Q_pchk2_0 (Z : State) (fm : Value) (h0 : Heap) (v : Option Value) (h : Heap) : Prop := v = some (.int 0) ∧ h0 = h
theorem rm_pchk2_0 (l : Launch) (Z : State) (a0 : Array Value) (hw : oHw Z a0) (fm : Value) (h0 : Heap) (q0 : fm.isRef = true) : oMet l Z (⟨z3, "checkIndex", "(IILjava/util/function/BiFunction;)I"⟩ : MethodName) jdk_41_method_11_code 3 (some .int) r_pchk2_0 [] #[.int 0, .int 2, fm] h0 (Q_pchk2_0 Z fm h0) := by
 refine oEnter (plainFor_of_name (by first | (simp [plainName, overriddenIn]; done) | decide +kernel)) (own := z3) (nm := "checkIndex") rfl rfl (L := #[.val (.int 0), .val (.int 2), .val fm]) (fun m => by first | (simp [entryFrame, mkF, argsToLocals, oCat1, oCat2, oCat3, oCat4, oCatRef q0]; done) | rfl) ?_
 intro pp ee ss mm bb mtd cc T0 K X0
 have E0 := X0.ext0
 refine o_iloadN K X0 d14_0 rfl rfl ?_
 refine o_if_lt_f K X0 d14_1 rfl (by decide) ?_
 refine o_iloadN K X0 d14_4 rfl rfl ?_
 refine o_iloadN K X0 d14_5 rfl rfl ?_
 refine o_icmp_lt_t K X0 d14_6 (by decide) (pc' := 16) (by decide) (by decide) ?_
 refine o_iloadN K X0 d14_16 rfl rfl ?_
 refine o_ireturn K X0 d14_17 rfl ?_ (by decide) (by decide)
 exact ⟨rfl, rfl⟩
def r_schk2_0 : Room := { frames := 1, cells := 0, slots := 0, locals := 14 }
def Q_schk2_0 (Z : State) (fm : Value) (h0 : Heap) (v : Option Value) (h : Heap) : Prop := v = none ∧ h0 = h
theorem rm_schk2_0 (l : Launch) (Z : State) (a0 : Array Value) (hw : oHw Z a0) (fm : Value) (h0 : Heap) (q0 : Sta Z Z.heap z3 z5 z6 fm) (q1 : fm.isRef = true) : oMet l Z (⟨z0, "checkIndex", "(II)V"⟩ : MethodName) jdk_42_method_155_code 2 none r_schk2_0 [] #[.int 0, .int 2] h0 (Q_schk2_0 Z fm h0) := by
 refine oEnter (plainFor_of_name (by first | (simp [plainName, overriddenIn]; done) | decide +kernel)) (own := z0) (nm := "checkIndex") rfl rfl (L := #[.val (.int 0), .val (.int 2)]) (fun m => by first | (simp [entryFrame, mkF, argsToLocals, Value.category, oCatRef q1]; done) | rfl) ?_
 intro pp ee ss mm bb mtd cc T0 K X0
 have E0 := X0.ext0
 refine o_iloadN K X0 d15_0 rfl rfl ?_
 refine o_iloadN K X0 d15_1 rfl rfl ?_
 refine o_getstatic K X0 (host := "") (Or.inl (w91 hw)) Via.refl (q0.ext X0.ext0) d15_2 rfl ?_
 intro T1 X1
 refine o_static K X1  (w93 hw) (w94 hw) (w92 hw) (w95 hw) (by decide) (rm_pchk2_0 l Z a0 hw fm h0 q1) (by decide) rfl (argsL := [.int 0, .int 2, fm]) rfl (lenOf pd6 rfl) (W := 0) rfl (by decide) (by decide) (by decide) d15_5 rfl ?_
 intro v2 T2 h2 X2 U2
 obtain ⟨rfl, rfl⟩ := U2
 show oGoes pp ee bb ss Z T2 (mkF mm 8 _ [.int 0]) _ _ _
 refine o_pop K X2 d15_8 rfl rfl ?_
 refine o_return K X2 d15_9 rfl ?_ (by decide) (by decide)
 exact ⟨rfl, rfl⟩
def r_lchar2_0 : Room := { frames := 2, cells := 0, slots := 0, locals := 27 }
def Q_lchar2_0 (Z : State) (va : Addr) (k : ClassId) (c0 c1 : Int32) (fm : Value) (h0 : Heap) (v : Option Value) (h : Heap) : Prop := v = some (.int c0) ∧ h0 = h ∧ nar .char c0 = c0
theorem rm_lchar2_0 (l : Launch) (Z : State) (a0 : Array Value) (hw : oHw Z a0) (va : Addr) (k : ClassId) (c0 c1 : Int32) (fm : Value) (h0 : Heap) (q0 : oArr Z h0 va k .byte [(.int (nar .byte c0)), (.int (nar .byte c1))]) (q1 : oCh c0) (q2 : Sta Z Z.heap z3 z5 z6 fm) (q3 : fm.isRef = true) : oMet l Z (⟨"java/lang/StringLatin1", "charAt", "([BI)C"⟩ : MethodName) jdk_43_method_2_code 2 (some .char) r_lchar2_0 [] #[.ref va, .int 0] h0 (Q_lchar2_0 Z va k c0 c1 fm h0) := by
 refine oEnter (plainFor_of_name (by first | (simp [plainName, overriddenIn]; done) | decide +kernel)) (own := "java/lang/StringLatin1") (nm := "charAt") rfl rfl (L := #[.val (.ref va), .val (.int 0)]) (fun m => by first | (simp [entryFrame, mkF, argsToLocals, Value.category, oCatRef q3]; done) | rfl) ?_
 intro pp ee ss mm bb mtd cc T0 K X0
 have E0 := X0.ext0
 refine o_iloadN K X0 d16_0 rfl rfl ?_
 refine o_aloadN K X0 d16_1 rfl rfl rfl ?_
 refine o_arraylength K X0 q0 (z := 2) rfl d16_2 rfl ?_
 refine o_static K X0  (w88 hw) (w89 hw) (w14 hw) (w90 hw) (by decide) (rm_schk2_0 l Z a0 hw fm h0 q2 q3) (by decide) rfl (argsL := [.int 0, .int 2]) rfl (lenOf pd7 rfl) (W := 0) rfl (by decide) (by decide) (by decide) d16_3 rfl ?_
 intro v1 T1 h1 X1 U1
 obtain ⟨rfl, rfl⟩ := U1
 show oGoes pp ee bb ss Z T1 (mkF mm 6 _ []) _ _ _
 refine o_aloadN K X1 d16_6 rfl rfl rfl ?_
 refine o_iloadN K X1 d16_7 rfl rfl ?_
 refine o_baload K X1 q0 (by decide) (v := (.int (nar .byte c0))) rfl d16_8 rfl ?_
 refine o_sipush K X1 d16_9 rfl (z := 255) rfl ?_
 refine o_iand K X1 d16_12 rfl (z := c0) (oBack q1) ?_
 refine o_i2c K X1 d16_13 rfl (z := c0) (oChN q1) ?_
 refine o_ireturnN K X1 .char d16_14 rfl (by simp) (z' := c0) (oChN q1) ?_ (by decide) (by decide)
 exact ⟨rfl, rfl, (oChN q1)⟩
def r_char2_0 : Room := { frames := 3, cells := 0, slots := 0, locals := 40 }
def Q_char2_0 (Z : State) (a va : Addr) (k : ClassId) (c0 c1 : Int32) (fm : Value) (cs : Int32) (h0 : Heap) (v : Option Value) (h : Heap) : Prop := v = some (.int c0) ∧ h0 = h ∧ nar .char c0 = c0
theorem rm_char2_0 (l : Launch) (Z : State) (a0 : Array Value) (hw : oHw Z a0) (a va : Addr) (k : ClassId) (c0 c1 : Int32) (fm : Value) (cs : Int32) (h0 : Heap) (q0 : Exa Z h0 a z0) (q1 : Fld Z h0 a z0 "value" "[B" (.ref va)) (q2 : Fld Z h0 a z0 "coder" "B" (.int 0)) (q3 : oArr Z h0 va k .byte [(.int (nar .byte c0)), (.int (nar .byte c1))]) (q4 : oCh c0) (q5 : Sta Z Z.heap z3 z5 z6 fm) (q6 : fm.isRef = true) (q7 : Sta Z Z.heap z0 z4 "Z" (.int cs)) (q8 : ¬ (cs = (0 : Int32))) : oMet l Z (⟨z0, "charAt", "(I)C"⟩ : MethodName) jdk_42_method_56_code 2 (some .char) r_char2_0 [] #[.ref a, .int 0] h0 (Q_char2_0 Z a va k c0 c1 fm cs h0) := by
 refine oEnter (plainFor_of_name (by first | (simp [plainName, overriddenIn]; done) | decide +kernel)) (own := z0) (nm := "charAt") rfl rfl (L := #[.val (.ref a), .val (.int 0)]) (fun m => by first | (simp [entryFrame, mkF, argsToLocals, Value.category, oCatRef q6]; done) | rfl) ?_
 intro pp ee ss mm bb mtd cc T0 K X0
 have E0 := X0.ext0
 refine o_aloadN K X0 d17_0 rfl rfl rfl ?_
 refine o_virtual K X0   (w79 hw) (w80 hw) (oNF (w82 hw)) (w82 hw) (w81 hw) (w14 hw) (w83 hw) (by decide) q0 (rm_strlat l Z a0 hw a cs h0 q2 q7 q8) (by decide) rfl (argsL := []) rfl (lenOf pd8 rfl) (W := 0) rfl (by decide) (by decide) (by decide) d17_1 rfl ?_
 intro v1 T1 h1 X1 U1
 obtain ⟨rfl, rfl⟩ := U1
 show oGoes pp ee bb ss Z T1 (mkF mm 4 _ [.int 1]) _ _ _
 refine o_if_eq_f K X1 d17_4 rfl (by decide) ?_
 refine o_aloadN K X1 d17_7 rfl rfl rfl ?_
 refine o_getfield K X1 (host := "") (Or.inl (w39 hw)) Via.refl q1 d17_8 rfl ?_
 intro T2 X2
 refine o_iloadN K X2 d17_11 rfl rfl ?_
 refine o_static K X2  (w84 hw) (w85 hw) (w86 hw) (w87 hw) (by decide) (rm_lchar2_0 l Z a0 hw va k c0 c1 fm h0 q3 q4 q5 q6) (by decide) rfl (argsL := [.ref va, .int 0]) rfl (lenOf pd9 rfl) (W := 0) rfl (by decide) (by decide) (by decide) d17_12 rfl ?_
 intro v3 T3 h3 X3 U3
 obtain ⟨rfl, rfl, u3_1⟩ := U3
 show oGoes pp ee bb ss Z T3 (mkF mm 15 _ [.int c0]) _ _ _
 refine o_ireturnN K X3 .char d17_15 rfl (by simp) (z' := c0) u3_1 ?_ (by decide) (by decide)
 exact ⟨rfl, rfl, u3_1⟩
def r_pchk2_1 : Room := { frames := 0, cells := 0, slots := 0, locals := 0 }
def Q_pchk2_1 (Z : State) (fm : Value) (h0 : Heap) (v : Option Value) (h : Heap) : Prop := v = some (.int 1) ∧ h0 = h
theorem rm_pchk2_1 (l : Launch) (Z : State) (a0 : Array Value) (hw : oHw Z a0) (fm : Value) (h0 : Heap) (q0 : fm.isRef = true) : oMet l Z (⟨z3, "checkIndex", "(IILjava/util/function/BiFunction;)I"⟩ : MethodName) jdk_41_method_11_code 3 (some .int) r_pchk2_1 [] #[.int 1, .int 2, fm] h0 (Q_pchk2_1 Z fm h0) := by
 refine oEnter (plainFor_of_name (by first | (simp [plainName, overriddenIn]; done) | decide +kernel)) (own := z3) (nm := "checkIndex") rfl rfl (L := #[.val (.int 1), .val (.int 2), .val fm]) (fun m => by first | (simp [entryFrame, mkF, argsToLocals, oCat1, oCat2, oCat3, oCat4, oCatRef q0]; done) | rfl) ?_
 intro pp ee ss mm bb mtd cc T0 K X0
 have E0 := X0.ext0
 refine o_iloadN K X0 d14_0 rfl rfl ?_
 refine o_if_lt_f K X0 d14_1 rfl (by decide) ?_
 refine o_iloadN K X0 d14_4 rfl rfl ?_
 refine o_iloadN K X0 d14_5 rfl rfl ?_
 refine o_icmp_lt_t K X0 d14_6 (by decide) (pc' := 16) (by decide) (by decide) ?_
 refine o_iloadN K X0 d14_16 rfl rfl ?_
 refine o_ireturn K X0 d14_17 rfl ?_ (by decide) (by decide)
 exact ⟨rfl, rfl⟩
def r_schk2_1 : Room := { frames := 1, cells := 0, slots := 0, locals := 14 }
def Q_schk2_1 (Z : State) (fm : Value) (h0 : Heap) (v : Option Value) (h : Heap) : Prop := v = none ∧ h0 = h
theorem rm_schk2_1 (l : Launch) (Z : State) (a0 : Array Value) (hw : oHw Z a0) (fm : Value) (h0 : Heap) (q0 : Sta Z Z.heap z3 z5 z6 fm) (q1 : fm.isRef = true) : oMet l Z (⟨z0, "checkIndex", "(II)V"⟩ : MethodName) jdk_42_method_155_code 2 none r_schk2_1 [] #[.int 1, .int 2] h0 (Q_schk2_1 Z fm h0) := by
 refine oEnter (plainFor_of_name (by first | (simp [plainName, overriddenIn]; done) | decide +kernel)) (own := z0) (nm := "checkIndex") rfl rfl (L := #[.val (.int 1), .val (.int 2)]) (fun m => by first | (simp [entryFrame, mkF, argsToLocals, Value.category, oCatRef q1]; done) | rfl) ?_
 intro pp ee ss mm bb mtd cc T0 K X0
 have E0 := X0.ext0
 refine o_iloadN K X0 d15_0 rfl rfl ?_
 refine o_iloadN K X0 d15_1 rfl rfl ?_
 refine o_getstatic K X0 (host := "") (Or.inl (w91 hw)) Via.refl (q0.ext X0.ext0) d15_2 rfl ?_
 intro T1 X1
 refine o_static K X1  (w93 hw) (w94 hw) (w92 hw) (w95 hw) (by decide) (rm_pchk2_1 l Z a0 hw fm h0 q1) (by decide) rfl (argsL := [.int 1, .int 2, fm]) rfl (lenOf pd6 rfl) (W := 0) rfl (by decide) (by decide) (by decide) d15_5 rfl ?_
 intro v2 T2 h2 X2 U2
 obtain ⟨rfl, rfl⟩ := U2
 show oGoes pp ee bb ss Z T2 (mkF mm 8 _ [.int 1]) _ _ _
 refine o_pop K X2 d15_8 rfl rfl ?_
 refine o_return K X2 d15_9 rfl ?_ (by decide) (by decide)
 exact ⟨rfl, rfl⟩
def r_lchar2_1 : Room := { frames := 2, cells := 0, slots := 0, locals := 27 }
def Q_lchar2_1 (Z : State) (va : Addr) (k : ClassId) (c0 c1 : Int32) (fm : Value) (h0 : Heap) (v : Option Value) (h : Heap) : Prop := v = some (.int c1) ∧ h0 = h ∧ nar .char c1 = c1
theorem rm_lchar2_1 (l : Launch) (Z : State) (a0 : Array Value) (hw : oHw Z a0) (va : Addr) (k : ClassId) (c0 c1 : Int32) (fm : Value) (h0 : Heap) (q0 : oArr Z h0 va k .byte [(.int (nar .byte c0)), (.int (nar .byte c1))]) (q1 : oCh c1) (q2 : Sta Z Z.heap z3 z5 z6 fm) (q3 : fm.isRef = true) : oMet l Z (⟨"java/lang/StringLatin1", "charAt", "([BI)C"⟩ : MethodName) jdk_43_method_2_code 2 (some .char) r_lchar2_1 [] #[.ref va, .int 1] h0 (Q_lchar2_1 Z va k c0 c1 fm h0) := by
 refine oEnter (plainFor_of_name (by first | (simp [plainName, overriddenIn]; done) | decide +kernel)) (own := "java/lang/StringLatin1") (nm := "charAt") rfl rfl (L := #[.val (.ref va), .val (.int 1)]) (fun m => by first | (simp [entryFrame, mkF, argsToLocals, Value.category, oCatRef q3]; done) | rfl) ?_
 intro pp ee ss mm bb mtd cc T0 K X0
 have E0 := X0.ext0
 refine o_iloadN K X0 d16_0 rfl rfl ?_
 refine o_aloadN K X0 d16_1 rfl rfl rfl ?_
 refine o_arraylength K X0 q0 (z := 2) rfl d16_2 rfl ?_
 refine o_static K X0  (w88 hw) (w89 hw) (w14 hw) (w90 hw) (by decide) (rm_schk2_1 l Z a0 hw fm h0 q2 q3) (by decide) rfl (argsL := [.int 1, .int 2]) rfl (lenOf pd7 rfl) (W := 0) rfl (by decide) (by decide) (by decide) d16_3 rfl ?_
 intro v1 T1 h1 X1 U1
 obtain ⟨rfl, rfl⟩ := U1
 show oGoes pp ee bb ss Z T1 (mkF mm 6 _ []) _ _ _
 refine o_aloadN K X1 d16_6 rfl rfl rfl ?_
 refine o_iloadN K X1 d16_7 rfl rfl ?_
 refine o_baload K X1 q0 (by decide) (v := (.int (nar .byte c1))) rfl d16_8 rfl ?_
 refine o_sipush K X1 d16_9 rfl (z := 255) rfl ?_
 refine o_iand K X1 d16_12 rfl (z := c1) (oBack q1) ?_
 refine o_i2c K X1 d16_13 rfl (z := c1) (oChN q1) ?_
 refine o_ireturnN K X1 .char d16_14 rfl (by simp) (z' := c1) (oChN q1) ?_ (by decide) (by decide)
 exact ⟨rfl, rfl, (oChN q1)⟩
def r_char2_1 : Room := { frames := 3, cells := 0, slots := 0, locals := 40 }
def Q_char2_1 (Z : State) (a va : Addr) (k : ClassId) (c0 c1 : Int32) (fm : Value) (cs : Int32) (h0 : Heap) (v : Option Value) (h : Heap) : Prop := v = some (.int c1) ∧ h0 = h ∧ nar .char c1 = c1
theorem rm_char2_1 (l : Launch) (Z : State) (a0 : Array Value) (hw : oHw Z a0) (a va : Addr) (k : ClassId) (c0 c1 : Int32) (fm : Value) (cs : Int32) (h0 : Heap) (q0 : Exa Z h0 a z0) (q1 : Fld Z h0 a z0 "value" "[B" (.ref va)) (q2 : Fld Z h0 a z0 "coder" "B" (.int 0)) (q3 : oArr Z h0 va k .byte [(.int (nar .byte c0)), (.int (nar .byte c1))]) (q4 : oCh c1) (q5 : Sta Z Z.heap z3 z5 z6 fm) (q6 : fm.isRef = true) (q7 : Sta Z Z.heap z0 z4 "Z" (.int cs)) (q8 : ¬ (cs = (0 : Int32))) : oMet l Z (⟨z0, "charAt", "(I)C"⟩ : MethodName) jdk_42_method_56_code 2 (some .char) r_char2_1 [] #[.ref a, .int 1] h0 (Q_char2_1 Z a va k c0 c1 fm cs h0) := by
 refine oEnter (plainFor_of_name (by first | (simp [plainName, overriddenIn]; done) | decide +kernel)) (own := z0) (nm := "charAt") rfl rfl (L := #[.val (.ref a), .val (.int 1)]) (fun m => by first | (simp [entryFrame, mkF, argsToLocals, Value.category, oCatRef q6]; done) | rfl) ?_
 intro pp ee ss mm bb mtd cc T0 K X0
 have E0 := X0.ext0
 refine o_aloadN K X0 d17_0 rfl rfl rfl ?_
 refine o_virtual K X0   (w79 hw) (w80 hw) (oNF (w82 hw)) (w82 hw) (w81 hw) (w14 hw) (w83 hw) (by decide) q0 (rm_strlat l Z a0 hw a cs h0 q2 q7 q8) (by decide) rfl (argsL := []) rfl (lenOf pd8 rfl) (W := 0) rfl (by decide) (by decide) (by decide) d17_1 rfl ?_
 intro v1 T1 h1 X1 U1
 obtain ⟨rfl, rfl⟩ := U1
 show oGoes pp ee bb ss Z T1 (mkF mm 4 _ [.int 1]) _ _ _
 refine o_if_eq_f K X1 d17_4 rfl (by decide) ?_
 refine o_aloadN K X1 d17_7 rfl rfl rfl ?_
 refine o_getfield K X1 (host := "") (Or.inl (w39 hw)) Via.refl q1 d17_8 rfl ?_
 intro T2 X2
 refine o_iloadN K X2 d17_11 rfl rfl ?_
 refine o_static K X2  (w84 hw) (w85 hw) (w86 hw) (w87 hw) (by decide) (rm_lchar2_1 l Z a0 hw va k c0 c1 fm h0 q3 q4 q5 q6) (by decide) rfl (argsL := [.ref va, .int 1]) rfl (lenOf pd9 rfl) (W := 0) rfl (by decide) (by decide) (by decide) d17_12 rfl ?_
 intro v3 T3 h3 X3 U3
 obtain ⟨rfl, rfl, u3_1⟩ := U3
 show oGoes pp ee bb ss Z T3 (mkF mm 15 _ [.int c1]) _ _ _
 refine o_ireturnN K X3 .char d17_15 rfl (by simp) (z' := c1) u3_1 ?_ (by decide) (by decide)
 exact ⟨rfl, rfl, u3_1⟩
def r_made2_oSh : Room := { frames := 4, cells := 0, slots := 0, locals := 54 }
def Q_made2_oSh (Z : State) (a va : Addr) (k : ClassId) (c0 c1 : Int32) (f : Addr) (kf : ClassId) (fm : Value) (cs : Int32) (h0 : Heap) (v : Option Value) (h : Heap) : Prop := v = some (.int 1) ∧ h0 = h
theorem rm_made2_oSh (l : Launch) (Z : State) (a0 : Array Value) (hw : oHw Z a0) (a va : Addr) (k : ClassId) (c0 c1 : Int32) (f : Addr) (kf : ClassId) (fm : Value) (cs : Int32) (h0 : Heap) (q0 : Exa Z h0 a z0) (q1 : Fld Z h0 a z0 "value" "[B" (.ref va)) (q2 : Fld Z h0 a z0 "coder" "B" (.int 0)) (q3 : oArr Z h0 va k .byte [(.int (nar .byte c0)), (.int (nar .byte c1))]) (q4 : oSh c0) (q5 : oSh c1) (q6 : oCh c0) (q7 : oCh c1) (q8 : Sta Z Z.heap z3 z5 z6 fm) (q9 : fm.isRef = true) (q10 : Sta Z Z.heap z0 z4 "Z" (.int cs)) (q11 : ¬ (cs = (0 : Int32))) (q12 : Jvm.LamKit.Made Z z1 oSg0 kf ∧ Jvm.LamKit.FnAt Z.heap f kf) : oMet l Z (⟨z1, "isMadeOf", z11⟩ : MethodName) prog_16_method_6_code 4 (some .boolean) r_made2_oSh [] #[.ref a, .int 64, .ref f] h0 (Q_made2_oSh Z a va k c0 c1 f kf fm cs h0) := by
 refine oEnter (plainFor_of_name (by first | (simp [plainName, overriddenIn]; done) | decide +kernel)) (own := z1) (nm := "isMadeOf") rfl rfl (L := #[.val (.ref a), .val (.int 64), .val (.ref f), .unset]) (fun m => by first | (simp [entryFrame, mkF, argsToLocals, Value.category, oCatRef q9]; done) | rfl) ?_
 intro pp ee ss mm bb mtd cc T0 K X0
 have E0 := X0.ext0
 refine o_aloadN K X0 d18_0 rfl rfl rfl ?_
 refine o_ifnull_f K X0 d18_1 rfl ?_
 refine o_aloadN K X0 d18_4 rfl rfl rfl ?_
 refine o_virtual K X0   (w59 hw) (w60 hw) (oNF (w62 hw)) (w62 hw) (w61 hw) (w14 hw) (w63 hw) (by decide) q0 (rm_strem2 l Z a0 hw a va k c0 c1 h0 q0 q1 q2 q3) (by decide) rfl (argsL := []) rfl (lenOf pd8 rfl) (W := 0) rfl (by decide) (by decide) (by decide) d18_5 rfl ?_
 intro v1 T1 h1 X1 U1
 obtain ⟨rfl, rfl⟩ := U1
 show oGoes pp ee bb ss Z T1 (mkF mm 8 _ [.int 0]) _ _ _
 refine o_if_ne_f K X1 d18_8 rfl (by decide) ?_
 refine o_aloadN K X1 d18_11 rfl rfl rfl ?_
 refine o_virtual K X1   (w64 hw) (w65 hw) (oNF (w67 hw)) (w67 hw) (w66 hw) (w14 hw) (w68 hw) (by decide) q0 (rm_strlen2 l Z a0 hw a va k c0 c1 cs h0 q0 q1 q2 q3 q10 q11) (by decide) rfl (argsL := []) rfl (lenOf pd10 rfl) (W := 0) rfl (by decide) (by decide) (by decide) d18_12 rfl ?_
 intro v2 T2 h2 X2 U2
 obtain ⟨rfl, rfl⟩ := U2
 show oGoes pp ee bb ss Z T2 (mkF mm 15 _ [.int 2]) _ _ _
 refine o_iloadN K X2 d18_15 rfl rfl ?_
 refine o_icmp_le_t K X2 d18_16 (by decide) (pc' := 21) (by decide) (by decide) ?_
 refine o_iconst K X2 d18_21 rfl (z := 0) rfl ?_
 refine o_istoreN K X2 d18_22 rfl (L' := #[vR a, vI 64, vR f, vI 0]) rfl ?_
 refine o_iloadN K X2 d18_23 rfl rfl ?_
 refine o_aloadN K X2 d18_24 rfl rfl rfl ?_
 refine o_virtual K X2   (w64 hw) (w65 hw) (oNF (w67 hw)) (w67 hw) (w66 hw) (w14 hw) (w68 hw) (by decide) q0 (rm_strlen2 l Z a0 hw a va k c0 c1 cs h0 q0 q1 q2 q3 q10 q11) (by decide) rfl (argsL := []) rfl (lenOf pd10 rfl) (W := 1) rfl (by decide) (by decide) (by decide) d18_25 rfl ?_
 intro v3 T3 h3 X3 U3
 obtain ⟨rfl, rfl⟩ := U3
 show oGoes pp ee bb ss Z T3 (mkF mm 28 _ [.int 2, .int 0]) _ _ _
 refine o_icmp_ge_f K X3 d18_28 rfl (by decide) ?_
 refine o_aloadN K X3 d18_31 rfl rfl rfl ?_
 refine o_aloadN K X3 d18_32 rfl rfl rfl ?_
 refine o_iloadN K X3 d18_33 rfl rfl ?_
 refine o_virtual K X3   (w74 hw) (w75 hw) (oNF (w77 hw)) (w77 hw) (w76 hw) (w14 hw) (w78 hw) (by decide) q0 (rm_char2_0 l Z a0 hw a va k c0 c1 fm cs h0 q0 q1 q2 q3 q6 q8 q9 q10 q11) (by decide) rfl (argsL := [.int 0]) rfl (lenOf pd11 rfl) (W := 1) rfl (by decide) (by decide) (by decide) d18_34 rfl ?_
 intro v4 T4 h4 X4 U4
 obtain ⟨rfl, rfl, u4_1⟩ := U4
 show oGoes pp ee bb ss Z T4 (mkF mm 37 _ [.int c0, .ref f]) _ _ _
 refine o_callLam K X4 (w96 hw) (w97 hw) (w98 hw) rfl (w100 hw) (w99 hw) (w11 hw) (by decide +kernel) (by decide +kernel) (by decide) q12.1 q12.2 oFw0 oF0_0 oF0_1 oF0_4 (rm_shc1 l Z a0 hw c0 h0 q4) (fun _ _ q => ⟨_, q.1, by decide⟩) pd0 pd0 (by decide) rfl (W := 0) rfl (by decide) (by decide) (by decide) d18_37 rfl ?_
 intro v5 T5 h5 X5 U5
 obtain ⟨rfl, rfl⟩ := U5
 show oGoes pp ee bb ss Z T5 (mkF mm 42 _ [.int 1]) _ _ _
 refine o_if_ne_t K X5 d18_42 (by decide) (pc' := 47) (by decide) (by decide) ?_
 refine o_iinc K X5 d18_47 rfl rfl (L' := #[vR a, vI 64, vR f, vI 1]) (by rw [show (0 : Int32) + Int32.ofInt 1 = (1 : Int32) from (by decide)]; rfl) ?_
 refine o_goto K X5 d18_50 (by decide) (pc' := 23) (by decide) ?_
 refine o_iloadN K X5 d18_23 rfl rfl ?_
 refine o_aloadN K X5 d18_24 rfl rfl rfl ?_
 refine o_virtual K X5   (w64 hw) (w65 hw) (oNF (w67 hw)) (w67 hw) (w66 hw) (w14 hw) (w68 hw) (by decide) q0 (rm_strlen2 l Z a0 hw a va k c0 c1 cs h0 q0 q1 q2 q3 q10 q11) (by decide) rfl (argsL := []) rfl (lenOf pd10 rfl) (W := 1) rfl (by decide) (by decide) (by decide) d18_25 rfl ?_
 intro v6 T6 h6 X6 U6
 obtain ⟨rfl, rfl⟩ := U6
 show oGoes pp ee bb ss Z T6 (mkF mm 28 _ [.int 2, .int 1]) _ _ _
 refine o_icmp_ge_f K X6 d18_28 rfl (by decide) ?_
 refine o_aloadN K X6 d18_31 rfl rfl rfl ?_
 refine o_aloadN K X6 d18_32 rfl rfl rfl ?_
 refine o_iloadN K X6 d18_33 rfl rfl ?_
 refine o_virtual K X6   (w74 hw) (w75 hw) (oNF (w77 hw)) (w77 hw) (w76 hw) (w14 hw) (w78 hw) (by decide) q0 (rm_char2_1 l Z a0 hw a va k c0 c1 fm cs h0 q0 q1 q2 q3 q7 q8 q9 q10 q11) (by decide) rfl (argsL := [.int 1]) rfl (lenOf pd11 rfl) (W := 1) rfl (by decide) (by decide) (by decide) d18_34 rfl ?_
 intro v7 T7 h7 X7 U7
 obtain ⟨rfl, rfl, u7_1⟩ := U7
 show oGoes pp ee bb ss Z T7 (mkF mm 37 _ [.int c1, .ref f]) _ _ _
 refine o_callLam K X7 (w96 hw) (w97 hw) (w98 hw) rfl (w100 hw) (w99 hw) (w11 hw) (by decide +kernel) (by decide +kernel) (by decide) q12.1 q12.2 oFw0 oF0_0 oF0_1 oF0_4 (rm_shc1 l Z a0 hw c1 h0 q5) (fun _ _ q => ⟨_, q.1, by decide⟩) pd0 pd0 (by decide) rfl (W := 0) rfl (by decide) (by decide) (by decide) d18_37 rfl ?_
 intro v8 T8 h8 X8 U8
 obtain ⟨rfl, rfl⟩ := U8
 show oGoes pp ee bb ss Z T8 (mkF mm 42 _ [.int 1]) _ _ _
 refine o_if_ne_t K X8 d18_42 (by decide) (pc' := 47) (by decide) (by decide) ?_
 refine o_iinc K X8 d18_47 rfl rfl (L' := #[vR a, vI 64, vR f, vI 2]) (by rw [show (1 : Int32) + Int32.ofInt 1 = (2 : Int32) from (by decide)]; rfl) ?_
 refine o_goto K X8 d18_50 (by decide) (pc' := 23) (by decide) ?_
 refine o_iloadN K X8 d18_23 rfl rfl ?_
 refine o_aloadN K X8 d18_24 rfl rfl rfl ?_
 refine o_virtual K X8   (w64 hw) (w65 hw) (oNF (w67 hw)) (w67 hw) (w66 hw) (w14 hw) (w68 hw) (by decide) q0 (rm_strlen2 l Z a0 hw a va k c0 c1 cs h0 q0 q1 q2 q3 q10 q11) (by decide) rfl (argsL := []) rfl (lenOf pd10 rfl) (W := 1) rfl (by decide) (by decide) (by decide) d18_25 rfl ?_
 intro v9 T9 h9 X9 U9
 obtain ⟨rfl, rfl⟩ := U9
 show oGoes pp ee bb ss Z T9 (mkF mm 28 _ [.int 2, .int 2]) _ _ _
 refine o_icmp_ge_t K X9 d18_28 (by decide) (pc' := 53) (by decide) (by decide) ?_
 refine o_iconst K X9 d18_53 rfl (z := 1) rfl ?_
 refine o_ireturnN K X9 .boolean d18_54 rfl (by simp) (z' := 1) (by decide) ?_ (by decide) (by decide)
 exact ⟨rfl, rfl⟩
def r_is2_oSh : Room := { frames := 5, cells := 0, slots := 0, locals := 3074 }
def Q_is2_oSh (Z : State) (a va : Addr) (k : ClassId) (c0 c1 : Int32) (fm : Value) (cs : Int32) (h0 : Heap) (v : Option Value) (h : Heap) : Prop := v = some (.int 1) ∧ h0 = h
theorem rm_is2_oSh (l : Launch) (Z : State) (a0 : Array Value) (hw : oHw Z a0) (a va : Addr) (k : ClassId) (c0 c1 : Int32) (fm : Value) (cs : Int32) (h0 : Heap) (q0 : Exa Z h0 a z0) (q1 : Fld Z h0 a z0 "value" "[B" (.ref va)) (q2 : Fld Z h0 a z0 "coder" "B" (.int 0)) (q3 : oArr Z h0 va k .byte [(.int (nar .byte c0)), (.int (nar .byte c1))]) (q4 : oSh c0) (q5 : oSh c1) (q6 : oCh c0) (q7 : oCh c1) (q8 : Sta Z Z.heap z3 z5 z6 fm) (q9 : fm.isRef = true) (q10 : Sta Z Z.heap z0 z4 "Z" (.int cs)) (q11 : ¬ (cs = (0 : Int32))) : oMet l Z (⟨z1, "isShelfName", "(Ljava/lang/String;)Z"⟩ : MethodName) prog_16_method_4_code 1 (some .boolean) r_is2_oSh [] #[.ref a] h0 (Q_is2_oSh Z a va k c0 c1 fm cs h0) := by
 refine oEnter (plainFor_of_name (by first | (simp [plainName, overriddenIn]; done) | decide +kernel)) (own := z1) (nm := "isShelfName") rfl rfl (L := #[.val (.ref a)]) (fun m => by first | (simp [entryFrame, mkF, argsToLocals, Value.category, oCatRef q9]; done) | rfl) ?_
 intro pp ee ss mm bb mtd cc T0 K X0
 have E0 := X0.ext0
 refine o_aloadN K X0 d19_0 rfl rfl rfl ?_
 refine o_bipush K X0 d19_1 rfl (z := 64) rfl ?_
 refine o_lambda K X0 (σ := oSg0) (w53 hw) rfl rfl d19_3 rfl rfl (W := 2) rfl (by decide) ?_
 intro f1 k1 M1 N1
 refine o_static K X0  (w56 hw) (w57 hw) (w11 hw) (w58 hw) (by decide) (rm_made2_oSh l Z a0 hw a va k c0 c1 f1 k1 fm cs h0 q0 q1 q2 q3 q4 q5 q6 q7 q8 q9 q10 q11 ⟨M1, N1⟩) (by decide) rfl (argsL := [.ref a, .int 64, .ref f1]) rfl (lenOf pd12 rfl) (W := 0) rfl (by decide) (by decide) (by decide) d19_8 rfl ?_
 intro v2 T2 h2 X2 U2
 obtain ⟨rfl, rfl⟩ := U2
 show oGoes pp ee bb ss Z T2 (mkF mm 11 _ [.int 1]) _ _ _
 refine o_ireturnN K X2 .boolean d19_11 rfl (by simp) (z' := 1) (by decide) ?_ (by decide) (by decide)
 exact ⟨rfl, rfl⟩
def r_made2_oId : Room := { frames := 4, cells := 0, slots := 0, locals := 54 }
def Q_made2_oId (Z : State) (a va : Addr) (k : ClassId) (c0 c1 : Int32) (f : Addr) (kf : ClassId) (fm : Value) (cs : Int32) (h0 : Heap) (v : Option Value) (h : Heap) : Prop := v = some (.int 1) ∧ h0 = h
theorem rm_made2_oId (l : Launch) (Z : State) (a0 : Array Value) (hw : oHw Z a0) (a va : Addr) (k : ClassId) (c0 c1 : Int32) (f : Addr) (kf : ClassId) (fm : Value) (cs : Int32) (h0 : Heap) (q0 : Exa Z h0 a z0) (q1 : Fld Z h0 a z0 "value" "[B" (.ref va)) (q2 : Fld Z h0 a z0 "coder" "B" (.int 0)) (q3 : oArr Z h0 va k .byte [(.int (nar .byte c0)), (.int (nar .byte c1))]) (q4 : oId c0) (q5 : oId c1) (q6 : oCh c0) (q7 : oCh c1) (q8 : Sta Z Z.heap z3 z5 z6 fm) (q9 : fm.isRef = true) (q10 : Sta Z Z.heap z0 z4 "Z" (.int cs)) (q11 : ¬ (cs = (0 : Int32))) (q12 : Jvm.LamKit.Made Z z1 oSg1 kf ∧ Jvm.LamKit.FnAt Z.heap f kf) : oMet l Z (⟨z1, "isMadeOf", z11⟩ : MethodName) prog_16_method_6_code 4 (some .boolean) r_made2_oId [] #[.ref a, .int 128, .ref f] h0 (Q_made2_oId Z a va k c0 c1 f kf fm cs h0) := by
 refine oEnter (plainFor_of_name (by first | (simp [plainName, overriddenIn]; done) | decide +kernel)) (own := z1) (nm := "isMadeOf") rfl rfl (L := #[.val (.ref a), .val (.int 128), .val (.ref f), .unset]) (fun m => by first | (simp [entryFrame, mkF, argsToLocals, Value.category, oCatRef q9]; done) | rfl) ?_
 intro pp ee ss mm bb mtd cc T0 K X0
 have E0 := X0.ext0
 refine o_aloadN K X0 d18_0 rfl rfl rfl ?_
 refine o_ifnull_f K X0 d18_1 rfl ?_
 refine o_aloadN K X0 d18_4 rfl rfl rfl ?_
 refine o_virtual K X0   (w59 hw) (w60 hw) (oNF (w62 hw)) (w62 hw) (w61 hw) (w14 hw) (w63 hw) (by decide) q0 (rm_strem2 l Z a0 hw a va k c0 c1 h0 q0 q1 q2 q3) (by decide) rfl (argsL := []) rfl (lenOf pd8 rfl) (W := 0) rfl (by decide) (by decide) (by decide) d18_5 rfl ?_
 intro v1 T1 h1 X1 U1
 obtain ⟨rfl, rfl⟩ := U1
 show oGoes pp ee bb ss Z T1 (mkF mm 8 _ [.int 0]) _ _ _
 refine o_if_ne_f K X1 d18_8 rfl (by decide) ?_
 refine o_aloadN K X1 d18_11 rfl rfl rfl ?_
 refine o_virtual K X1   (w64 hw) (w65 hw) (oNF (w67 hw)) (w67 hw) (w66 hw) (w14 hw) (w68 hw) (by decide) q0 (rm_strlen2 l Z a0 hw a va k c0 c1 cs h0 q0 q1 q2 q3 q10 q11) (by decide) rfl (argsL := []) rfl (lenOf pd10 rfl) (W := 0) rfl (by decide) (by decide) (by decide) d18_12 rfl ?_
 intro v2 T2 h2 X2 U2
 obtain ⟨rfl, rfl⟩ := U2
 show oGoes pp ee bb ss Z T2 (mkF mm 15 _ [.int 2]) _ _ _
 refine o_iloadN K X2 d18_15 rfl rfl ?_
 refine o_icmp_le_t K X2 d18_16 (by decide) (pc' := 21) (by decide) (by decide) ?_
 refine o_iconst K X2 d18_21 rfl (z := 0) rfl ?_
 refine o_istoreN K X2 d18_22 rfl (L' := #[vR a, vI 128, vR f, vI 0]) rfl ?_
 refine o_iloadN K X2 d18_23 rfl rfl ?_
 refine o_aloadN K X2 d18_24 rfl rfl rfl ?_
 refine o_virtual K X2   (w64 hw) (w65 hw) (oNF (w67 hw)) (w67 hw) (w66 hw) (w14 hw) (w68 hw) (by decide) q0 (rm_strlen2 l Z a0 hw a va k c0 c1 cs h0 q0 q1 q2 q3 q10 q11) (by decide) rfl (argsL := []) rfl (lenOf pd10 rfl) (W := 1) rfl (by decide) (by decide) (by decide) d18_25 rfl ?_
 intro v3 T3 h3 X3 U3
 obtain ⟨rfl, rfl⟩ := U3
 show oGoes pp ee bb ss Z T3 (mkF mm 28 _ [.int 2, .int 0]) _ _ _
 refine o_icmp_ge_f K X3 d18_28 rfl (by decide) ?_
 refine o_aloadN K X3 d18_31 rfl rfl rfl ?_
 refine o_aloadN K X3 d18_32 rfl rfl rfl ?_
 refine o_iloadN K X3 d18_33 rfl rfl ?_
 refine o_virtual K X3   (w74 hw) (w75 hw) (oNF (w77 hw)) (w77 hw) (w76 hw) (w14 hw) (w78 hw) (by decide) q0 (rm_char2_0 l Z a0 hw a va k c0 c1 fm cs h0 q0 q1 q2 q3 q6 q8 q9 q10 q11) (by decide) rfl (argsL := [.int 0]) rfl (lenOf pd11 rfl) (W := 1) rfl (by decide) (by decide) (by decide) d18_34 rfl ?_
 intro v4 T4 h4 X4 U4
 obtain ⟨rfl, rfl, u4_1⟩ := U4
 show oGoes pp ee bb ss Z T4 (mkF mm 37 _ [.int c0, .ref f]) _ _ _
 refine o_callLam K X4 (w96 hw) (w97 hw) (w98 hw) rfl (w106 hw) (w105 hw) (w11 hw) (by decide +kernel) (by decide +kernel) (by decide) q12.1 q12.2 oFw1 oF1_0 oF1_1 oF1_4 (rm_idc1 l Z a0 hw c0 h0 q4) (fun _ _ q => ⟨_, q.1, by decide⟩) pd0 pd0 (by decide) rfl (W := 0) rfl (by decide) (by decide) (by decide) d18_37 rfl ?_
 intro v5 T5 h5 X5 U5
 obtain ⟨rfl, rfl⟩ := U5
 show oGoes pp ee bb ss Z T5 (mkF mm 42 _ [.int 1]) _ _ _
 refine o_if_ne_t K X5 d18_42 (by decide) (pc' := 47) (by decide) (by decide) ?_
 refine o_iinc K X5 d18_47 rfl rfl (L' := #[vR a, vI 128, vR f, vI 1]) (by rw [show (0 : Int32) + Int32.ofInt 1 = (1 : Int32) from (by decide)]; rfl) ?_
 refine o_goto K X5 d18_50 (by decide) (pc' := 23) (by decide) ?_
 refine o_iloadN K X5 d18_23 rfl rfl ?_
 refine o_aloadN K X5 d18_24 rfl rfl rfl ?_
 refine o_virtual K X5   (w64 hw) (w65 hw) (oNF (w67 hw)) (w67 hw) (w66 hw) (w14 hw) (w68 hw) (by decide) q0 (rm_strlen2 l Z a0 hw a va k c0 c1 cs h0 q0 q1 q2 q3 q10 q11) (by decide) rfl (argsL := []) rfl (lenOf pd10 rfl) (W := 1) rfl (by decide) (by decide) (by decide) d18_25 rfl ?_
 intro v6 T6 h6 X6 U6
 obtain ⟨rfl, rfl⟩ := U6
 show oGoes pp ee bb ss Z T6 (mkF mm 28 _ [.int 2, .int 1]) _ _ _
 refine o_icmp_ge_f K X6 d18_28 rfl (by decide) ?_
 refine o_aloadN K X6 d18_31 rfl rfl rfl ?_
 refine o_aloadN K X6 d18_32 rfl rfl rfl ?_
 refine o_iloadN K X6 d18_33 rfl rfl ?_
 refine o_virtual K X6   (w74 hw) (w75 hw) (oNF (w77 hw)) (w77 hw) (w76 hw) (w14 hw) (w78 hw) (by decide) q0 (rm_char2_1 l Z a0 hw a va k c0 c1 fm cs h0 q0 q1 q2 q3 q7 q8 q9 q10 q11) (by decide) rfl (argsL := [.int 1]) rfl (lenOf pd11 rfl) (W := 1) rfl (by decide) (by decide) (by decide) d18_34 rfl ?_
 intro v7 T7 h7 X7 U7
 obtain ⟨rfl, rfl, u7_1⟩ := U7
 show oGoes pp ee bb ss Z T7 (mkF mm 37 _ [.int c1, .ref f]) _ _ _
 refine o_callLam K X7 (w96 hw) (w97 hw) (w98 hw) rfl (w106 hw) (w105 hw) (w11 hw) (by decide +kernel) (by decide +kernel) (by decide) q12.1 q12.2 oFw1 oF1_0 oF1_1 oF1_4 (rm_idc1 l Z a0 hw c1 h0 q5) (fun _ _ q => ⟨_, q.1, by decide⟩) pd0 pd0 (by decide) rfl (W := 0) rfl (by decide) (by decide) (by decide) d18_37 rfl ?_
 intro v8 T8 h8 X8 U8
 obtain ⟨rfl, rfl⟩ := U8
 show oGoes pp ee bb ss Z T8 (mkF mm 42 _ [.int 1]) _ _ _
 refine o_if_ne_t K X8 d18_42 (by decide) (pc' := 47) (by decide) (by decide) ?_
 refine o_iinc K X8 d18_47 rfl rfl (L' := #[vR a, vI 128, vR f, vI 2]) (by rw [show (1 : Int32) + Int32.ofInt 1 = (2 : Int32) from (by decide)]; rfl) ?_
 refine o_goto K X8 d18_50 (by decide) (pc' := 23) (by decide) ?_
 refine o_iloadN K X8 d18_23 rfl rfl ?_
 refine o_aloadN K X8 d18_24 rfl rfl rfl ?_
 refine o_virtual K X8   (w64 hw) (w65 hw) (oNF (w67 hw)) (w67 hw) (w66 hw) (w14 hw) (w68 hw) (by decide) q0 (rm_strlen2 l Z a0 hw a va k c0 c1 cs h0 q0 q1 q2 q3 q10 q11) (by decide) rfl (argsL := []) rfl (lenOf pd10 rfl) (W := 1) rfl (by decide) (by decide) (by decide) d18_25 rfl ?_
 intro v9 T9 h9 X9 U9
 obtain ⟨rfl, rfl⟩ := U9
 show oGoes pp ee bb ss Z T9 (mkF mm 28 _ [.int 2, .int 2]) _ _ _
 refine o_icmp_ge_t K X9 d18_28 (by decide) (pc' := 53) (by decide) (by decide) ?_
 refine o_iconst K X9 d18_53 rfl (z := 1) rfl ?_
 refine o_ireturnN K X9 .boolean d18_54 rfl (by simp) (z' := 1) (by decide) ?_ (by decide) (by decide)
 exact ⟨rfl, rfl⟩
def r_is2_oId : Room := { frames := 5, cells := 0, slots := 0, locals := 3074 }
def Q_is2_oId (Z : State) (a va : Addr) (k : ClassId) (c0 c1 : Int32) (fm : Value) (cs : Int32) (h0 : Heap) (v : Option Value) (h : Heap) : Prop := v = some (.int 1) ∧ h0 = h
theorem rm_is2_oId (l : Launch) (Z : State) (a0 : Array Value) (hw : oHw Z a0) (a va : Addr) (k : ClassId) (c0 c1 : Int32) (fm : Value) (cs : Int32) (h0 : Heap) (q0 : Exa Z h0 a z0) (q1 : Fld Z h0 a z0 "value" "[B" (.ref va)) (q2 : Fld Z h0 a z0 "coder" "B" (.int 0)) (q3 : oArr Z h0 va k .byte [(.int (nar .byte c0)), (.int (nar .byte c1))]) (q4 : oId c0) (q5 : oId c1) (q6 : oCh c0) (q7 : oCh c1) (q8 : Sta Z Z.heap z3 z5 z6 fm) (q9 : fm.isRef = true) (q10 : Sta Z Z.heap z0 z4 "Z" (.int cs)) (q11 : ¬ (cs = (0 : Int32))) : oMet l Z (⟨z1, "isRecordId", "(Ljava/lang/String;)Z"⟩ : MethodName) prog_16_method_5_code 1 (some .boolean) r_is2_oId [] #[.ref a] h0 (Q_is2_oId Z a va k c0 c1 fm cs h0) := by
 refine oEnter (plainFor_of_name (by first | (simp [plainName, overriddenIn]; done) | decide +kernel)) (own := z1) (nm := "isRecordId") rfl rfl (L := #[.val (.ref a)]) (fun m => by first | (simp [entryFrame, mkF, argsToLocals, Value.category, oCatRef q9]; done) | rfl) ?_
 intro pp ee ss mm bb mtd cc T0 K X0
 have E0 := X0.ext0
 refine o_aloadN K X0 d20_0 rfl rfl rfl ?_
 refine o_sipush K X0 d20_1 rfl (z := 128) rfl ?_
 refine o_lambda K X0 (σ := oSg1) (w104 hw) rfl rfl d20_4 rfl rfl (W := 2) rfl (by decide) ?_
 intro f1 k1 M1 N1
 refine o_static K X0  (w56 hw) (w57 hw) (w11 hw) (w58 hw) (by decide) (rm_made2_oId l Z a0 hw a va k c0 c1 f1 k1 fm cs h0 q0 q1 q2 q3 q4 q5 q6 q7 q8 q9 q10 q11 ⟨M1, N1⟩) (by decide) rfl (argsL := [.ref a, .int 128, .ref f1]) rfl (lenOf pd12 rfl) (W := 0) rfl (by decide) (by decide) (by decide) d20_9 rfl ?_
 intro v2 T2 h2 X2 U2
 obtain ⟨rfl, rfl⟩ := U2
 show oGoes pp ee bb ss Z T2 (mkF mm 12 _ [.int 1]) _ _ _
 refine o_ireturnN K X2 .boolean d20_12 rfl (by simp) (z' := 1) (by decide) ?_ (by decide) (by decide)
 exact ⟨rfl, rfl⟩
theorem d21_0 : decode jdk_43_method_13_code 0 = .ok (.aload_n 0, 1) := by decide +kernel
theorem d21_1 : decode jdk_43_method_13_code 1 = .ok (.arraylength, 1) := by decide +kernel
theorem d21_2 : decode jdk_43_method_13_code 2 = .ok (.aload_n 1, 1) := by decide +kernel
theorem d21_3 : decode jdk_43_method_13_code 3 = .ok (.arraylength, 1) := by decide +kernel
theorem d21_4 : decode jdk_43_method_13_code 4 = .ok (.if_icmp .ne 30, 3) := by decide +kernel
theorem d21_7 : decode jdk_43_method_13_code 7 = .ok (.iconst 0, 1) := by decide +kernel
theorem d21_8 : decode jdk_43_method_13_code 8 = .ok (.istore_n 2, 1) := by decide +kernel
theorem d21_9 : decode jdk_43_method_13_code 9 = .ok (.iload_n 2, 1) := by decide +kernel
theorem d21_10 : decode jdk_43_method_13_code 10 = .ok (.aload_n 0, 1) := by decide +kernel
theorem d21_11 : decode jdk_43_method_13_code 11 = .ok (.arraylength, 1) := by decide +kernel
theorem d21_12 : decode jdk_43_method_13_code 12 = .ok (.if_icmp .ge 20, 3) := by decide +kernel
theorem d21_15 : decode jdk_43_method_13_code 15 = .ok (.aload_n 0, 1) := by decide +kernel
theorem d21_16 : decode jdk_43_method_13_code 16 = .ok (.iload_n 2, 1) := by decide +kernel
theorem d21_17 : decode jdk_43_method_13_code 17 = .ok (.baload, 1) := by decide +kernel
theorem d21_18 : decode jdk_43_method_13_code 18 = .ok (.aload_n 1, 1) := by decide +kernel
theorem d21_19 : decode jdk_43_method_13_code 19 = .ok (.iload_n 2, 1) := by decide +kernel
theorem d21_20 : decode jdk_43_method_13_code 20 = .ok (.baload, 1) := by decide +kernel
theorem d21_21 : decode jdk_43_method_13_code 21 = .ok (.if_icmp .eq 5, 3) := by decide +kernel
theorem d21_24 : decode jdk_43_method_13_code 24 = .ok (.iconst 0, 1) := by decide +kernel
theorem d21_25 : decode jdk_43_method_13_code 25 = .ok (.ireturn, 1) := by decide +kernel
theorem d21_26 : decode jdk_43_method_13_code 26 = .ok (.iinc 2 1, 3) := by decide +kernel
theorem d21_29 : decode jdk_43_method_13_code 29 = .ok (.goto (-20), 3) := by decide +kernel
theorem d21_32 : decode jdk_43_method_13_code 32 = .ok (.iconst 1, 1) := by decide +kernel
theorem d21_33 : decode jdk_43_method_13_code 33 = .ok (.ireturn, 1) := by decide +kernel
theorem d21_34 : decode jdk_43_method_13_code 34 = .ok (.iconst 0, 1) := by decide +kernel
theorem d21_35 : decode jdk_43_method_13_code 35 = .ok (.ireturn, 1) := by decide +kernel
def r_lateq : Room := { frames := 0, cells := 0, slots := 0, locals := 0 }
def Q_lateq (Z : State) (a b : Addr) (ka kb : ClassId) (n x0 x1 m y0 y1 : Int32) (h0 : Heap) (v : Option Value) (h : Heap) : Prop := v = some (.int (oSm n x0 x1 m y0 y1)) ∧ h0 = h
theorem rm_lateq (l : Launch) (Z : State) (a0 : Array Value) (hw : oHw Z a0) (a b : Addr) (ka kb : ClassId) (n x0 x1 m y0 y1 : Int32) (h0 : Heap) (q0 : oArr Z h0 a ka .byte (oBy n x0 x1)) (q1 : oArr Z h0 b kb .byte (oBy m y0 y1)) (q2 : oL n) (q3 : oL m) (q4 : oCh x0) (q5 : oCh x1) (q6 : oCh y0) (q7 : oCh y1) : oMet l Z (⟨"java/lang/StringLatin1", "equals", "([B[B)Z"⟩ : MethodName) jdk_43_method_13_code 3 (some .boolean) r_lateq [] #[.ref a, .ref b] h0 (Q_lateq Z a b ka kb n x0 x1 m y0 y1 h0) := by
 refine oEnter (plainFor_of_name (by first | (simp [plainName, overriddenIn]; done) | decide +kernel)) (own := "java/lang/StringLatin1") (nm := "equals") rfl rfl (L := #[.val (.ref a), .val (.ref b), .unset]) (fun m => by first | (simp [entryFrame, mkF, argsToLocals, Value.category]; done) | rfl) ?_
 intro pp ee ss mm bb mtd cc T0 K X0
 have E0 := X0.ext0
 rcases q2 with rfl | rfl <;> rcases q3 with rfl | rfl
 have q0' : oArr Z h0 a ka .byte [(.int (nar .byte x0))] := oByC (oBy1 _ _).symm q0
 have q1' : oArr Z h0 b kb .byte [(.int (nar .byte y0))] := oByC (oBy1 _ _).symm q1
 refine o_aloadN K X0 d21_0 rfl rfl rfl ?_
 refine o_arraylength K X0 q0' (z := 1) rfl d21_1 rfl ?_
 refine o_aloadN K X0 d21_2 rfl rfl rfl ?_
 refine o_arraylength K X0 q1' (z := 1) rfl d21_3 rfl ?_
 refine o_icmp_ne_f K X0 d21_4 rfl (by decide) ?_
 refine o_iconst K X0 d21_7 rfl (z := 0) rfl ?_
 refine o_istoreN K X0 d21_8 rfl (L' := #[vR a, vR b, vI 0]) rfl ?_
 refine o_iloadN K X0 d21_9 rfl rfl ?_
 refine o_aloadN K X0 d21_10 rfl rfl rfl ?_
 refine o_arraylength K X0 q0' (z := 1) rfl d21_11 rfl ?_
 refine o_icmp_ge_f K X0 d21_12 rfl (by decide) ?_
 refine o_aloadN K X0 d21_15 rfl rfl rfl ?_
 refine o_iloadN K X0 d21_16 rfl rfl ?_
 refine o_baload K X0 q0' (by decide) (v := (.int (nar .byte x0))) rfl d21_17 rfl ?_
 refine o_aloadN K X0 d21_18 rfl rfl rfl ?_
 refine o_iloadN K X0 d21_19 rfl rfl ?_
 refine o_baload K X0 q1' (by decide) (v := (.int (nar .byte y0))) rfl d21_20 rfl ?_
 by_cases c21_1 : (nar .byte x0) = (nar .byte y0)
 refine o_icmp_eq_t K X0 d21_21 (by decide) (pc' := 26) (by decide) c21_1 ?_
 refine o_iinc K X0 d21_26 rfl rfl (L' := #[vR a, vR b, vI 1]) (by rw [show (0 : Int32) + Int32.ofInt 1 = (1 : Int32) from (by decide)]; rfl) ?_
 refine o_goto K X0 d21_29 (by decide) (pc' := 9) (by decide) ?_
 refine o_iloadN K X0 d21_9 rfl rfl ?_
 refine o_aloadN K X0 d21_10 rfl rfl rfl ?_
 refine o_arraylength K X0 q0' (z := 1) rfl d21_11 rfl ?_
 refine o_icmp_ge_t K X0 d21_12 (by decide) (pc' := 32) (by decide) (by decide) ?_
 refine o_iconst K X0 d21_32 rfl (z := 1) rfl ?_
 refine o_ireturnN K X0 .boolean d21_33 rfl (by simp) (z' := 1) (by decide) ?_ (by decide) (by decide)
 exact ⟨(by simp +decide [oSm, (oNarEq q4 q6).mp c21_1]), rfl⟩
 refine o_icmp_eq_f K X0 d21_21 rfl c21_1 ?_
 refine o_iconst K X0 d21_24 rfl (z := 0) rfl ?_
 refine o_ireturnN K X0 .boolean d21_25 rfl (by simp) (z' := 0) (by decide) ?_ (by decide) (by decide)
 exact ⟨(by simp +decide [oSm, mt (oNarEq q4 q6).mpr c21_1]), rfl⟩
 have q0' : oArr Z h0 a ka .byte [(.int (nar .byte x0))] := oByC (oBy1 _ _).symm q0
 have q1' : oArr Z h0 b kb .byte [(.int (nar .byte y0)), (.int (nar .byte y1))] := oByC (oBy2 _ _).symm q1
 refine o_aloadN K X0 d21_0 rfl rfl rfl ?_
 refine o_arraylength K X0 q0' (z := 1) rfl d21_1 rfl ?_
 refine o_aloadN K X0 d21_2 rfl rfl rfl ?_
 refine o_arraylength K X0 q1' (z := 2) rfl d21_3 rfl ?_
 refine o_icmp_ne_t K X0 d21_4 (by decide) (pc' := 34) (by decide) (by decide) ?_
 refine o_iconst K X0 d21_34 rfl (z := 0) rfl ?_
 refine o_ireturnN K X0 .boolean d21_35 rfl (by simp) (z' := 0) (by decide) ?_ (by decide) (by decide)
 exact ⟨(by simp +decide [oSm]), rfl⟩
 have q0' : oArr Z h0 a ka .byte [(.int (nar .byte x0)), (.int (nar .byte x1))] := oByC (oBy2 _ _).symm q0
 have q1' : oArr Z h0 b kb .byte [(.int (nar .byte y0))] := oByC (oBy1 _ _).symm q1
 refine o_aloadN K X0 d21_0 rfl rfl rfl ?_
 refine o_arraylength K X0 q0' (z := 2) rfl d21_1 rfl ?_
 refine o_aloadN K X0 d21_2 rfl rfl rfl ?_
 refine o_arraylength K X0 q1' (z := 1) rfl d21_3 rfl ?_
 refine o_icmp_ne_t K X0 d21_4 (by decide) (pc' := 34) (by decide) (by decide) ?_
 refine o_iconst K X0 d21_34 rfl (z := 0) rfl ?_
 refine o_ireturnN K X0 .boolean d21_35 rfl (by simp) (z' := 0) (by decide) ?_ (by decide) (by decide)
 exact ⟨(by simp +decide [oSm]), rfl⟩
 have q0' : oArr Z h0 a ka .byte [(.int (nar .byte x0)), (.int (nar .byte x1))] := oByC (oBy2 _ _).symm q0
 have q1' : oArr Z h0 b kb .byte [(.int (nar .byte y0)), (.int (nar .byte y1))] := oByC (oBy2 _ _).symm q1
 refine o_aloadN K X0 d21_0 rfl rfl rfl ?_
 refine o_arraylength K X0 q0' (z := 2) rfl d21_1 rfl ?_
 refine o_aloadN K X0 d21_2 rfl rfl rfl ?_
 refine o_arraylength K X0 q1' (z := 2) rfl d21_3 rfl ?_
 refine o_icmp_ne_f K X0 d21_4 rfl (by decide) ?_
 refine o_iconst K X0 d21_7 rfl (z := 0) rfl ?_
 refine o_istoreN K X0 d21_8 rfl (L' := #[vR a, vR b, vI 0]) rfl ?_
 refine o_iloadN K X0 d21_9 rfl rfl ?_
 refine o_aloadN K X0 d21_10 rfl rfl rfl ?_
 refine o_arraylength K X0 q0' (z := 2) rfl d21_11 rfl ?_
 refine o_icmp_ge_f K X0 d21_12 rfl (by decide) ?_
 refine o_aloadN K X0 d21_15 rfl rfl rfl ?_
 refine o_iloadN K X0 d21_16 rfl rfl ?_
 refine o_baload K X0 q0' (by decide) (v := (.int (nar .byte x0))) rfl d21_17 rfl ?_
 refine o_aloadN K X0 d21_18 rfl rfl rfl ?_
 refine o_iloadN K X0 d21_19 rfl rfl ?_
 refine o_baload K X0 q1' (by decide) (v := (.int (nar .byte y0))) rfl d21_20 rfl ?_
 by_cases c21_2 : (nar .byte x0) = (nar .byte y0)
 refine o_icmp_eq_t K X0 d21_21 (by decide) (pc' := 26) (by decide) c21_2 ?_
 refine o_iinc K X0 d21_26 rfl rfl (L' := #[vR a, vR b, vI 1]) (by rw [show (0 : Int32) + Int32.ofInt 1 = (1 : Int32) from (by decide)]; rfl) ?_
 refine o_goto K X0 d21_29 (by decide) (pc' := 9) (by decide) ?_
 refine o_iloadN K X0 d21_9 rfl rfl ?_
 refine o_aloadN K X0 d21_10 rfl rfl rfl ?_
 refine o_arraylength K X0 q0' (z := 2) rfl d21_11 rfl ?_
 refine o_icmp_ge_f K X0 d21_12 rfl (by decide) ?_
 refine o_aloadN K X0 d21_15 rfl rfl rfl ?_
 refine o_iloadN K X0 d21_16 rfl rfl ?_
 refine o_baload K X0 q0' (by decide) (v := (.int (nar .byte x1))) rfl d21_17 rfl ?_
 refine o_aloadN K X0 d21_18 rfl rfl rfl ?_
 refine o_iloadN K X0 d21_19 rfl rfl ?_
 refine o_baload K X0 q1' (by decide) (v := (.int (nar .byte y1))) rfl d21_20 rfl ?_
 by_cases c21_3 : (nar .byte x1) = (nar .byte y1)
 refine o_icmp_eq_t K X0 d21_21 (by decide) (pc' := 26) (by decide) c21_3 ?_
 refine o_iinc K X0 d21_26 rfl rfl (L' := #[vR a, vR b, vI 2]) (by rw [show (1 : Int32) + Int32.ofInt 1 = (2 : Int32) from (by decide)]; rfl) ?_
 refine o_goto K X0 d21_29 (by decide) (pc' := 9) (by decide) ?_
 refine o_iloadN K X0 d21_9 rfl rfl ?_
 refine o_aloadN K X0 d21_10 rfl rfl rfl ?_
 refine o_arraylength K X0 q0' (z := 2) rfl d21_11 rfl ?_
 refine o_icmp_ge_t K X0 d21_12 (by decide) (pc' := 32) (by decide) (by decide) ?_
 refine o_iconst K X0 d21_32 rfl (z := 1) rfl ?_
 refine o_ireturnN K X0 .boolean d21_33 rfl (by simp) (z' := 1) (by decide) ?_ (by decide) (by decide)
 exact ⟨(by simp +decide [oSm, (oNarEq q4 q6).mp c21_2, (oNarEq q5 q7).mp c21_3]), rfl⟩
 refine o_icmp_eq_f K X0 d21_21 rfl c21_3 ?_
 refine o_iconst K X0 d21_24 rfl (z := 0) rfl ?_
 refine o_ireturnN K X0 .boolean d21_25 rfl (by simp) (z' := 0) (by decide) ?_ (by decide) (by decide)
 exact ⟨(by simp +decide [oSm, (oNarEq q4 q6).mp c21_2, mt (oNarEq q5 q7).mpr c21_3]), rfl⟩
 refine o_icmp_eq_f K X0 d21_21 rfl c21_2 ?_
 refine o_iconst K X0 d21_24 rfl (z := 0) rfl ?_
 refine o_ireturnN K X0 .boolean d21_25 rfl (by simp) (z' := 0) (by decide) ?_ (by decide) (by decide)
 exact ⟨(by simp +decide [oSm, mt (oNarEq q4 q6).mpr c21_2]), rfl⟩
theorem d22_0 : decode jdk_42_method_66_code 0 = .ok (.aload_n 0, 1) := by decide +kernel
theorem d22_1 : decode jdk_42_method_66_code 1 = .ok (.aload_n 1, 1) := by decide +kernel
theorem d22_2 : decode jdk_42_method_66_code 2 = .ok (.if_acmp .ne 5, 3) := by decide +kernel
theorem d22_7 : decode jdk_42_method_66_code 7 = .ok (.aload_n 1, 1) := by decide +kernel
theorem d22_8 : decode jdk_42_method_66_code 8 = .ok (.instanceof 10, 3) := by decide +kernel
theorem d22_11 : decode jdk_42_method_66_code 11 = .ok (.ifCond .eq 43, 3) := by decide +kernel
theorem d22_14 : decode jdk_42_method_66_code 14 = .ok (.aload_n 1, 1) := by decide +kernel
theorem d22_15 : decode jdk_42_method_66_code 15 = .ok (.checkcast 10, 3) := by decide +kernel
theorem d22_18 : decode jdk_42_method_66_code 18 = .ok (.astore_n 2, 1) := by decide +kernel
theorem d22_19 : decode jdk_42_method_66_code 19 = .ok (.getstatic 38, 3) := by decide +kernel
theorem d22_22 : decode jdk_42_method_66_code 22 = .ok (.ifCond .eq 14, 3) := by decide +kernel
theorem d22_25 : decode jdk_42_method_66_code 25 = .ok (.aload_n 0, 1) := by decide +kernel
theorem d22_26 : decode jdk_42_method_66_code 26 = .ok (.getfield 15, 3) := by decide +kernel
theorem d22_29 : decode jdk_42_method_66_code 29 = .ok (.aload_n 2, 1) := by decide +kernel
theorem d22_30 : decode jdk_42_method_66_code 30 = .ok (.getfield 15, 3) := by decide +kernel
theorem d22_33 : decode jdk_42_method_66_code 33 = .ok (.if_icmp .ne 21, 3) := by decide +kernel
theorem d22_36 : decode jdk_42_method_66_code 36 = .ok (.aload_n 0, 1) := by decide +kernel
theorem d22_37 : decode jdk_42_method_66_code 37 = .ok (.getfield 9, 3) := by decide +kernel
theorem d22_40 : decode jdk_42_method_66_code 40 = .ok (.aload_n 2, 1) := by decide +kernel
theorem d22_41 : decode jdk_42_method_66_code 41 = .ok (.getfield 9, 3) := by decide +kernel
theorem d22_44 : decode jdk_42_method_66_code 44 = .ok (.invokestatic 541, 3) := by decide +kernel
theorem d22_47 : decode jdk_42_method_66_code 47 = .ok (.ifCond .eq 7, 3) := by decide +kernel
theorem d22_50 : decode jdk_42_method_66_code 50 = .ok (.iconst 1, 1) := by decide +kernel
theorem d22_51 : decode jdk_42_method_66_code 51 = .ok (.goto 4, 3) := by decide +kernel
theorem d22_54 : decode jdk_42_method_66_code 54 = .ok (.iconst 0, 1) := by decide +kernel
theorem d22_55 : decode jdk_42_method_66_code 55 = .ok (.ireturn, 1) := by decide +kernel
theorem pd13 : parseMethodDescriptor "([B[B)Z" = some ⟨[(.array .byte), (.array .byte)], some .boolean⟩ := by decide +kernel
def r_streq : Room := { frames := 1, cells := 0, slots := 0, locals := 14 }
def Q_streq (Z : State) (a o va vo : Addr) (ka ko : ClassId) (n x0 x1 m y0 y1 cs : Int32) (h0 : Heap) (v : Option Value) (h : Heap) : Prop := v = some (.int (oSm n x0 x1 m y0 y1)) ∧ h0 = h
theorem rm_streq (l : Launch) (Z : State) (a0 : Array Value) (hw : oHw Z a0) (a o va vo : Addr) (ka ko : ClassId) (n x0 x1 m y0 y1 cs : Int32) (h0 : Heap) (q0 : Exa Z h0 a z0) (q1 : Fld Z h0 a z0 "value" "[B" (.ref va)) (q2 : Fld Z h0 a z0 "coder" "B" (.int 0)) (q3 : oArr Z h0 va ka .byte (oBy n x0 x1)) (q4 : Exa Z h0 o z0) (q5 : Fld Z h0 o z0 "value" "[B" (.ref vo)) (q6 : Fld Z h0 o z0 "coder" "B" (.int 0)) (q7 : oArr Z h0 vo ko .byte (oBy m y0 y1)) (q8 : oL n) (q9 : oL m) (q10 : oCh x0) (q11 : oCh x1) (q12 : oCh y0) (q13 : oCh y1) (q14 : Sta Z Z.heap z0 z4 "Z" (.int cs)) (q15 : ¬ (cs = (0 : Int32))) (q16 : a ≠ o) : oMet l Z (⟨z0, "equals", z10⟩ : MethodName) jdk_42_method_66_code 3 (some .boolean) r_streq [] #[.ref a, .ref o] h0 (Q_streq Z a o va vo ka ko n x0 x1 m y0 y1 cs h0) := by
 refine oEnter (plainFor_of_name (by first | (simp [plainName, overriddenIn]; done) | decide +kernel)) (own := z0) (nm := "equals") rfl rfl (L := #[.val (.ref a), .val (.ref o), .unset]) (fun m => by first | (simp [entryFrame, mkF, argsToLocals, Value.category]; done) | rfl) ?_
 intro pp ee ss mm bb mtd cc T0 K X0
 have E0 := X0.ext0
 refine o_aloadN K X0 d22_0 rfl rfl rfl ?_
 refine o_aloadN K X0 d22_1 rfl rfl rfl ?_
 refine o_acmp K X0 false d22_2 (by decide) rfl rfl (decide_eq_false fun q => q16 (Value.ref.inj q)) (pc' := 7) (by decide) ?_
 refine o_aloadN K X0 d22_7 rfl rfl rfl ?_
 refine o_instanceof K X0 (w123 hw) (Ins.self q4) d22_8 rfl ?_
 intro T1 X1
 refine o_if_eq_f K X1 d22_11 rfl (by decide) ?_
 refine o_aloadN K X1 d22_14 rfl rfl rfl ?_
 refine o_checkcast K X1 (w123 hw) (Ins.self q4) d22_15 rfl ?_
 intro T2 X2
 refine o_astoreN K X2 d22_18 rfl rfl (L' := #[vR a, vR o, vR o]) rfl ?_
 refine o_getstatic K X2 (host := "") (Or.inl (w25 hw)) Via.refl (q14.ext X2.ext0) d22_19 rfl ?_
 intro T3 X3
 refine o_if_eq_f K X3 d22_22 rfl q15 ?_
 refine o_aloadN K X3 d22_25 rfl rfl rfl ?_
 refine o_getfield K X3 (host := "") (Or.inl (w37 hw)) Via.refl q2 d22_26 rfl ?_
 intro T4 X4
 refine o_aloadN K X4 d22_29 rfl rfl rfl ?_
 refine o_getfield K X4 (host := "") (Or.inl (w37 hw)) Via.refl q6 d22_30 rfl ?_
 intro T5 X5
 refine o_icmp_ne_f K X5 d22_33 rfl (by decide) ?_
 refine o_aloadN K X5 d22_36 rfl rfl rfl ?_
 refine o_getfield K X5 (host := "") (Or.inl (w39 hw)) Via.refl q1 d22_37 rfl ?_
 intro T6 X6
 refine o_aloadN K X6 d22_40 rfl rfl rfl ?_
 refine o_getfield K X6 (host := "") (Or.inl (w39 hw)) Via.refl q5 d22_41 rfl ?_
 intro T7 X7
 refine o_static K X7  (w124 hw) (w125 hw) (w86 hw) (w126 hw) (by decide) (rm_lateq l Z a0 hw va vo ka ko n x0 x1 m y0 y1 h0 q3 q7 q8 q9 q10 q11 q12 q13) (by decide) rfl (argsL := [.ref va, .ref vo]) rfl (lenOf pd13 rfl) (W := 0) rfl (by decide) (by decide) (by decide) d22_44 rfl ?_
 intro v8 T8 h8 X8 U8
 obtain ⟨rfl, rfl⟩ := U8
 show oGoes pp ee bb ss Z T8 (mkF mm 47 _ [(.int (oSm n x0 x1 m y0 y1))]) _ _ _
 by_cases c47_9 : (oSm n x0 x1 m y0 y1) = (0 : Int32)
 refine o_if_eq_t K X8 d22_47 (by decide) (pc' := 54) (by decide) c47_9 ?_
 refine o_iconst K X8 d22_54 rfl (z := 0) rfl ?_
 refine o_ireturnN K X8 .boolean d22_55 rfl (by simp) (z' := 0) (by decide) ?_ (by decide) (by decide)
 exact ⟨(congrArg (fun z => some (Value.int z)) c47_9.symm), rfl⟩
 refine o_if_eq_f K X8 d22_47 rfl c47_9 ?_
 refine o_iconst K X8 d22_50 rfl (z := 1) rfl ?_
 refine o_goto K X8 d22_51 (by decide) (pc' := 55) (by decide) ?_
 refine o_ireturnN K X8 .boolean d22_55 rfl (by simp) (z' := 1) (by decide) ?_ (by decide) (by decide)
 exact ⟨(congrArg (fun z => some (Value.int z)) ((oSm01 _ _ _ _ _ _).resolve_left c47_9).symm), rfl⟩
theorem d22_5 : decode jdk_42_method_66_code 5 = .ok (.iconst 1, 1) := by decide +kernel
theorem d22_6 : decode jdk_42_method_66_code 6 = .ok (.ireturn, 1) := by decide +kernel
def r_strself : Room := { frames := 0, cells := 0, slots := 0, locals := 0 }
def Q_strself (Z : State) (a : Addr) (h0 : Heap) (v : Option Value) (h : Heap) : Prop := v = some (.int 1) ∧ h0 = h
theorem rm_strself (l : Launch) (Z : State) (a0 : Array Value) (hw : oHw Z a0) (a : Addr) (h0 : Heap) : oMet l Z (⟨z0, "equals", z10⟩ : MethodName) jdk_42_method_66_code 3 (some .boolean) r_strself [] #[.ref a, .ref a] h0 (Q_strself Z a h0) := by
 refine oEnter (plainFor_of_name (by first | (simp [plainName, overriddenIn]; done) | decide +kernel)) (own := z0) (nm := "equals") rfl rfl (L := #[.val (.ref a), .val (.ref a), .unset]) (fun m => by first | (simp [entryFrame, mkF, argsToLocals, Value.category]; done) | rfl) ?_
 intro pp ee ss mm bb mtd cc T0 K X0
 have E0 := X0.ext0
 refine o_aloadN K X0 d22_0 rfl rfl rfl ?_
 refine o_aloadN K X0 d22_1 rfl rfl rfl ?_
 refine o_acmp K X0 true d22_2 (by decide) rfl rfl (decide_eq_true rfl) (pc' := 5) (by decide) ?_
 refine o_iconst K X0 d22_5 rfl (z := 1) rfl ?_
 refine o_ireturnN K X0 .boolean d22_6 rfl (by simp) (z' := 1) (by decide) ?_ (by decide) (by decide)
 exact ⟨rfl, rfl⟩
theorem d23_0 : decode prog_16_method_1_code 0 = .ok (.aload_n 0, 1) := by decide +kernel
theorem d23_1 : decode prog_16_method_1_code 1 = .ok (.invokespecial 3, 3) := by decide +kernel
theorem d23_4 : decode prog_16_method_1_code 4 = .ok (.aload_n 1, 1) := by decide +kernel
theorem d23_5 : decode prog_16_method_1_code 5 = .ok (.invokestatic 9, 3) := by decide +kernel
theorem d23_8 : decode prog_16_method_1_code 8 = .ok (.ifCond .ne 13, 3) := by decide +kernel
theorem d23_21 : decode prog_16_method_1_code 21 = .ok (.aload_n 2, 1) := by decide +kernel
theorem d23_22 : decode prog_16_method_1_code 22 = .ok (.invokestatic 20, 3) := by decide +kernel
theorem d23_25 : decode prog_16_method_1_code 25 = .ok (.ifCond .ne 13, 3) := by decide +kernel
theorem d23_38 : decode prog_16_method_1_code 38 = .ok (.aload_n 0, 1) := by decide +kernel
theorem d23_39 : decode prog_16_method_1_code 39 = .ok (.aload_n 1, 1) := by decide +kernel
theorem d23_40 : decode prog_16_method_1_code 40 = .ok (.putfield 25, 3) := by decide +kernel
theorem d23_43 : decode prog_16_method_1_code 43 = .ok (.aload_n 0, 1) := by decide +kernel
theorem d23_44 : decode prog_16_method_1_code 44 = .ok (.aload_n 2, 1) := by decide +kernel
theorem d23_45 : decode prog_16_method_1_code 45 = .ok (.putfield 29, 3) := by decide +kernel
theorem d23_48 : decode prog_16_method_1_code 48 = .ok (.return_, 1) := by decide +kernel
theorem pd14 : parseMethodDescriptor "()V" = some ⟨[], none⟩ := by decide +kernel
theorem pd15 : parseMethodDescriptor "(Ljava/lang/String;)Z" = some ⟨[(.object z0)], some .boolean⟩ := by decide +kernel
def r_rk11 : Room := { frames := 6, cells := 0, slots := 0, locals := 3086 }
def Q_rk11 (Z : State) (a s vs : Addr) (ks : ClassId) (t vt : Addr) (kt : ClassId) (c0 d0 : Int32) (fm : Value) (cs : Int32) (h0 : Heap) (v : Option Value) (h : Heap) : Prop := v = none ∧ Keep h0 h [a] ∧ Exa Z h a z1 ∧ Fld Z h a z1 "shelf" z2 (.ref s) ∧ Fld Z h a z1 "id" z2 (.ref t)
theorem rm_rk11 (l : Launch) (Z : State) (a0 : Array Value) (hw : oHw Z a0) (a s vs : Addr) (ks : ClassId) (t vt : Addr) (kt : ClassId) (c0 d0 : Int32) (fm : Value) (cs : Int32) (h0 : Heap) (q0 : Exa Z h0 a z1) (q1 : Z.heap.size ≤ a) (q2 : Fld Z h0 a z1 "shelf" z2 .null) (q3 : Fld Z h0 a z1 "id" z2 .null) (q4 : Exa Z h0 s z0) (q5 : Fld Z h0 s z0 "value" "[B" (.ref vs)) (q6 : Fld Z h0 s z0 "coder" "B" (.int 0)) (q7 : oArr Z h0 vs ks .byte [(.int (nar .byte c0))]) (q8 : Exa Z h0 t z0) (q9 : Fld Z h0 t z0 "value" "[B" (.ref vt)) (q10 : Fld Z h0 t z0 "coder" "B" (.int 0)) (q11 : oArr Z h0 vt kt .byte [(.int (nar .byte d0))]) (q12 : oSh c0) (q13 : oId d0) (q14 : oCh c0) (q15 : oCh d0) (q16 : Sta Z Z.heap z3 z5 z6 fm) (q17 : fm.isRef = true) (q18 : Sta Z Z.heap z0 z4 "Z" (.int cs)) (q19 : ¬ (cs = (0 : Int32))) : oMet l Z (⟨z1, "<init>", z8⟩ : MethodName) prog_16_method_1_code 3 none r_rk11 [] #[.ref a, .ref s, .ref t] h0 (Q_rk11 Z a s vs ks t vt kt c0 d0 fm cs h0) := by
 refine oEnter (plainFor_of_name (by first | (simp [plainName, overriddenIn]; done) | decide +kernel)) (own := z1) (nm := "<init>") rfl rfl (L := #[.val (.ref a), .val (.ref s), .val (.ref t)]) (fun m => by first | (simp [entryFrame, mkF, argsToLocals, Value.category, oCatRef q17]; done) | rfl) ?_
 intro pp ee ss mm bb mtd cc T0 K X0
 have E0 := X0.ext0
 refine o_aloadN K X0 d23_0 rfl rfl rfl ?_
 refine o_special K X0 (y := (⟨"java/lang/Record", "<init>", "()V"⟩ : MethodName)) rfl (w44 hw) (w45 hw) (w47 hw) (w48 hw) (by decide) (rm_rec l Z a0 hw a h0) (by decide) rfl (argsL := []) rfl (lenOf pd14 rfl) (W := 0) rfl (by decide) (by decide) (by decide) d23_1 rfl ?_
 intro v1 T1 h1 X1 U1
 obtain ⟨rfl, rfl⟩ := U1
 show oGoes pp ee bb ss Z T1 (mkF mm 4 _ []) _ _ _
 refine o_aloadN K X1 d23_4 rfl rfl rfl ?_
 refine o_static K X1  (w50 hw) (w51 hw) (w11 hw) (w52 hw) (by decide) (rm_is1_oSh l Z a0 hw s vs ks c0 fm cs h0 q4 q5 q6 q7 q12 q14 q16 q17 q18 q19) (by decide) rfl (argsL := [.ref s]) rfl (lenOf pd15 rfl) (W := 0) rfl (by decide) (by decide) (by decide) d23_5 rfl ?_
 intro v2 T2 h2 X2 U2
 obtain ⟨rfl, rfl⟩ := U2
 show oGoes pp ee bb ss Z T2 (mkF mm 8 _ [.int 1]) _ _ _
 refine o_if_ne_t K X2 d23_8 (by decide) (pc' := 21) (by decide) (by decide) ?_
 refine o_aloadN K X2 d23_21 rfl rfl rfl ?_
 refine o_static K X2  (w101 hw) (w102 hw) (w11 hw) (w103 hw) (by decide) (rm_is1_oId l Z a0 hw t vt kt d0 fm cs h0 q8 q9 q10 q11 q13 q15 q16 q17 q18 q19) (by decide) rfl (argsL := [.ref t]) rfl (lenOf pd15 rfl) (W := 0) rfl (by decide) (by decide) (by decide) d23_22 rfl ?_
 intro v3 T3 h3 X3 U3
 obtain ⟨rfl, rfl⟩ := U3
 show oGoes pp ee bb ss Z T3 (mkF mm 25 _ [.int 1]) _ _ _
 refine o_if_ne_t K X3 d23_25 (by decide) (pc' := 38) (by decide) (by decide) ?_
 refine o_aloadN K X3 d23_38 rfl rfl rfl ?_
 refine o_aloadN K X3 d23_39 rfl rfl rfl ?_
 refine o_putfield K X3 (host := "") (Or.inl (w108 hw)) Via.refl q2 q0 (Or.inr ⟨(w109 hw), rfl, rfl⟩) (w10 hw) (ty := (.object z0)) (by decide) rfl rfl q1 d23_40 rfl ?_
 intro T4 h4 X4 W4
 have F4 := Fld.same W4 q2
 refine o_aloadN K X4 d23_43 rfl rfl rfl ?_
 refine o_aloadN K X4 d23_44 rfl rfl rfl ?_
 have m6 := (Fld.other W4 q3 (Or.inr (slot_ne (Or.inr (w111 hw)) (Or.inr (w109 hw)) (by decide) (t := (.object z0)) (t' := (.object z0)) (by decide) (by decide))))
 have m7 := (Exa.wr W4 q0)
 refine o_putfield K X4 (host := "") (Or.inl (w110 hw)) Via.refl m6 m7 (Or.inr ⟨(w111 hw), rfl, rfl⟩) (w10 hw) (ty := (.object z0)) (by decide) rfl rfl q1 d23_45 rfl ?_
 intro T5 h5 X5 W5
 have F5 := Fld.same W5 m6
 refine o_return K X5 d23_48 rfl ?_ (by decide) (by decide)
 have m8 := (Exa.wr W5 m7)
 have m9 := (Fld.other W5 F4 (Or.inr (slot_ne (Or.inr (w109 hw)) (Or.inr (w111 hw)) (by decide) (t := (.object z0)) (t' := (.object z0)) (by decide) (by decide))))
 exact ⟨rfl, (((Keep.refl h0 [a]).wr W4 (Or.inl me0)).wr W5 (Or.inl me0)), m8, m9, F5⟩
def r_rk12 : Room := { frames := 6, cells := 0, slots := 0, locals := 3086 }
def Q_rk12 (Z : State) (a s vs : Addr) (ks : ClassId) (t vt : Addr) (kt : ClassId) (c0 d0 d1 : Int32) (fm : Value) (cs : Int32) (h0 : Heap) (v : Option Value) (h : Heap) : Prop := v = none ∧ Keep h0 h [a] ∧ Exa Z h a z1 ∧ Fld Z h a z1 "shelf" z2 (.ref s) ∧ Fld Z h a z1 "id" z2 (.ref t)
theorem rm_rk12 (l : Launch) (Z : State) (a0 : Array Value) (hw : oHw Z a0) (a s vs : Addr) (ks : ClassId) (t vt : Addr) (kt : ClassId) (c0 d0 d1 : Int32) (fm : Value) (cs : Int32) (h0 : Heap) (q0 : Exa Z h0 a z1) (q1 : Z.heap.size ≤ a) (q2 : Fld Z h0 a z1 "shelf" z2 .null) (q3 : Fld Z h0 a z1 "id" z2 .null) (q4 : Exa Z h0 s z0) (q5 : Fld Z h0 s z0 "value" "[B" (.ref vs)) (q6 : Fld Z h0 s z0 "coder" "B" (.int 0)) (q7 : oArr Z h0 vs ks .byte [(.int (nar .byte c0))]) (q8 : Exa Z h0 t z0) (q9 : Fld Z h0 t z0 "value" "[B" (.ref vt)) (q10 : Fld Z h0 t z0 "coder" "B" (.int 0)) (q11 : oArr Z h0 vt kt .byte [(.int (nar .byte d0)), (.int (nar .byte d1))]) (q12 : oSh c0) (q13 : oId d0) (q14 : oId d1) (q15 : oCh c0) (q16 : oCh d0) (q17 : oCh d1) (q18 : Sta Z Z.heap z3 z5 z6 fm) (q19 : fm.isRef = true) (q20 : Sta Z Z.heap z0 z4 "Z" (.int cs)) (q21 : ¬ (cs = (0 : Int32))) : oMet l Z (⟨z1, "<init>", z8⟩ : MethodName) prog_16_method_1_code 3 none r_rk12 [] #[.ref a, .ref s, .ref t] h0 (Q_rk12 Z a s vs ks t vt kt c0 d0 d1 fm cs h0) := by
 refine oEnter (plainFor_of_name (by first | (simp [plainName, overriddenIn]; done) | decide +kernel)) (own := z1) (nm := "<init>") rfl rfl (L := #[.val (.ref a), .val (.ref s), .val (.ref t)]) (fun m => by first | (simp [entryFrame, mkF, argsToLocals, Value.category, oCatRef q19]; done) | rfl) ?_
 intro pp ee ss mm bb mtd cc T0 K X0
 have E0 := X0.ext0
 refine o_aloadN K X0 d23_0 rfl rfl rfl ?_
 refine o_special K X0 (y := (⟨"java/lang/Record", "<init>", "()V"⟩ : MethodName)) rfl (w44 hw) (w45 hw) (w47 hw) (w48 hw) (by decide) (rm_rec l Z a0 hw a h0) (by decide) rfl (argsL := []) rfl (lenOf pd14 rfl) (W := 0) rfl (by decide) (by decide) (by decide) d23_1 rfl ?_
 intro v1 T1 h1 X1 U1
 obtain ⟨rfl, rfl⟩ := U1
 show oGoes pp ee bb ss Z T1 (mkF mm 4 _ []) _ _ _
 refine o_aloadN K X1 d23_4 rfl rfl rfl ?_
 refine o_static K X1  (w50 hw) (w51 hw) (w11 hw) (w52 hw) (by decide) (rm_is1_oSh l Z a0 hw s vs ks c0 fm cs h0 q4 q5 q6 q7 q12 q15 q18 q19 q20 q21) (by decide) rfl (argsL := [.ref s]) rfl (lenOf pd15 rfl) (W := 0) rfl (by decide) (by decide) (by decide) d23_5 rfl ?_
 intro v2 T2 h2 X2 U2
 obtain ⟨rfl, rfl⟩ := U2
 show oGoes pp ee bb ss Z T2 (mkF mm 8 _ [.int 1]) _ _ _
 refine o_if_ne_t K X2 d23_8 (by decide) (pc' := 21) (by decide) (by decide) ?_
 refine o_aloadN K X2 d23_21 rfl rfl rfl ?_
 refine o_static K X2  (w101 hw) (w102 hw) (w11 hw) (w103 hw) (by decide) (rm_is2_oId l Z a0 hw t vt kt d0 d1 fm cs h0 q8 q9 q10 q11 q13 q14 q16 q17 q18 q19 q20 q21) (by decide) rfl (argsL := [.ref t]) rfl (lenOf pd15 rfl) (W := 0) rfl (by decide) (by decide) (by decide) d23_22 rfl ?_
 intro v3 T3 h3 X3 U3
 obtain ⟨rfl, rfl⟩ := U3
 show oGoes pp ee bb ss Z T3 (mkF mm 25 _ [.int 1]) _ _ _
 refine o_if_ne_t K X3 d23_25 (by decide) (pc' := 38) (by decide) (by decide) ?_
 refine o_aloadN K X3 d23_38 rfl rfl rfl ?_
 refine o_aloadN K X3 d23_39 rfl rfl rfl ?_
 refine o_putfield K X3 (host := "") (Or.inl (w108 hw)) Via.refl q2 q0 (Or.inr ⟨(w109 hw), rfl, rfl⟩) (w10 hw) (ty := (.object z0)) (by decide) rfl rfl q1 d23_40 rfl ?_
 intro T4 h4 X4 W4
 have F4 := Fld.same W4 q2
 refine o_aloadN K X4 d23_43 rfl rfl rfl ?_
 refine o_aloadN K X4 d23_44 rfl rfl rfl ?_
 have m6 := (Fld.other W4 q3 (Or.inr (slot_ne (Or.inr (w111 hw)) (Or.inr (w109 hw)) (by decide) (t := (.object z0)) (t' := (.object z0)) (by decide) (by decide))))
 have m7 := (Exa.wr W4 q0)
 refine o_putfield K X4 (host := "") (Or.inl (w110 hw)) Via.refl m6 m7 (Or.inr ⟨(w111 hw), rfl, rfl⟩) (w10 hw) (ty := (.object z0)) (by decide) rfl rfl q1 d23_45 rfl ?_
 intro T5 h5 X5 W5
 have F5 := Fld.same W5 m6
 refine o_return K X5 d23_48 rfl ?_ (by decide) (by decide)
 have m8 := (Exa.wr W5 m7)
 have m9 := (Fld.other W5 F4 (Or.inr (slot_ne (Or.inr (w109 hw)) (Or.inr (w111 hw)) (by decide) (t := (.object z0)) (t' := (.object z0)) (by decide) (by decide))))
 exact ⟨rfl, (((Keep.refl h0 [a]).wr W4 (Or.inl me0)).wr W5 (Or.inl me0)), m8, m9, F5⟩
def r_rk21 : Room := { frames := 6, cells := 0, slots := 0, locals := 3086 }
def Q_rk21 (Z : State) (a s vs : Addr) (ks : ClassId) (t vt : Addr) (kt : ClassId) (c0 c1 d0 : Int32) (fm : Value) (cs : Int32) (h0 : Heap) (v : Option Value) (h : Heap) : Prop := v = none ∧ Keep h0 h [a] ∧ Exa Z h a z1 ∧ Fld Z h a z1 "shelf" z2 (.ref s) ∧ Fld Z h a z1 "id" z2 (.ref t)
theorem rm_rk21 (l : Launch) (Z : State) (a0 : Array Value) (hw : oHw Z a0) (a s vs : Addr) (ks : ClassId) (t vt : Addr) (kt : ClassId) (c0 c1 d0 : Int32) (fm : Value) (cs : Int32) (h0 : Heap) (q0 : Exa Z h0 a z1) (q1 : Z.heap.size ≤ a) (q2 : Fld Z h0 a z1 "shelf" z2 .null) (q3 : Fld Z h0 a z1 "id" z2 .null) (q4 : Exa Z h0 s z0) (q5 : Fld Z h0 s z0 "value" "[B" (.ref vs)) (q6 : Fld Z h0 s z0 "coder" "B" (.int 0)) (q7 : oArr Z h0 vs ks .byte [(.int (nar .byte c0)), (.int (nar .byte c1))]) (q8 : Exa Z h0 t z0) (q9 : Fld Z h0 t z0 "value" "[B" (.ref vt)) (q10 : Fld Z h0 t z0 "coder" "B" (.int 0)) (q11 : oArr Z h0 vt kt .byte [(.int (nar .byte d0))]) (q12 : oSh c0) (q13 : oSh c1) (q14 : oId d0) (q15 : oCh c0) (q16 : oCh c1) (q17 : oCh d0) (q18 : Sta Z Z.heap z3 z5 z6 fm) (q19 : fm.isRef = true) (q20 : Sta Z Z.heap z0 z4 "Z" (.int cs)) (q21 : ¬ (cs = (0 : Int32))) : oMet l Z (⟨z1, "<init>", z8⟩ : MethodName) prog_16_method_1_code 3 none r_rk21 [] #[.ref a, .ref s, .ref t] h0 (Q_rk21 Z a s vs ks t vt kt c0 c1 d0 fm cs h0) := by
 refine oEnter (plainFor_of_name (by first | (simp [plainName, overriddenIn]; done) | decide +kernel)) (own := z1) (nm := "<init>") rfl rfl (L := #[.val (.ref a), .val (.ref s), .val (.ref t)]) (fun m => by first | (simp [entryFrame, mkF, argsToLocals, Value.category, oCatRef q19]; done) | rfl) ?_
 intro pp ee ss mm bb mtd cc T0 K X0
 have E0 := X0.ext0
 refine o_aloadN K X0 d23_0 rfl rfl rfl ?_
 refine o_special K X0 (y := (⟨"java/lang/Record", "<init>", "()V"⟩ : MethodName)) rfl (w44 hw) (w45 hw) (w47 hw) (w48 hw) (by decide) (rm_rec l Z a0 hw a h0) (by decide) rfl (argsL := []) rfl (lenOf pd14 rfl) (W := 0) rfl (by decide) (by decide) (by decide) d23_1 rfl ?_
 intro v1 T1 h1 X1 U1
 obtain ⟨rfl, rfl⟩ := U1
 show oGoes pp ee bb ss Z T1 (mkF mm 4 _ []) _ _ _
 refine o_aloadN K X1 d23_4 rfl rfl rfl ?_
 refine o_static K X1  (w50 hw) (w51 hw) (w11 hw) (w52 hw) (by decide) (rm_is2_oSh l Z a0 hw s vs ks c0 c1 fm cs h0 q4 q5 q6 q7 q12 q13 q15 q16 q18 q19 q20 q21) (by decide) rfl (argsL := [.ref s]) rfl (lenOf pd15 rfl) (W := 0) rfl (by decide) (by decide) (by decide) d23_5 rfl ?_
 intro v2 T2 h2 X2 U2
 obtain ⟨rfl, rfl⟩ := U2
 show oGoes pp ee bb ss Z T2 (mkF mm 8 _ [.int 1]) _ _ _
 refine o_if_ne_t K X2 d23_8 (by decide) (pc' := 21) (by decide) (by decide) ?_
 refine o_aloadN K X2 d23_21 rfl rfl rfl ?_
 refine o_static K X2  (w101 hw) (w102 hw) (w11 hw) (w103 hw) (by decide) (rm_is1_oId l Z a0 hw t vt kt d0 fm cs h0 q8 q9 q10 q11 q14 q17 q18 q19 q20 q21) (by decide) rfl (argsL := [.ref t]) rfl (lenOf pd15 rfl) (W := 0) rfl (by decide) (by decide) (by decide) d23_22 rfl ?_
 intro v3 T3 h3 X3 U3
 obtain ⟨rfl, rfl⟩ := U3
 show oGoes pp ee bb ss Z T3 (mkF mm 25 _ [.int 1]) _ _ _
 refine o_if_ne_t K X3 d23_25 (by decide) (pc' := 38) (by decide) (by decide) ?_
 refine o_aloadN K X3 d23_38 rfl rfl rfl ?_
 refine o_aloadN K X3 d23_39 rfl rfl rfl ?_
 refine o_putfield K X3 (host := "") (Or.inl (w108 hw)) Via.refl q2 q0 (Or.inr ⟨(w109 hw), rfl, rfl⟩) (w10 hw) (ty := (.object z0)) (by decide) rfl rfl q1 d23_40 rfl ?_
 intro T4 h4 X4 W4
 have F4 := Fld.same W4 q2
 refine o_aloadN K X4 d23_43 rfl rfl rfl ?_
 refine o_aloadN K X4 d23_44 rfl rfl rfl ?_
 have m6 := (Fld.other W4 q3 (Or.inr (slot_ne (Or.inr (w111 hw)) (Or.inr (w109 hw)) (by decide) (t := (.object z0)) (t' := (.object z0)) (by decide) (by decide))))
 have m7 := (Exa.wr W4 q0)
 refine o_putfield K X4 (host := "") (Or.inl (w110 hw)) Via.refl m6 m7 (Or.inr ⟨(w111 hw), rfl, rfl⟩) (w10 hw) (ty := (.object z0)) (by decide) rfl rfl q1 d23_45 rfl ?_
 intro T5 h5 X5 W5
 have F5 := Fld.same W5 m6
 refine o_return K X5 d23_48 rfl ?_ (by decide) (by decide)
 have m8 := (Exa.wr W5 m7)
 have m9 := (Fld.other W5 F4 (Or.inr (slot_ne (Or.inr (w109 hw)) (Or.inr (w111 hw)) (by decide) (t := (.object z0)) (t' := (.object z0)) (by decide) (by decide))))
 exact ⟨rfl, (((Keep.refl h0 [a]).wr W4 (Or.inl me0)).wr W5 (Or.inl me0)), m8, m9, F5⟩
def r_rk22 : Room := { frames := 6, cells := 0, slots := 0, locals := 3086 }
def Q_rk22 (Z : State) (a s vs : Addr) (ks : ClassId) (t vt : Addr) (kt : ClassId) (c0 c1 d0 d1 : Int32) (fm : Value) (cs : Int32) (h0 : Heap) (v : Option Value) (h : Heap) : Prop := v = none ∧ Keep h0 h [a] ∧ Exa Z h a z1 ∧ Fld Z h a z1 "shelf" z2 (.ref s) ∧ Fld Z h a z1 "id" z2 (.ref t)
theorem rm_rk22 (l : Launch) (Z : State) (a0 : Array Value) (hw : oHw Z a0) (a s vs : Addr) (ks : ClassId) (t vt : Addr) (kt : ClassId) (c0 c1 d0 d1 : Int32) (fm : Value) (cs : Int32) (h0 : Heap) (q0 : Exa Z h0 a z1) (q1 : Z.heap.size ≤ a) (q2 : Fld Z h0 a z1 "shelf" z2 .null) (q3 : Fld Z h0 a z1 "id" z2 .null) (q4 : Exa Z h0 s z0) (q5 : Fld Z h0 s z0 "value" "[B" (.ref vs)) (q6 : Fld Z h0 s z0 "coder" "B" (.int 0)) (q7 : oArr Z h0 vs ks .byte [(.int (nar .byte c0)), (.int (nar .byte c1))]) (q8 : Exa Z h0 t z0) (q9 : Fld Z h0 t z0 "value" "[B" (.ref vt)) (q10 : Fld Z h0 t z0 "coder" "B" (.int 0)) (q11 : oArr Z h0 vt kt .byte [(.int (nar .byte d0)), (.int (nar .byte d1))]) (q12 : oSh c0) (q13 : oSh c1) (q14 : oId d0) (q15 : oId d1) (q16 : oCh c0) (q17 : oCh c1) (q18 : oCh d0) (q19 : oCh d1) (q20 : Sta Z Z.heap z3 z5 z6 fm) (q21 : fm.isRef = true) (q22 : Sta Z Z.heap z0 z4 "Z" (.int cs)) (q23 : ¬ (cs = (0 : Int32))) : oMet l Z (⟨z1, "<init>", z8⟩ : MethodName) prog_16_method_1_code 3 none r_rk22 [] #[.ref a, .ref s, .ref t] h0 (Q_rk22 Z a s vs ks t vt kt c0 c1 d0 d1 fm cs h0) := by
 refine oEnter (plainFor_of_name (by first | (simp [plainName, overriddenIn]; done) | decide +kernel)) (own := z1) (nm := "<init>") rfl rfl (L := #[.val (.ref a), .val (.ref s), .val (.ref t)]) (fun m => by first | (simp [entryFrame, mkF, argsToLocals, Value.category, oCatRef q21]; done) | rfl) ?_
 intro pp ee ss mm bb mtd cc T0 K X0
 have E0 := X0.ext0
 refine o_aloadN K X0 d23_0 rfl rfl rfl ?_
 refine o_special K X0 (y := (⟨"java/lang/Record", "<init>", "()V"⟩ : MethodName)) rfl (w44 hw) (w45 hw) (w47 hw) (w48 hw) (by decide) (rm_rec l Z a0 hw a h0) (by decide) rfl (argsL := []) rfl (lenOf pd14 rfl) (W := 0) rfl (by decide) (by decide) (by decide) d23_1 rfl ?_
 intro v1 T1 h1 X1 U1
 obtain ⟨rfl, rfl⟩ := U1
 show oGoes pp ee bb ss Z T1 (mkF mm 4 _ []) _ _ _
 refine o_aloadN K X1 d23_4 rfl rfl rfl ?_
 refine o_static K X1  (w50 hw) (w51 hw) (w11 hw) (w52 hw) (by decide) (rm_is2_oSh l Z a0 hw s vs ks c0 c1 fm cs h0 q4 q5 q6 q7 q12 q13 q16 q17 q20 q21 q22 q23) (by decide) rfl (argsL := [.ref s]) rfl (lenOf pd15 rfl) (W := 0) rfl (by decide) (by decide) (by decide) d23_5 rfl ?_
 intro v2 T2 h2 X2 U2
 obtain ⟨rfl, rfl⟩ := U2
 show oGoes pp ee bb ss Z T2 (mkF mm 8 _ [.int 1]) _ _ _
 refine o_if_ne_t K X2 d23_8 (by decide) (pc' := 21) (by decide) (by decide) ?_
 refine o_aloadN K X2 d23_21 rfl rfl rfl ?_
 refine o_static K X2  (w101 hw) (w102 hw) (w11 hw) (w103 hw) (by decide) (rm_is2_oId l Z a0 hw t vt kt d0 d1 fm cs h0 q8 q9 q10 q11 q14 q15 q18 q19 q20 q21 q22 q23) (by decide) rfl (argsL := [.ref t]) rfl (lenOf pd15 rfl) (W := 0) rfl (by decide) (by decide) (by decide) d23_22 rfl ?_
 intro v3 T3 h3 X3 U3
 obtain ⟨rfl, rfl⟩ := U3
 show oGoes pp ee bb ss Z T3 (mkF mm 25 _ [.int 1]) _ _ _
 refine o_if_ne_t K X3 d23_25 (by decide) (pc' := 38) (by decide) (by decide) ?_
 refine o_aloadN K X3 d23_38 rfl rfl rfl ?_
 refine o_aloadN K X3 d23_39 rfl rfl rfl ?_
 refine o_putfield K X3 (host := "") (Or.inl (w108 hw)) Via.refl q2 q0 (Or.inr ⟨(w109 hw), rfl, rfl⟩) (w10 hw) (ty := (.object z0)) (by decide) rfl rfl q1 d23_40 rfl ?_
 intro T4 h4 X4 W4
 have F4 := Fld.same W4 q2
 refine o_aloadN K X4 d23_43 rfl rfl rfl ?_
 refine o_aloadN K X4 d23_44 rfl rfl rfl ?_
 have m6 := (Fld.other W4 q3 (Or.inr (slot_ne (Or.inr (w111 hw)) (Or.inr (w109 hw)) (by decide) (t := (.object z0)) (t' := (.object z0)) (by decide) (by decide))))
 have m7 := (Exa.wr W4 q0)
 refine o_putfield K X4 (host := "") (Or.inl (w110 hw)) Via.refl m6 m7 (Or.inr ⟨(w111 hw), rfl, rfl⟩) (w10 hw) (ty := (.object z0)) (by decide) rfl rfl q1 d23_45 rfl ?_
 intro T5 h5 X5 W5
 have F5 := Fld.same W5 m6
 refine o_return K X5 d23_48 rfl ?_ (by decide) (by decide)
 have m8 := (Exa.wr W5 m7)
 have m9 := (Fld.other W5 F4 (Or.inr (slot_ne (Or.inr (w109 hw)) (Or.inr (w111 hw)) (by decide) (t := (.object z0)) (t' := (.object z0)) (by decide) (by decide))))
 exact ⟨rfl, (((Keep.refl h0 [a]).wr W4 (Or.inl me0)).wr W5 (Or.inl me0)), m8, m9, F5⟩
theorem d24_0 : decode prog_16_method_2_code 0 = .ok (.aload_n 1, 1) := by decide +kernel
theorem d24_1 : decode prog_16_method_2_code 1 = .ok (.instanceof 1, 3) := by decide +kernel
theorem d24_4 : decode prog_16_method_2_code 4 = .ok (.ifCond .eq 40, 3) := by decide +kernel
theorem d24_44 : decode prog_16_method_2_code 44 = .ok (.iconst 0, 1) := by decide +kernel
theorem d24_45 : decode prog_16_method_2_code 45 = .ok (.ireturn, 1) := by decide +kernel
def r_eqnull : Room := { frames := 0, cells := 0, slots := 0, locals := 0 }
def Q_eqnull (Z : State) (a : Addr) (h0 : Heap) (v : Option Value) (h : Heap) : Prop := v = some (.int 0) ∧ h0 = h
theorem rm_eqnull (l : Launch) (Z : State) (a0 : Array Value) (hw : oHw Z a0) (a : Addr) (h0 : Heap) : oMet l Z (⟨z1, "equals", z10⟩ : MethodName) prog_16_method_2_code 3 (some .boolean) r_eqnull [] #[.ref a, .null] h0 (Q_eqnull Z a h0) := by
 refine oEnter (plainFor_of_name (by first | (simp [plainName, overriddenIn]; done) | decide +kernel)) (own := z1) (nm := "equals") rfl rfl (L := #[.val (.ref a), .val .null, .unset]) (fun m => by first | (simp [entryFrame, mkF, argsToLocals, Value.category]; done) | rfl) ?_
 intro pp ee ss mm bb mtd cc T0 K X0
 have E0 := X0.ext0
 refine o_aloadN K X0 d24_0 rfl rfl rfl ?_
 refine o_instanceofNull K X0 d24_1 rfl ?_
 refine o_if_eq_t K X0 d24_4 (by decide) (pc' := 44) (by decide) (by decide) ?_
 refine o_iconst K X0 d24_44 rfl (z := 0) rfl ?_
 refine o_ireturnN K X0 .boolean d24_45 rfl (by simp) (z' := 0) (by decide) ?_ (by decide) (by decide)
 exact ⟨rfl, rfl⟩
def r_eqstr : Room := { frames := 0, cells := 0, slots := 0, locals := 0 }
def Q_eqstr (Z : State) (a o : Addr) (h0 : Heap) (v : Option Value) (h : Heap) : Prop := v = some (.int 0) ∧ h0 = h
theorem rm_eqstr (l : Launch) (Z : State) (a0 : Array Value) (hw : oHw Z a0) (a o : Addr) (h0 : Heap) (q0 : Exa Z h0 o z0) : oMet l Z (⟨z1, "equals", z10⟩ : MethodName) prog_16_method_2_code 3 (some .boolean) r_eqstr [] #[.ref a, .ref o] h0 (Q_eqstr Z a o h0) := by
 refine oEnter (plainFor_of_name (by first | (simp [plainName, overriddenIn]; done) | decide +kernel)) (own := z1) (nm := "equals") rfl rfl (L := #[.val (.ref a), .val (.ref o), .unset]) (fun m => by first | (simp [entryFrame, mkF, argsToLocals, Value.category]; done) | rfl) ?_
 intro pp ee ss mm bb mtd cc T0 K X0
 have E0 := X0.ext0
 refine o_aloadN K X0 d24_0 rfl rfl rfl ?_
 refine o_instanceofNo K X0 (w117 hw) q0 (oNSno (w127 hw) (w10 hw) (NS.step (w127 hw) (oNSroot (w128 hw) (w10 hw) (by decide)) (by decide)) (by decide)) d24_1 rfl ?_
 intro T1 X1
 refine o_if_eq_t K X1 d24_4 (by decide) (pc' := 44) (by decide) (by decide) ?_
 refine o_iconst K X1 d24_44 rfl (z := 0) rfl ?_
 refine o_ireturnN K X1 .boolean d24_45 rfl (by simp) (z' := 0) (by decide) ?_ (by decide) (by decide)
 exact ⟨rfl, rfl⟩
theorem d24_7 : decode prog_16_method_2_code 7 = .ok (.aload_n 1, 1) := by decide +kernel
theorem d24_8 : decode prog_16_method_2_code 8 = .ok (.checkcast 1, 3) := by decide +kernel
theorem d24_11 : decode prog_16_method_2_code 11 = .ok (.astore_n 2, 1) := by decide +kernel
theorem d24_12 : decode prog_16_method_2_code 12 = .ok (.aload_n 0, 1) := by decide +kernel
theorem d24_13 : decode prog_16_method_2_code 13 = .ok (.getfield 25, 3) := by decide +kernel
theorem d24_16 : decode prog_16_method_2_code 16 = .ok (.aload_n 2, 1) := by decide +kernel
theorem d24_17 : decode prog_16_method_2_code 17 = .ok (.getfield 25, 3) := by decide +kernel
theorem d24_20 : decode prog_16_method_2_code 20 = .ok (.invokevirtual 32, 3) := by decide +kernel
theorem d24_23 : decode prog_16_method_2_code 23 = .ok (.ifCond .eq 21, 3) := by decide +kernel
theorem d24_26 : decode prog_16_method_2_code 26 = .ok (.aload_n 0, 1) := by decide +kernel
theorem d24_27 : decode prog_16_method_2_code 27 = .ok (.getfield 29, 3) := by decide +kernel
theorem d24_30 : decode prog_16_method_2_code 30 = .ok (.aload_n 2, 1) := by decide +kernel
theorem d24_31 : decode prog_16_method_2_code 31 = .ok (.getfield 29, 3) := by decide +kernel
theorem d24_34 : decode prog_16_method_2_code 34 = .ok (.invokevirtual 32, 3) := by decide +kernel
theorem d24_37 : decode prog_16_method_2_code 37 = .ok (.ifCond .eq 7, 3) := by decide +kernel
theorem d24_40 : decode prog_16_method_2_code 40 = .ok (.iconst 1, 1) := by decide +kernel
theorem d24_41 : decode prog_16_method_2_code 41 = .ok (.goto 4, 3) := by decide +kernel
theorem pd16 : parseMethodDescriptor z10 = some ⟨[(.object "java/lang/Object")], some .boolean⟩ := by decide +kernel
def r_eqself : Room := { frames := 1, cells := 0, slots := 0, locals := 14 }
def Q_eqself (Z : State) (a s t : Addr) (h0 : Heap) (v : Option Value) (h : Heap) : Prop := v = some (.int 1) ∧ h0 = h
theorem rm_eqself (l : Launch) (Z : State) (a0 : Array Value) (hw : oHw Z a0) (a s t : Addr) (h0 : Heap) (q0 : Exa Z h0 a z1) (q1 : Fld Z h0 a z1 "shelf" z2 (.ref s)) (q2 : Fld Z h0 a z1 "id" z2 (.ref t)) (q3 : Exa Z h0 s z0) (q4 : Exa Z h0 t z0) : oMet l Z (⟨z1, "equals", z10⟩ : MethodName) prog_16_method_2_code 3 (some .boolean) r_eqself [] #[.ref a, .ref a] h0 (Q_eqself Z a s t h0) := by
 refine oEnter (plainFor_of_name (by first | (simp [plainName, overriddenIn]; done) | decide +kernel)) (own := z1) (nm := "equals") rfl rfl (L := #[.val (.ref a), .val (.ref a), .unset]) (fun m => by first | (simp [entryFrame, mkF, argsToLocals, Value.category]; done) | rfl) ?_
 intro pp ee ss mm bb mtd cc T0 K X0
 have E0 := X0.ext0
 refine o_aloadN K X0 d24_0 rfl rfl rfl ?_
 refine o_instanceof K X0 (w117 hw) (Ins.self q0) d24_1 rfl ?_
 intro T1 X1
 refine o_if_eq_f K X1 d24_4 rfl (by decide) ?_
 refine o_aloadN K X1 d24_7 rfl rfl rfl ?_
 refine o_checkcast K X1 (w117 hw) (Ins.self q0) d24_8 rfl ?_
 intro T2 X2
 refine o_astoreN K X2 d24_11 rfl rfl (L' := #[vR a, vR a, vR a]) rfl ?_
 refine o_aloadN K X2 d24_12 rfl rfl rfl ?_
 refine o_getfield K X2 (host := "") (Or.inl (w108 hw)) Via.refl q1 d24_13 rfl ?_
 intro T3 X3
 refine o_aloadN K X3 d24_16 rfl rfl rfl ?_
 refine o_getfield K X3 (host := "") (Or.inl (w108 hw)) Via.refl q1 d24_17 rfl ?_
 intro T4 X4
 refine o_virtual K X4   (w118 hw) (w119 hw) (oNF (w121 hw)) (w121 hw) (w120 hw) (w14 hw) (w122 hw) (by decide) q3 (rm_strself l Z a0 hw s h0) (by decide) rfl (argsL := [.ref s]) rfl (lenOf pd16 rfl) (W := 0) rfl (by decide) (by decide) (by decide) d24_20 rfl ?_
 intro v5 T5 h5 X5 U5
 obtain ⟨rfl, rfl⟩ := U5
 show oGoes pp ee bb ss Z T5 (mkF mm 23 _ [.int 1]) _ _ _
 refine o_if_eq_f K X5 d24_23 rfl (by decide) ?_
 refine o_aloadN K X5 d24_26 rfl rfl rfl ?_
 refine o_getfield K X5 (host := "") (Or.inl (w110 hw)) Via.refl q2 d24_27 rfl ?_
 intro T6 X6
 refine o_aloadN K X6 d24_30 rfl rfl rfl ?_
 refine o_getfield K X6 (host := "") (Or.inl (w110 hw)) Via.refl q2 d24_31 rfl ?_
 intro T7 X7
 refine o_virtual K X7   (w118 hw) (w119 hw) (oNF (w121 hw)) (w121 hw) (w120 hw) (w14 hw) (w122 hw) (by decide) q4 (rm_strself l Z a0 hw t h0) (by decide) rfl (argsL := [.ref t]) rfl (lenOf pd16 rfl) (W := 0) rfl (by decide) (by decide) (by decide) d24_34 rfl ?_
 intro v8 T8 h8 X8 U8
 obtain ⟨rfl, rfl⟩ := U8
 show oGoes pp ee bb ss Z T8 (mkF mm 37 _ [.int 1]) _ _ _
 refine o_if_eq_f K X8 d24_37 rfl (by decide) ?_
 refine o_iconst K X8 d24_40 rfl (z := 1) rfl ?_
 refine o_goto K X8 d24_41 (by decide) (pc' := 45) (by decide) ?_
 refine o_ireturnN K X8 .boolean d24_45 rfl (by simp) (z' := 1) (by decide) ?_ (by decide) (by decide)
 exact ⟨rfl, rfl⟩
def r_eq00 : Room := { frames := 2, cells := 0, slots := 0, locals := 28 }
def Q_eq00 (Z : State) (a o su1 vu1 : Addr) (ku1 : ClassId) (su2 vu2 : Addr) (ku2 : ClassId) (su3 vu3 : Addr) (ku3 : ClassId) (su4 vu4 : Addr) (ku4 : ClassId) (ln1 ln2 ln3 ln4 ca cb da db ua ub ya yb cs : Int32) (h0 : Heap) (v : Option Value) (h : Heap) : Prop := v = some (.int 0) ∧ h0 = h
theorem rm_eq00 (l : Launch) (Z : State) (a0 : Array Value) (hw : oHw Z a0) (a o su1 vu1 : Addr) (ku1 : ClassId) (su2 vu2 : Addr) (ku2 : ClassId) (su3 vu3 : Addr) (ku3 : ClassId) (su4 vu4 : Addr) (ku4 : ClassId) (ln1 ln2 ln3 ln4 ca cb da db ua ub ya yb cs : Int32) (h0 : Heap) (q0 : Exa Z h0 a z1) (q1 : Fld Z h0 a z1 "shelf" z2 (.ref su1)) (q2 : Fld Z h0 a z1 "id" z2 (.ref su2)) (q3 : Exa Z h0 o z1) (q4 : Fld Z h0 o z1 "shelf" z2 (.ref su3)) (q5 : Fld Z h0 o z1 "id" z2 (.ref su4)) (q6 : Exa Z h0 su1 z0) (q7 : Fld Z h0 su1 z0 "value" "[B" (.ref vu1)) (q8 : Fld Z h0 su1 z0 "coder" "B" (.int 0)) (q9 : oArr Z h0 vu1 ku1 .byte (oBy ln1 ca cb)) (q10 : Exa Z h0 su2 z0) (q11 : Fld Z h0 su2 z0 "value" "[B" (.ref vu2)) (q12 : Fld Z h0 su2 z0 "coder" "B" (.int 0)) (q13 : oArr Z h0 vu2 ku2 .byte (oBy ln2 da db)) (q14 : Exa Z h0 su3 z0) (q15 : Fld Z h0 su3 z0 "value" "[B" (.ref vu3)) (q16 : Fld Z h0 su3 z0 "coder" "B" (.int 0)) (q17 : oArr Z h0 vu3 ku3 .byte (oBy ln3 ua ub)) (q18 : Exa Z h0 su4 z0) (q19 : Fld Z h0 su4 z0 "value" "[B" (.ref vu4)) (q20 : Fld Z h0 su4 z0 "coder" "B" (.int 0)) (q21 : oArr Z h0 vu4 ku4 .byte (oBy ln4 ya yb)) (q22 : oL ln1) (q23 : oL ln2) (q24 : oL ln3) (q25 : oL ln4) (q26 : oCh ca) (q27 : oCh cb) (q28 : oCh da) (q29 : oCh db) (q30 : oCh ua) (q31 : oCh ub) (q32 : oCh ya) (q33 : oCh yb) (q34 : su1 ≠ su3) (q35 : su2 ≠ su4) (q36 : (oSm ln1 ca cb ln3 ua ub) = (0 : Int32)) (q37 : (oSm ln2 da db ln4 ya yb) = (0 : Int32)) (q38 : Sta Z Z.heap z0 z4 "Z" (.int cs)) (q39 : ¬ (cs = (0 : Int32))) : oMet l Z (⟨z1, "equals", z10⟩ : MethodName) prog_16_method_2_code 3 (some .boolean) r_eq00 [] #[.ref a, .ref o] h0 (Q_eq00 Z a o su1 vu1 ku1 su2 vu2 ku2 su3 vu3 ku3 su4 vu4 ku4 ln1 ln2 ln3 ln4 ca cb da db ua ub ya yb cs h0) := by
 refine oEnter (plainFor_of_name (by first | (simp [plainName, overriddenIn]; done) | decide +kernel)) (own := z1) (nm := "equals") rfl rfl (L := #[.val (.ref a), .val (.ref o), .unset]) (fun m => by first | (simp [entryFrame, mkF, argsToLocals, Value.category]; done) | rfl) ?_
 intro pp ee ss mm bb mtd cc T0 K X0
 have E0 := X0.ext0
 refine o_aloadN K X0 d24_0 rfl rfl rfl ?_
 refine o_instanceof K X0 (w117 hw) (Ins.self q3) d24_1 rfl ?_
 intro T1 X1
 refine o_if_eq_f K X1 d24_4 rfl (by decide) ?_
 refine o_aloadN K X1 d24_7 rfl rfl rfl ?_
 refine o_checkcast K X1 (w117 hw) (Ins.self q3) d24_8 rfl ?_
 intro T2 X2
 refine o_astoreN K X2 d24_11 rfl rfl (L' := #[vR a, vR o, vR o]) rfl ?_
 refine o_aloadN K X2 d24_12 rfl rfl rfl ?_
 refine o_getfield K X2 (host := "") (Or.inl (w108 hw)) Via.refl q1 d24_13 rfl ?_
 intro T3 X3
 refine o_aloadN K X3 d24_16 rfl rfl rfl ?_
 refine o_getfield K X3 (host := "") (Or.inl (w108 hw)) Via.refl q4 d24_17 rfl ?_
 intro T4 X4
 refine o_virtual K X4   (w118 hw) (w119 hw) (oNF (w121 hw)) (w121 hw) (w120 hw) (w14 hw) (w122 hw) (by decide) q6 (rm_streq l Z a0 hw su1 su3 vu1 vu3 ku1 ku3 ln1 ca cb ln3 ua ub cs h0 q6 q7 q8 q9 q14 q15 q16 q17 q22 q24 q26 q27 q30 q31 q38 q39 q34) (by decide) rfl (argsL := [.ref su3]) rfl (lenOf pd16 rfl) (W := 0) rfl (by decide) (by decide) (by decide) d24_20 rfl ?_
 intro v5 T5 h5 X5 U5
 obtain ⟨rfl, rfl⟩ := U5
 show oGoes pp ee bb ss Z T5 (mkF mm 23 _ [(.int (oSm ln1 ca cb ln3 ua ub))]) _ _ _
 refine o_if_eq_t K X5 d24_23 (by decide) (pc' := 44) (by decide) q36 ?_
 refine o_iconst K X5 d24_44 rfl (z := 0) rfl ?_
 refine o_ireturnN K X5 .boolean d24_45 rfl (by simp) (z' := 0) (by decide) ?_ (by decide) (by decide)
 exact ⟨rfl, rfl⟩
def r_eq01 : Room := { frames := 2, cells := 0, slots := 0, locals := 28 }
def Q_eq01 (Z : State) (a o su1 vu1 : Addr) (ku1 : ClassId) (su2 vu2 : Addr) (ku2 : ClassId) (su3 vu3 : Addr) (ku3 : ClassId) (su4 vu4 : Addr) (ku4 : ClassId) (ln1 ln2 ln3 ln4 ca cb da db ua ub ya yb cs : Int32) (h0 : Heap) (v : Option Value) (h : Heap) : Prop := v = some (.int 0) ∧ h0 = h
theorem rm_eq01 (l : Launch) (Z : State) (a0 : Array Value) (hw : oHw Z a0) (a o su1 vu1 : Addr) (ku1 : ClassId) (su2 vu2 : Addr) (ku2 : ClassId) (su3 vu3 : Addr) (ku3 : ClassId) (su4 vu4 : Addr) (ku4 : ClassId) (ln1 ln2 ln3 ln4 ca cb da db ua ub ya yb cs : Int32) (h0 : Heap) (q0 : Exa Z h0 a z1) (q1 : Fld Z h0 a z1 "shelf" z2 (.ref su1)) (q2 : Fld Z h0 a z1 "id" z2 (.ref su2)) (q3 : Exa Z h0 o z1) (q4 : Fld Z h0 o z1 "shelf" z2 (.ref su3)) (q5 : Fld Z h0 o z1 "id" z2 (.ref su4)) (q6 : Exa Z h0 su1 z0) (q7 : Fld Z h0 su1 z0 "value" "[B" (.ref vu1)) (q8 : Fld Z h0 su1 z0 "coder" "B" (.int 0)) (q9 : oArr Z h0 vu1 ku1 .byte (oBy ln1 ca cb)) (q10 : Exa Z h0 su2 z0) (q11 : Fld Z h0 su2 z0 "value" "[B" (.ref vu2)) (q12 : Fld Z h0 su2 z0 "coder" "B" (.int 0)) (q13 : oArr Z h0 vu2 ku2 .byte (oBy ln2 da db)) (q14 : Exa Z h0 su3 z0) (q15 : Fld Z h0 su3 z0 "value" "[B" (.ref vu3)) (q16 : Fld Z h0 su3 z0 "coder" "B" (.int 0)) (q17 : oArr Z h0 vu3 ku3 .byte (oBy ln3 ua ub)) (q18 : Exa Z h0 su4 z0) (q19 : Fld Z h0 su4 z0 "value" "[B" (.ref vu4)) (q20 : Fld Z h0 su4 z0 "coder" "B" (.int 0)) (q21 : oArr Z h0 vu4 ku4 .byte (oBy ln4 ya yb)) (q22 : oL ln1) (q23 : oL ln2) (q24 : oL ln3) (q25 : oL ln4) (q26 : oCh ca) (q27 : oCh cb) (q28 : oCh da) (q29 : oCh db) (q30 : oCh ua) (q31 : oCh ub) (q32 : oCh ya) (q33 : oCh yb) (q34 : su1 ≠ su3) (q35 : su2 ≠ su4) (q36 : (oSm ln1 ca cb ln3 ua ub) = (0 : Int32)) (q37 : ¬ ((oSm ln2 da db ln4 ya yb) = (0 : Int32))) (q38 : Sta Z Z.heap z0 z4 "Z" (.int cs)) (q39 : ¬ (cs = (0 : Int32))) : oMet l Z (⟨z1, "equals", z10⟩ : MethodName) prog_16_method_2_code 3 (some .boolean) r_eq01 [] #[.ref a, .ref o] h0 (Q_eq01 Z a o su1 vu1 ku1 su2 vu2 ku2 su3 vu3 ku3 su4 vu4 ku4 ln1 ln2 ln3 ln4 ca cb da db ua ub ya yb cs h0) := by
 refine oEnter (plainFor_of_name (by first | (simp [plainName, overriddenIn]; done) | decide +kernel)) (own := z1) (nm := "equals") rfl rfl (L := #[.val (.ref a), .val (.ref o), .unset]) (fun m => by first | (simp [entryFrame, mkF, argsToLocals, Value.category]; done) | rfl) ?_
 intro pp ee ss mm bb mtd cc T0 K X0
 have E0 := X0.ext0
 refine o_aloadN K X0 d24_0 rfl rfl rfl ?_
 refine o_instanceof K X0 (w117 hw) (Ins.self q3) d24_1 rfl ?_
 intro T1 X1
 refine o_if_eq_f K X1 d24_4 rfl (by decide) ?_
 refine o_aloadN K X1 d24_7 rfl rfl rfl ?_
 refine o_checkcast K X1 (w117 hw) (Ins.self q3) d24_8 rfl ?_
 intro T2 X2
 refine o_astoreN K X2 d24_11 rfl rfl (L' := #[vR a, vR o, vR o]) rfl ?_
 refine o_aloadN K X2 d24_12 rfl rfl rfl ?_
 refine o_getfield K X2 (host := "") (Or.inl (w108 hw)) Via.refl q1 d24_13 rfl ?_
 intro T3 X3
 refine o_aloadN K X3 d24_16 rfl rfl rfl ?_
 refine o_getfield K X3 (host := "") (Or.inl (w108 hw)) Via.refl q4 d24_17 rfl ?_
 intro T4 X4
 refine o_virtual K X4   (w118 hw) (w119 hw) (oNF (w121 hw)) (w121 hw) (w120 hw) (w14 hw) (w122 hw) (by decide) q6 (rm_streq l Z a0 hw su1 su3 vu1 vu3 ku1 ku3 ln1 ca cb ln3 ua ub cs h0 q6 q7 q8 q9 q14 q15 q16 q17 q22 q24 q26 q27 q30 q31 q38 q39 q34) (by decide) rfl (argsL := [.ref su3]) rfl (lenOf pd16 rfl) (W := 0) rfl (by decide) (by decide) (by decide) d24_20 rfl ?_
 intro v5 T5 h5 X5 U5
 obtain ⟨rfl, rfl⟩ := U5
 show oGoes pp ee bb ss Z T5 (mkF mm 23 _ [(.int (oSm ln1 ca cb ln3 ua ub))]) _ _ _
 refine o_if_eq_t K X5 d24_23 (by decide) (pc' := 44) (by decide) q36 ?_
 refine o_iconst K X5 d24_44 rfl (z := 0) rfl ?_
 refine o_ireturnN K X5 .boolean d24_45 rfl (by simp) (z' := 0) (by decide) ?_ (by decide) (by decide)
 exact ⟨rfl, rfl⟩
def r_eq10 : Room := { frames := 2, cells := 0, slots := 0, locals := 28 }
def Q_eq10 (Z : State) (a o su1 vu1 : Addr) (ku1 : ClassId) (su2 vu2 : Addr) (ku2 : ClassId) (su3 vu3 : Addr) (ku3 : ClassId) (su4 vu4 : Addr) (ku4 : ClassId) (ln1 ln2 ln3 ln4 ca cb da db ua ub ya yb cs : Int32) (h0 : Heap) (v : Option Value) (h : Heap) : Prop := v = some (.int 0) ∧ h0 = h
theorem rm_eq10 (l : Launch) (Z : State) (a0 : Array Value) (hw : oHw Z a0) (a o su1 vu1 : Addr) (ku1 : ClassId) (su2 vu2 : Addr) (ku2 : ClassId) (su3 vu3 : Addr) (ku3 : ClassId) (su4 vu4 : Addr) (ku4 : ClassId) (ln1 ln2 ln3 ln4 ca cb da db ua ub ya yb cs : Int32) (h0 : Heap) (q0 : Exa Z h0 a z1) (q1 : Fld Z h0 a z1 "shelf" z2 (.ref su1)) (q2 : Fld Z h0 a z1 "id" z2 (.ref su2)) (q3 : Exa Z h0 o z1) (q4 : Fld Z h0 o z1 "shelf" z2 (.ref su3)) (q5 : Fld Z h0 o z1 "id" z2 (.ref su4)) (q6 : Exa Z h0 su1 z0) (q7 : Fld Z h0 su1 z0 "value" "[B" (.ref vu1)) (q8 : Fld Z h0 su1 z0 "coder" "B" (.int 0)) (q9 : oArr Z h0 vu1 ku1 .byte (oBy ln1 ca cb)) (q10 : Exa Z h0 su2 z0) (q11 : Fld Z h0 su2 z0 "value" "[B" (.ref vu2)) (q12 : Fld Z h0 su2 z0 "coder" "B" (.int 0)) (q13 : oArr Z h0 vu2 ku2 .byte (oBy ln2 da db)) (q14 : Exa Z h0 su3 z0) (q15 : Fld Z h0 su3 z0 "value" "[B" (.ref vu3)) (q16 : Fld Z h0 su3 z0 "coder" "B" (.int 0)) (q17 : oArr Z h0 vu3 ku3 .byte (oBy ln3 ua ub)) (q18 : Exa Z h0 su4 z0) (q19 : Fld Z h0 su4 z0 "value" "[B" (.ref vu4)) (q20 : Fld Z h0 su4 z0 "coder" "B" (.int 0)) (q21 : oArr Z h0 vu4 ku4 .byte (oBy ln4 ya yb)) (q22 : oL ln1) (q23 : oL ln2) (q24 : oL ln3) (q25 : oL ln4) (q26 : oCh ca) (q27 : oCh cb) (q28 : oCh da) (q29 : oCh db) (q30 : oCh ua) (q31 : oCh ub) (q32 : oCh ya) (q33 : oCh yb) (q34 : su1 ≠ su3) (q35 : su2 ≠ su4) (q36 : ¬ ((oSm ln1 ca cb ln3 ua ub) = (0 : Int32))) (q37 : (oSm ln2 da db ln4 ya yb) = (0 : Int32)) (q38 : Sta Z Z.heap z0 z4 "Z" (.int cs)) (q39 : ¬ (cs = (0 : Int32))) : oMet l Z (⟨z1, "equals", z10⟩ : MethodName) prog_16_method_2_code 3 (some .boolean) r_eq10 [] #[.ref a, .ref o] h0 (Q_eq10 Z a o su1 vu1 ku1 su2 vu2 ku2 su3 vu3 ku3 su4 vu4 ku4 ln1 ln2 ln3 ln4 ca cb da db ua ub ya yb cs h0) := by
 refine oEnter (plainFor_of_name (by first | (simp [plainName, overriddenIn]; done) | decide +kernel)) (own := z1) (nm := "equals") rfl rfl (L := #[.val (.ref a), .val (.ref o), .unset]) (fun m => by first | (simp [entryFrame, mkF, argsToLocals, Value.category]; done) | rfl) ?_
 intro pp ee ss mm bb mtd cc T0 K X0
 have E0 := X0.ext0
 refine o_aloadN K X0 d24_0 rfl rfl rfl ?_
 refine o_instanceof K X0 (w117 hw) (Ins.self q3) d24_1 rfl ?_
 intro T1 X1
 refine o_if_eq_f K X1 d24_4 rfl (by decide) ?_
 refine o_aloadN K X1 d24_7 rfl rfl rfl ?_
 refine o_checkcast K X1 (w117 hw) (Ins.self q3) d24_8 rfl ?_
 intro T2 X2
 refine o_astoreN K X2 d24_11 rfl rfl (L' := #[vR a, vR o, vR o]) rfl ?_
 refine o_aloadN K X2 d24_12 rfl rfl rfl ?_
 refine o_getfield K X2 (host := "") (Or.inl (w108 hw)) Via.refl q1 d24_13 rfl ?_
 intro T3 X3
 refine o_aloadN K X3 d24_16 rfl rfl rfl ?_
 refine o_getfield K X3 (host := "") (Or.inl (w108 hw)) Via.refl q4 d24_17 rfl ?_
 intro T4 X4
 refine o_virtual K X4   (w118 hw) (w119 hw) (oNF (w121 hw)) (w121 hw) (w120 hw) (w14 hw) (w122 hw) (by decide) q6 (rm_streq l Z a0 hw su1 su3 vu1 vu3 ku1 ku3 ln1 ca cb ln3 ua ub cs h0 q6 q7 q8 q9 q14 q15 q16 q17 q22 q24 q26 q27 q30 q31 q38 q39 q34) (by decide) rfl (argsL := [.ref su3]) rfl (lenOf pd16 rfl) (W := 0) rfl (by decide) (by decide) (by decide) d24_20 rfl ?_
 intro v5 T5 h5 X5 U5
 obtain ⟨rfl, rfl⟩ := U5
 show oGoes pp ee bb ss Z T5 (mkF mm 23 _ [(.int (oSm ln1 ca cb ln3 ua ub))]) _ _ _
 refine o_if_eq_f K X5 d24_23 rfl q36 ?_
 refine o_aloadN K X5 d24_26 rfl rfl rfl ?_
 refine o_getfield K X5 (host := "") (Or.inl (w110 hw)) Via.refl q2 d24_27 rfl ?_
 intro T6 X6
 refine o_aloadN K X6 d24_30 rfl rfl rfl ?_
 refine o_getfield K X6 (host := "") (Or.inl (w110 hw)) Via.refl q5 d24_31 rfl ?_
 intro T7 X7
 refine o_virtual K X7   (w118 hw) (w119 hw) (oNF (w121 hw)) (w121 hw) (w120 hw) (w14 hw) (w122 hw) (by decide) q10 (rm_streq l Z a0 hw su2 su4 vu2 vu4 ku2 ku4 ln2 da db ln4 ya yb cs h0 q10 q11 q12 q13 q18 q19 q20 q21 q23 q25 q28 q29 q32 q33 q38 q39 q35) (by decide) rfl (argsL := [.ref su4]) rfl (lenOf pd16 rfl) (W := 0) rfl (by decide) (by decide) (by decide) d24_34 rfl ?_
 intro v8 T8 h8 X8 U8
 obtain ⟨rfl, rfl⟩ := U8
 show oGoes pp ee bb ss Z T8 (mkF mm 37 _ [(.int (oSm ln2 da db ln4 ya yb))]) _ _ _
 refine o_if_eq_t K X8 d24_37 (by decide) (pc' := 44) (by decide) q37 ?_
 refine o_iconst K X8 d24_44 rfl (z := 0) rfl ?_
 refine o_ireturnN K X8 .boolean d24_45 rfl (by simp) (z' := 0) (by decide) ?_ (by decide) (by decide)
 exact ⟨rfl, rfl⟩
def r_eq11 : Room := { frames := 2, cells := 0, slots := 0, locals := 28 }
def Q_eq11 (Z : State) (a o su1 vu1 : Addr) (ku1 : ClassId) (su2 vu2 : Addr) (ku2 : ClassId) (su3 vu3 : Addr) (ku3 : ClassId) (su4 vu4 : Addr) (ku4 : ClassId) (ln1 ln2 ln3 ln4 ca cb da db ua ub ya yb cs : Int32) (h0 : Heap) (v : Option Value) (h : Heap) : Prop := v = some (.int 1) ∧ h0 = h
theorem rm_eq11 (l : Launch) (Z : State) (a0 : Array Value) (hw : oHw Z a0) (a o su1 vu1 : Addr) (ku1 : ClassId) (su2 vu2 : Addr) (ku2 : ClassId) (su3 vu3 : Addr) (ku3 : ClassId) (su4 vu4 : Addr) (ku4 : ClassId) (ln1 ln2 ln3 ln4 ca cb da db ua ub ya yb cs : Int32) (h0 : Heap) (q0 : Exa Z h0 a z1) (q1 : Fld Z h0 a z1 "shelf" z2 (.ref su1)) (q2 : Fld Z h0 a z1 "id" z2 (.ref su2)) (q3 : Exa Z h0 o z1) (q4 : Fld Z h0 o z1 "shelf" z2 (.ref su3)) (q5 : Fld Z h0 o z1 "id" z2 (.ref su4)) (q6 : Exa Z h0 su1 z0) (q7 : Fld Z h0 su1 z0 "value" "[B" (.ref vu1)) (q8 : Fld Z h0 su1 z0 "coder" "B" (.int 0)) (q9 : oArr Z h0 vu1 ku1 .byte (oBy ln1 ca cb)) (q10 : Exa Z h0 su2 z0) (q11 : Fld Z h0 su2 z0 "value" "[B" (.ref vu2)) (q12 : Fld Z h0 su2 z0 "coder" "B" (.int 0)) (q13 : oArr Z h0 vu2 ku2 .byte (oBy ln2 da db)) (q14 : Exa Z h0 su3 z0) (q15 : Fld Z h0 su3 z0 "value" "[B" (.ref vu3)) (q16 : Fld Z h0 su3 z0 "coder" "B" (.int 0)) (q17 : oArr Z h0 vu3 ku3 .byte (oBy ln3 ua ub)) (q18 : Exa Z h0 su4 z0) (q19 : Fld Z h0 su4 z0 "value" "[B" (.ref vu4)) (q20 : Fld Z h0 su4 z0 "coder" "B" (.int 0)) (q21 : oArr Z h0 vu4 ku4 .byte (oBy ln4 ya yb)) (q22 : oL ln1) (q23 : oL ln2) (q24 : oL ln3) (q25 : oL ln4) (q26 : oCh ca) (q27 : oCh cb) (q28 : oCh da) (q29 : oCh db) (q30 : oCh ua) (q31 : oCh ub) (q32 : oCh ya) (q33 : oCh yb) (q34 : su1 ≠ su3) (q35 : su2 ≠ su4) (q36 : ¬ ((oSm ln1 ca cb ln3 ua ub) = (0 : Int32))) (q37 : ¬ ((oSm ln2 da db ln4 ya yb) = (0 : Int32))) (q38 : Sta Z Z.heap z0 z4 "Z" (.int cs)) (q39 : ¬ (cs = (0 : Int32))) : oMet l Z (⟨z1, "equals", z10⟩ : MethodName) prog_16_method_2_code 3 (some .boolean) r_eq11 [] #[.ref a, .ref o] h0 (Q_eq11 Z a o su1 vu1 ku1 su2 vu2 ku2 su3 vu3 ku3 su4 vu4 ku4 ln1 ln2 ln3 ln4 ca cb da db ua ub ya yb cs h0) := by
 refine oEnter (plainFor_of_name (by first | (simp [plainName, overriddenIn]; done) | decide +kernel)) (own := z1) (nm := "equals") rfl rfl (L := #[.val (.ref a), .val (.ref o), .unset]) (fun m => by first | (simp [entryFrame, mkF, argsToLocals, Value.category]; done) | rfl) ?_
 intro pp ee ss mm bb mtd cc T0 K X0
 have E0 := X0.ext0
 refine o_aloadN K X0 d24_0 rfl rfl rfl ?_
 refine o_instanceof K X0 (w117 hw) (Ins.self q3) d24_1 rfl ?_
 intro T1 X1
 refine o_if_eq_f K X1 d24_4 rfl (by decide) ?_
 refine o_aloadN K X1 d24_7 rfl rfl rfl ?_
 refine o_checkcast K X1 (w117 hw) (Ins.self q3) d24_8 rfl ?_
 intro T2 X2
 refine o_astoreN K X2 d24_11 rfl rfl (L' := #[vR a, vR o, vR o]) rfl ?_
 refine o_aloadN K X2 d24_12 rfl rfl rfl ?_
 refine o_getfield K X2 (host := "") (Or.inl (w108 hw)) Via.refl q1 d24_13 rfl ?_
 intro T3 X3
 refine o_aloadN K X3 d24_16 rfl rfl rfl ?_
 refine o_getfield K X3 (host := "") (Or.inl (w108 hw)) Via.refl q4 d24_17 rfl ?_
 intro T4 X4
 refine o_virtual K X4   (w118 hw) (w119 hw) (oNF (w121 hw)) (w121 hw) (w120 hw) (w14 hw) (w122 hw) (by decide) q6 (rm_streq l Z a0 hw su1 su3 vu1 vu3 ku1 ku3 ln1 ca cb ln3 ua ub cs h0 q6 q7 q8 q9 q14 q15 q16 q17 q22 q24 q26 q27 q30 q31 q38 q39 q34) (by decide) rfl (argsL := [.ref su3]) rfl (lenOf pd16 rfl) (W := 0) rfl (by decide) (by decide) (by decide) d24_20 rfl ?_
 intro v5 T5 h5 X5 U5
 obtain ⟨rfl, rfl⟩ := U5
 show oGoes pp ee bb ss Z T5 (mkF mm 23 _ [(.int (oSm ln1 ca cb ln3 ua ub))]) _ _ _
 refine o_if_eq_f K X5 d24_23 rfl q36 ?_
 refine o_aloadN K X5 d24_26 rfl rfl rfl ?_
 refine o_getfield K X5 (host := "") (Or.inl (w110 hw)) Via.refl q2 d24_27 rfl ?_
 intro T6 X6
 refine o_aloadN K X6 d24_30 rfl rfl rfl ?_
 refine o_getfield K X6 (host := "") (Or.inl (w110 hw)) Via.refl q5 d24_31 rfl ?_
 intro T7 X7
 refine o_virtual K X7   (w118 hw) (w119 hw) (oNF (w121 hw)) (w121 hw) (w120 hw) (w14 hw) (w122 hw) (by decide) q10 (rm_streq l Z a0 hw su2 su4 vu2 vu4 ku2 ku4 ln2 da db ln4 ya yb cs h0 q10 q11 q12 q13 q18 q19 q20 q21 q23 q25 q28 q29 q32 q33 q38 q39 q35) (by decide) rfl (argsL := [.ref su4]) rfl (lenOf pd16 rfl) (W := 0) rfl (by decide) (by decide) (by decide) d24_34 rfl ?_
 intro v8 T8 h8 X8 U8
 obtain ⟨rfl, rfl⟩ := U8
 show oGoes pp ee bb ss Z T8 (mkF mm 37 _ [(.int (oSm ln2 da db ln4 ya yb))]) _ _ _
 refine o_if_eq_f K X8 d24_37 rfl q37 ?_
 refine o_iconst K X8 d24_40 rfl (z := 1) rfl ?_
 refine o_goto K X8 d24_41 (by decide) (pc' := 45) (by decide) ?_
 refine o_ireturnN K X8 .boolean d24_45 rfl (by simp) (z' := 1) (by decide) ?_ (by decide) (by decide)
 exact ⟨rfl, rfl⟩
def Q_lw3 (Z : State) (i0 i1 i2 i3 i4 i5 cp cq kd sg tg : Int32) (ar1 ar2 ar3 ar4 p r su1 vu1 : Addr) (ku1 : ClassId) (su2 vu2 : Addr) (ku2 : ClassId) (su3 vu3 : Addr) (ku3 : ClassId) (su4 vu4 : Addr) (ku4 : ClassId) (ln1 ln2 ln3 ln4 ca cb da db ua ub ya yb cs : Int32) (h0 : Heap) (v : Option Value) (h : Heap) : Prop := v = some (.int 1)
theorem tl_lw3 (l : Launch) (Z : State) (a0 : Array Value) (hw : oHw Z a0) (i0 i1 i2 i3 i4 i5 cp cq kd sg tg : Int32) (ar1 ar2 ar3 ar4 p r su1 vu1 : Addr) (ku1 : ClassId) (su2 vu2 : Addr) (ku2 : ClassId) (su3 vu3 : Addr) (ku3 : ClassId) (su4 vu4 : Addr) (ku4 : ClassId) (ln1 ln2 ln3 ln4 ca cb da db ua ub ya yb cs : Int32) (h0 : Heap) (q0 : (oSm ln1 ca cb ln3 ua ub) = sg) (q1 : (oSm ln2 da db ln4 ya yb) = tg) (q2 : Exa Z h0 p z1) (q3 : Fld Z h0 p z1 "shelf" z2 (.ref su1)) (q4 : Fld Z h0 p z1 "id" z2 (.ref su2)) (q5 : Exa Z h0 r z1) (q6 : Fld Z h0 r z1 "shelf" z2 (.ref su3)) (q7 : Fld Z h0 r z1 "id" z2 (.ref su4)) (q8 : Exa Z h0 su1 z0) (q9 : Fld Z h0 su1 z0 "value" "[B" (.ref vu1)) (q10 : Fld Z h0 su1 z0 "coder" "B" (.int 0)) (q11 : oArr Z h0 vu1 ku1 .byte (oBy ln1 ca cb)) (q12 : Exa Z h0 su2 z0) (q13 : Fld Z h0 su2 z0 "value" "[B" (.ref vu2)) (q14 : Fld Z h0 su2 z0 "coder" "B" (.int 0)) (q15 : oArr Z h0 vu2 ku2 .byte (oBy ln2 da db)) (q16 : Exa Z h0 su3 z0) (q17 : Fld Z h0 su3 z0 "value" "[B" (.ref vu3)) (q18 : Fld Z h0 su3 z0 "coder" "B" (.int 0)) (q19 : oArr Z h0 vu3 ku3 .byte (oBy ln3 ua ub)) (q20 : Exa Z h0 su4 z0) (q21 : Fld Z h0 su4 z0 "value" "[B" (.ref vu4)) (q22 : Fld Z h0 su4 z0 "coder" "B" (.int 0)) (q23 : oArr Z h0 vu4 ku4 .byte (oBy ln4 ya yb)) (q24 : oL ln1) (q25 : oL ln2) (q26 : oL ln3) (q27 : oL ln4) (q28 : oCh ca) (q29 : oCh cb) (q30 : oCh da) (q31 : oCh db) (q32 : oCh ua) (q33 : oCh ub) (q34 : oCh ya) (q35 : oCh yb) (q36 : su1 ≠ su3) (q37 : su2 ≠ su4) (q38 : Sta Z Z.heap z0 z4 "Z" (.int cs)) (q39 : ¬ (cs = (0 : Int32))) {Q : Option Value → Heap → Prop} (hQ : ∀ v h, Q_lw3 Z i0 i1 i2 i3 i4 i5 cp cq kd sg tg ar1 ar2 ar3 ar4 p r su1 vu1 ku1 su2 vu2 ku2 su3 vu3 ku3 su4 vu4 ku4 ln1 ln2 ln3 ln4 ca cb da db ua ub ya yb cs h0 v h → Q v h) {pp : Program} {ee : Env} {ss : State} {mm : MethodId} {bb : List Frame} {mtd : Method} {cc : Code} {A : Array Value} {T0 : State} (K : oCtx pp ss mm mtd cc Z z7 code maxLocals "law" ret x) (X0 : oSt pp l ee room_1 ss mm A bb mtd cc Z T0 h0 18 60) : oGoes pp ee bb ss Z T0 (mkF mm 471 #[vI i0, vI i1, vI i2, vI i3, vI i4, vI i5, vI ln1, vI ln2, vI cp, vI cq, vI ln3, vI ln4, vR ar1, vR ar2, vR ar3, vR ar4, vR p, vR r, vI kd, vI sg, vI tg, uS] []) Q room_1.cells room_1.slots := by
 have E0 := X0.ext0
 rcases oSm01 ln1 ca cb ln3 ua ub with y | y
 obtain rfl : sg = (0 : Int32) := q0.symm.trans y
 rcases oSm01 ln2 da db ln4 ya yb with y | y
 obtain rfl : tg = (0 : Int32) := q1.symm.trans y
 refine o_iload K X0 at_471 rfl rfl ?_
 refine o_if_eq_t K X0 at_473 (by decide) (pc' := 485) (by decide) (by decide) ?_
 refine o_iconst K X0 at_485 rfl (z := 0) rfl ?_
 refine o_istore K X0 at_486 rfl (L' := #[vI i0, vI i1, vI i2, vI i3, vI i4, vI i5, vI ln1, vI ln2, vI cp, vI cq, vI ln3, vI ln4, vR ar1, vR ar2, vR ar3, vR ar4, vR p, vR r, vI kd, vI 0, vI 0, vI 0]) rfl ?_
 refine o_aload K X0 at_488 rfl rfl rfl ?_
 refine o_aload K X0 at_490 rfl rfl rfl ?_
 refine o_virtual K X0   (w112 hw) (w113 hw) (oNF (w115 hw)) (w115 hw) (w114 hw) (w11 hw) (w116 hw) (by decide) q2 (rm_eq00 l Z a0 hw p r su1 vu1 ku1 su2 vu2 ku2 su3 vu3 ku3 su4 vu4 ku4 ln1 ln2 ln3 ln4 ca cb da db ua ub ya yb cs h0 q2 q3 q4 q5 q6 q7 q8 q9 q10 q11 q12 q13 q14 q15 q16 q17 q18 q19 q20 q21 q22 q23 q24 q25 q26 q27 q28 q29 q30 q31 q32 q33 q34 q35 q36 q37 q0 q1 q38 q39) (by decide) rfl (argsL := [.ref r]) rfl (lenOf pd16 rfl) (W := 0) rfl (by decide) (by decide) (by decide) at_492 rfl ?_
 intro v1 T1 h1 X1 U1
 obtain ⟨rfl, rfl⟩ := U1
 show oGoes pp ee bb ss Z T1 (mkF mm 495 _ [.int 0]) _ _ _
 refine o_iload K X1 at_495 rfl rfl ?_
 refine o_icmp_ne_f K X1 at_497 rfl (by decide) ?_
 refine o_aload K X1 at_500 rfl rfl rfl ?_
 refine o_aload K X1 at_502 rfl rfl rfl ?_
 refine o_virtual K X1   (w112 hw) (w113 hw) (oNF (w115 hw)) (w115 hw) (w114 hw) (w11 hw) (w116 hw) (by decide) q5 (rm_eq00 l Z a0 hw r p su3 vu3 ku3 su4 vu4 ku4 su1 vu1 ku1 su2 vu2 ku2 ln3 ln4 ln1 ln2 ua ub ya yb ca cb da db cs h0 q5 q6 q7 q2 q3 q4 q16 q17 q18 q19 q20 q21 q22 q23 q8 q9 q10 q11 q12 q13 q14 q15 q26 q27 q24 q25 q32 q33 q34 q35 q28 q29 q30 q31 (Ne.symm q36) (Ne.symm q37) (by rw [oSmF]; exact q0) (by rw [oSmF]; exact q1) q38 q39) (by decide) rfl (argsL := [.ref p]) rfl (lenOf pd16 rfl) (W := 0) rfl (by decide) (by decide) (by decide) at_504 rfl ?_
 intro v2 T2 h2 X2 U2
 obtain ⟨rfl, rfl⟩ := U2
 show oGoes pp ee bb ss Z T2 (mkF mm 507 _ [.int 0]) _ _ _
 refine o_iload K X2 at_507 rfl rfl ?_
 refine o_icmp_ne_f K X2 at_509 rfl (by decide) ?_
 refine o_iconst K X2 at_512 rfl (z := 1) rfl ?_
 refine o_goto K X2 at_513 (by decide) (pc' := 517) (by decide) ?_
 refine o_ireturnN K X2 .boolean at_517 rfl (by simp) (z' := 1) (by decide) ?_ (by decide) (by decide)
 exact hQ _ _ rfl
 obtain rfl : tg = (1 : Int32) := q1.symm.trans y
 have y_tg : ¬ ((oSm ln2 da db ln4 ya yb) = (0 : Int32)) := by rw [q1]; decide
 refine o_iload K X0 at_471 rfl rfl ?_
 refine o_if_eq_t K X0 at_473 (by decide) (pc' := 485) (by decide) (by decide) ?_
 refine o_iconst K X0 at_485 rfl (z := 0) rfl ?_
 refine o_istore K X0 at_486 rfl (L' := #[vI i0, vI i1, vI i2, vI i3, vI i4, vI i5, vI ln1, vI ln2, vI cp, vI cq, vI ln3, vI ln4, vR ar1, vR ar2, vR ar3, vR ar4, vR p, vR r, vI kd, vI 0, vI 1, vI 0]) rfl ?_
 refine o_aload K X0 at_488 rfl rfl rfl ?_
 refine o_aload K X0 at_490 rfl rfl rfl ?_
 refine o_virtual K X0   (w112 hw) (w113 hw) (oNF (w115 hw)) (w115 hw) (w114 hw) (w11 hw) (w116 hw) (by decide) q2 (rm_eq01 l Z a0 hw p r su1 vu1 ku1 su2 vu2 ku2 su3 vu3 ku3 su4 vu4 ku4 ln1 ln2 ln3 ln4 ca cb da db ua ub ya yb cs h0 q2 q3 q4 q5 q6 q7 q8 q9 q10 q11 q12 q13 q14 q15 q16 q17 q18 q19 q20 q21 q22 q23 q24 q25 q26 q27 q28 q29 q30 q31 q32 q33 q34 q35 q36 q37 q0 y_tg q38 q39) (by decide) rfl (argsL := [.ref r]) rfl (lenOf pd16 rfl) (W := 0) rfl (by decide) (by decide) (by decide) at_492 rfl ?_
 intro v3 T3 h3 X3 U3
 obtain ⟨rfl, rfl⟩ := U3
 show oGoes pp ee bb ss Z T3 (mkF mm 495 _ [.int 0]) _ _ _
 refine o_iload K X3 at_495 rfl rfl ?_
 refine o_icmp_ne_f K X3 at_497 rfl (by decide) ?_
 refine o_aload K X3 at_500 rfl rfl rfl ?_
 refine o_aload K X3 at_502 rfl rfl rfl ?_
 refine o_virtual K X3   (w112 hw) (w113 hw) (oNF (w115 hw)) (w115 hw) (w114 hw) (w11 hw) (w116 hw) (by decide) q5 (rm_eq01 l Z a0 hw r p su3 vu3 ku3 su4 vu4 ku4 su1 vu1 ku1 su2 vu2 ku2 ln3 ln4 ln1 ln2 ua ub ya yb ca cb da db cs h0 q5 q6 q7 q2 q3 q4 q16 q17 q18 q19 q20 q21 q22 q23 q8 q9 q10 q11 q12 q13 q14 q15 q26 q27 q24 q25 q32 q33 q34 q35 q28 q29 q30 q31 (Ne.symm q36) (Ne.symm q37) (by rw [oSmF]; exact q0) (by rw [oSmF]; exact y_tg) q38 q39) (by decide) rfl (argsL := [.ref p]) rfl (lenOf pd16 rfl) (W := 0) rfl (by decide) (by decide) (by decide) at_504 rfl ?_
 intro v4 T4 h4 X4 U4
 obtain ⟨rfl, rfl⟩ := U4
 show oGoes pp ee bb ss Z T4 (mkF mm 507 _ [.int 0]) _ _ _
 refine o_iload K X4 at_507 rfl rfl ?_
 refine o_icmp_ne_f K X4 at_509 rfl (by decide) ?_
 refine o_iconst K X4 at_512 rfl (z := 1) rfl ?_
 refine o_goto K X4 at_513 (by decide) (pc' := 517) (by decide) ?_
 refine o_ireturnN K X4 .boolean at_517 rfl (by simp) (z' := 1) (by decide) ?_ (by decide) (by decide)
 exact hQ _ _ rfl
 obtain rfl : sg = (1 : Int32) := q0.symm.trans y
 have y_sg : ¬ ((oSm ln1 ca cb ln3 ua ub) = (0 : Int32)) := by rw [q0]; decide
 rcases oSm01 ln2 da db ln4 ya yb with y | y
 obtain rfl : tg = (0 : Int32) := q1.symm.trans y
 refine o_iload K X0 at_471 rfl rfl ?_
 refine o_if_eq_f K X0 at_473 rfl (by decide) ?_
 refine o_iload K X0 at_476 rfl rfl ?_
 refine o_if_eq_t K X0 at_478 (by decide) (pc' := 485) (by decide) (by decide) ?_
 refine o_iconst K X0 at_485 rfl (z := 0) rfl ?_
 refine o_istore K X0 at_486 rfl (L' := #[vI i0, vI i1, vI i2, vI i3, vI i4, vI i5, vI ln1, vI ln2, vI cp, vI cq, vI ln3, vI ln4, vR ar1, vR ar2, vR ar3, vR ar4, vR p, vR r, vI kd, vI 1, vI 0, vI 0]) rfl ?_
 refine o_aload K X0 at_488 rfl rfl rfl ?_
 refine o_aload K X0 at_490 rfl rfl rfl ?_
 refine o_virtual K X0   (w112 hw) (w113 hw) (oNF (w115 hw)) (w115 hw) (w114 hw) (w11 hw) (w116 hw) (by decide) q2 (rm_eq10 l Z a0 hw p r su1 vu1 ku1 su2 vu2 ku2 su3 vu3 ku3 su4 vu4 ku4 ln1 ln2 ln3 ln4 ca cb da db ua ub ya yb cs h0 q2 q3 q4 q5 q6 q7 q8 q9 q10 q11 q12 q13 q14 q15 q16 q17 q18 q19 q20 q21 q22 q23 q24 q25 q26 q27 q28 q29 q30 q31 q32 q33 q34 q35 q36 q37 y_sg q1 q38 q39) (by decide) rfl (argsL := [.ref r]) rfl (lenOf pd16 rfl) (W := 0) rfl (by decide) (by decide) (by decide) at_492 rfl ?_
 intro v5 T5 h5 X5 U5
 obtain ⟨rfl, rfl⟩ := U5
 show oGoes pp ee bb ss Z T5 (mkF mm 495 _ [.int 0]) _ _ _
 refine o_iload K X5 at_495 rfl rfl ?_
 refine o_icmp_ne_f K X5 at_497 rfl (by decide) ?_
 refine o_aload K X5 at_500 rfl rfl rfl ?_
 refine o_aload K X5 at_502 rfl rfl rfl ?_
 refine o_virtual K X5   (w112 hw) (w113 hw) (oNF (w115 hw)) (w115 hw) (w114 hw) (w11 hw) (w116 hw) (by decide) q5 (rm_eq10 l Z a0 hw r p su3 vu3 ku3 su4 vu4 ku4 su1 vu1 ku1 su2 vu2 ku2 ln3 ln4 ln1 ln2 ua ub ya yb ca cb da db cs h0 q5 q6 q7 q2 q3 q4 q16 q17 q18 q19 q20 q21 q22 q23 q8 q9 q10 q11 q12 q13 q14 q15 q26 q27 q24 q25 q32 q33 q34 q35 q28 q29 q30 q31 (Ne.symm q36) (Ne.symm q37) (by rw [oSmF]; exact y_sg) (by rw [oSmF]; exact q1) q38 q39) (by decide) rfl (argsL := [.ref p]) rfl (lenOf pd16 rfl) (W := 0) rfl (by decide) (by decide) (by decide) at_504 rfl ?_
 intro v6 T6 h6 X6 U6
 obtain ⟨rfl, rfl⟩ := U6
 show oGoes pp ee bb ss Z T6 (mkF mm 507 _ [.int 0]) _ _ _
 refine o_iload K X6 at_507 rfl rfl ?_
 refine o_icmp_ne_f K X6 at_509 rfl (by decide) ?_
 refine o_iconst K X6 at_512 rfl (z := 1) rfl ?_
 refine o_goto K X6 at_513 (by decide) (pc' := 517) (by decide) ?_
 refine o_ireturnN K X6 .boolean at_517 rfl (by simp) (z' := 1) (by decide) ?_ (by decide) (by decide)
 exact hQ _ _ rfl
 obtain rfl : tg = (1 : Int32) := q1.symm.trans y
 have y_tg : ¬ ((oSm ln2 da db ln4 ya yb) = (0 : Int32)) := by rw [q1]; decide
 refine o_iload K X0 at_471 rfl rfl ?_
 refine o_if_eq_f K X0 at_473 rfl (by decide) ?_
 refine o_iload K X0 at_476 rfl rfl ?_
 refine o_if_eq_f K X0 at_478 rfl (by decide) ?_
 refine o_iconst K X0 at_481 rfl (z := 1) rfl ?_
 refine o_goto K X0 at_482 (by decide) (pc' := 486) (by decide) ?_
 refine o_istore K X0 at_486 rfl (L' := #[vI i0, vI i1, vI i2, vI i3, vI i4, vI i5, vI ln1, vI ln2, vI cp, vI cq, vI ln3, vI ln4, vR ar1, vR ar2, vR ar3, vR ar4, vR p, vR r, vI kd, vI 1, vI 1, vI 1]) rfl ?_
 refine o_aload K X0 at_488 rfl rfl rfl ?_
 refine o_aload K X0 at_490 rfl rfl rfl ?_
 refine o_virtual K X0   (w112 hw) (w113 hw) (oNF (w115 hw)) (w115 hw) (w114 hw) (w11 hw) (w116 hw) (by decide) q2 (rm_eq11 l Z a0 hw p r su1 vu1 ku1 su2 vu2 ku2 su3 vu3 ku3 su4 vu4 ku4 ln1 ln2 ln3 ln4 ca cb da db ua ub ya yb cs h0 q2 q3 q4 q5 q6 q7 q8 q9 q10 q11 q12 q13 q14 q15 q16 q17 q18 q19 q20 q21 q22 q23 q24 q25 q26 q27 q28 q29 q30 q31 q32 q33 q34 q35 q36 q37 y_sg y_tg q38 q39) (by decide) rfl (argsL := [.ref r]) rfl (lenOf pd16 rfl) (W := 0) rfl (by decide) (by decide) (by decide) at_492 rfl ?_
 intro v7 T7 h7 X7 U7
 obtain ⟨rfl, rfl⟩ := U7
 show oGoes pp ee bb ss Z T7 (mkF mm 495 _ [.int 1]) _ _ _
 refine o_iload K X7 at_495 rfl rfl ?_
 refine o_icmp_ne_f K X7 at_497 rfl (by decide) ?_
 refine o_aload K X7 at_500 rfl rfl rfl ?_
 refine o_aload K X7 at_502 rfl rfl rfl ?_
 refine o_virtual K X7   (w112 hw) (w113 hw) (oNF (w115 hw)) (w115 hw) (w114 hw) (w11 hw) (w116 hw) (by decide) q5 (rm_eq11 l Z a0 hw r p su3 vu3 ku3 su4 vu4 ku4 su1 vu1 ku1 su2 vu2 ku2 ln3 ln4 ln1 ln2 ua ub ya yb ca cb da db cs h0 q5 q6 q7 q2 q3 q4 q16 q17 q18 q19 q20 q21 q22 q23 q8 q9 q10 q11 q12 q13 q14 q15 q26 q27 q24 q25 q32 q33 q34 q35 q28 q29 q30 q31 (Ne.symm q36) (Ne.symm q37) (by rw [oSmF]; exact y_sg) (by rw [oSmF]; exact y_tg) q38 q39) (by decide) rfl (argsL := [.ref p]) rfl (lenOf pd16 rfl) (W := 0) rfl (by decide) (by decide) (by decide) at_504 rfl ?_
 intro v8 T8 h8 X8 U8
 obtain ⟨rfl, rfl⟩ := U8
 show oGoes pp ee bb ss Z T8 (mkF mm 507 _ [.int 1]) _ _ _
 refine o_iload K X8 at_507 rfl rfl ?_
 refine o_icmp_ne_f K X8 at_509 rfl (by decide) ?_
 refine o_iconst K X8 at_512 rfl (z := 1) rfl ?_
 refine o_goto K X8 at_513 (by decide) (pc' := 517) (by decide) ?_
 refine o_ireturnN K X8 .boolean at_517 rfl (by simp) (z' := 1) (by decide) ?_ (by decide) (by decide)
 exact hQ _ _ rfl
theorem pd17 : parseMethodDescriptor "([C)V" = some ⟨[(.array .char)], none⟩ := by decide +kernel
theorem pd18 : parseMethodDescriptor z8 = some ⟨[(.object z0), (.object z0)], none⟩ := by decide +kernel
def Q_t258_1111 (Z : State) (i0 i1 i2 i3 i4 i5 cp cq : Int32) (ar1 : Addr) (kar1 : ClassId) (ar2 : Addr) (kar2 : ClassId) (ar3 : Addr) (kar3 : ClassId) (ar4 : Addr) (kar4 : ClassId) (ca da ua ya : Int32) (fm : Value) (cs : Int32) (h0 : Heap) (v : Option Value) (h : Heap) : Prop := v = some (.int 1)
theorem tl_t258_1111 (l : Launch) (Z : State) (a0 : Array Value) (hw : oHw Z a0) (i0 i1 i2 i3 i4 i5 cp cq : Int32) (ar1 : Addr) (kar1 : ClassId) (ar2 : Addr) (kar2 : ClassId) (ar3 : Addr) (kar3 : ClassId) (ar4 : Addr) (kar4 : ClassId) (ca da ua ya : Int32) (fm : Value) (cs : Int32) (h0 : Heap) (q0 : oArr Z h0 ar1 kar1 .char [.int ca]) (q1 : oArr Z h0 ar2 kar2 .char [.int da]) (q2 : oArr Z h0 ar3 kar3 .char [.int ua]) (q3 : oArr Z h0 ar4 kar4 .char [.int ya]) (q4 : oSh ca) (q5 : oId da) (q6 : oSh ua) (q7 : oId ya) (q8 : oCh ca) (q9 : oCh da) (q10 : oCh ua) (q11 : oCh ya) (q12 : nar .char ca = ca) (q13 : nar .char da = da) (q14 : nar .char ua = ua) (q15 : nar .char ya = ya) (q16 : Sta Z Z.heap z3 z5 z6 fm) (q17 : fm.isRef = true) (q18 : Sta Z Z.heap z0 z4 "Z" (.int cs)) (q19 : ¬ (cs = (0 : Int32))) {Q : Option Value → Heap → Prop} (hQ : ∀ v h, Q_t258_1111 Z i0 i1 i2 i3 i4 i5 cp cq ar1 kar1 ar2 kar2 ar3 kar3 ar4 kar4 ca da ua ya fm cs h0 v h → Q v h) {pp : Program} {ee : Env} {ss : State} {mm : MethodId} {bb : List Frame} {mtd : Method} {cc : Code} {A : Array Value} {T0 : State} (K : oCtx pp ss mm mtd cc Z z7 code maxLocals "law" ret x) (X0 : oSt pp l ee room_1 ss mm A bb mtd cc Z T0 h0 4 8) : oGoes pp ee bb ss Z T0 (mkF mm 258 #[vI i0, vI i1, vI i2, vI i3, vI i4, vI i5, vI 1, vI 1, vI cp, vI cq, vI 1, vI 1, vR ar1, vR ar2, vR ar3, vR ar4, uS, uS, uS, uS, uS, uS] []) Q room_1.cells room_1.slots := by
 have E0 := X0.ext0
 refine o_new K X0 (w9 hw) (w10 hw) (w11 hw) at_258 rfl (by decide) (by decide) ?_
 intro T1 h1 b1 X1 g1 E1 A1 D1 G1
 have F1_shelf : Fld Z h1 b1 z1 "shelf" z2 .null := (D1 (Or.inr (w109 hw)) (ty := (.object z0)) (by decide))
 have F1_id : Fld Z h1 b1 z1 "id" z2 .null := (D1 (Or.inr (w111 hw)) (ty := (.object z0)) (by decide))
 refine o_dup K X1 at_261 rfl rfl ?_
 refine o_new K X1 (w12 hw) (w13 hw) (w14 hw) at_262 rfl (by decide) (by decide) ?_
 intro T2 h2 b2 X2 g2 E2 A2 D2 G2
 have F2_coder : Fld Z h2 b2 z0 "coder" "B" (.int 0) := (D2 (Or.inr (w38 hw)) (ty := .byte) (by decide))
 have F2_value : Fld Z h2 b2 z0 "value" "[B" .null := (D2 (Or.inr (w40 hw)) (ty := (.array .byte)) (by decide))
 refine o_dup K X2 at_265 rfl rfl ?_
 refine o_aload K X2 at_266 rfl rfl rfl ?_
 have m3 := ((q0.ext E1).ext E2)
 refine o_special K X2 (y := (⟨z0, "<init>", "([C)V"⟩ : MethodName)) rfl (w15 hw) (w16 hw) (w14 hw) (w17 hw) (by decide) (rm_str_1 l Z a0 hw b2 ar1 kar1 cs ca h2 A2 F2_value F2_coder G2 m3 q18 q19 q8.2) (by decide) rfl (argsL := [.ref ar1]) rfl (lenOf pd17 rfl) (W := 3) rfl (by decide) (by decide) (by decide) at_268 rfl ?_
 intro v4 T4 h4 X4 U4
 obtain ⟨vb_4, k_4, rfl, u4_0, u4_1, u4_2, u4_3, u4_4, u4_5⟩ := U4
 have G4_vb : Z.heap.size ≤ vb_4 := Nat.le_trans X2.ext0.1 u4_4
 show oGoes pp ee bb ss Z T4 (mkF mm 271 _ [.ref b2, .ref b1, .ref b1]) _ _ _
 refine o_new K X4 (w12 hw) (w13 hw) (w14 hw) at_271 rfl (by decide) (by decide) ?_
 intro T5 h5 b5 X5 g5 E5 A5 D5 G5
 have F5_coder : Fld Z h5 b5 z0 "coder" "B" (.int 0) := (D5 (Or.inr (w38 hw)) (ty := .byte) (by decide))
 have F5_value : Fld Z h5 b5 z0 "value" "[B" .null := (D5 (Or.inr (w40 hw)) (ty := (.array .byte)) (by decide))
 refine o_dup K X5 at_274 rfl rfl ?_
 refine o_aload K X5 at_275 rfl rfl rfl ?_
 have n6 := oLn q1.lt E1.1 (oLe g2)
 have m7 := ((((q1.ext E1).ext E2).keep u4_0 (ninS n6 nin0)).ext E5)
 refine o_special K X5 (y := (⟨z0, "<init>", "([C)V"⟩ : MethodName)) rfl (w15 hw) (w16 hw) (w14 hw) (w17 hw) (by decide) (rm_str_1 l Z a0 hw b5 ar2 kar2 cs da h5 A5 F5_value F5_coder G5 m7 q18 q19 q9.2) (by decide) rfl (argsL := [.ref ar2]) rfl (lenOf pd17 rfl) (W := 4) rfl (by decide) (by decide) (by decide) at_277 rfl ?_
 intro v8 T8 h8 X8 U8
 obtain ⟨vb_8, k_8, rfl, u8_0, u8_1, u8_2, u8_3, u8_4, u8_5⟩ := U8
 have G8_vb : Z.heap.size ≤ vb_8 := Nat.le_trans X5.ext0.1 u8_4
 show oGoes pp ee bb ss Z T8 (mkF mm 280 _ [.ref b5, .ref b2, .ref b1, .ref b1]) _ _ _
 have m9 := ((((A1.ext E2).keep u4_0).ext E5).keep u8_0)
 have n10 := oLz A1.lt (oLe g2)
 have n11 := oLn A1.lt (Nat.le_trans E2.1 u4_0.1) (oLe g5)
 have m12 := ((((F1_shelf.ext E2).keep u4_0 (ninS n10 nin0)).ext E5).keep u8_0 (ninS n11 nin0))
 have m13 := ((((F1_id.ext E2).keep u4_0 (ninS n10 nin0)).ext E5).keep u8_0 (ninS n11 nin0))
 have m14 := ((u4_1.ext E5).keep u8_0)
 have n15 := oLn A2.lt u4_0.1 (oLe g5)
 have m16 := ((u4_2.ext E5).keep u8_0 (ninS n15 nin0))
 have m17 := ((u4_3.ext E5).keep u8_0 (ninS n15 nin0))
 have n18 := oLz u4_5.lt (oLe g5)
 have m19 := ((u4_5.ext E5).keep u8_0 (ninS n18 nin0))
 refine o_special K X8 (y := (⟨z1, "<init>", z8⟩ : MethodName)) rfl (w41 hw) (w42 hw) (w11 hw) (w43 hw) (by decide) (rm_rk11 l Z a0 hw b1 b2 vb_4 k_4 b5 vb_8 k_8 ca da fm cs h8 m9 G1 m12 m13 m14 m16 m17 m19 u8_1 u8_2 u8_3 u8_5 q4 q5 q8 q9 q16 q17 q18 q19) (by decide) rfl (argsL := [.ref b2, .ref b5]) rfl (lenOf pd18 rfl) (W := 1) rfl (by decide) (by decide) (by decide) at_280 rfl ?_
 intro v20 T20 h20 X20 U20
 obtain ⟨rfl, u20_0, u20_1, u20_2, u20_3⟩ := U20
 show oGoes pp ee bb ss Z T20 (mkF mm 283 _ [.ref b1]) _ _ _
 refine o_astore K X20 at_283 rfl rfl (L' := #[vI i0, vI i1, vI i2, vI i3, vI i4, vI i5, vI 1, vI 1, vI cp, vI cq, vI 1, vI 1, vR ar1, vR ar2, vR ar3, vR ar4, vR b1, uS, uS, uS, uS, uS]) rfl ?_
 refine o_new K X20 (w9 hw) (w10 hw) (w11 hw) at_285 rfl (by decide) (by decide) ?_
 intro T21 h21 b21 X21 g21 E21 A21 D21 G21
 have F21_shelf : Fld Z h21 b21 z1 "shelf" z2 .null := (D21 (Or.inr (w109 hw)) (ty := (.object z0)) (by decide))
 have F21_id : Fld Z h21 b21 z1 "id" z2 .null := (D21 (Or.inr (w111 hw)) (ty := (.object z0)) (by decide))
 refine o_dup K X21 at_288 rfl rfl ?_
 refine o_new K X21 (w12 hw) (w13 hw) (w14 hw) at_289 rfl (by decide) (by decide) ?_
 intro T22 h22 b22 X22 g22 E22 A22 D22 G22
 have F22_coder : Fld Z h22 b22 z0 "coder" "B" (.int 0) := (D22 (Or.inr (w38 hw)) (ty := .byte) (by decide))
 have F22_value : Fld Z h22 b22 z0 "value" "[B" .null := (D22 (Or.inr (w40 hw)) (ty := (.array .byte)) (by decide))
 refine o_dup K X22 at_292 rfl rfl ?_
 refine o_aload K X22 at_293 rfl rfl rfl ?_
 have n23 := oLn q2.lt E1.1 (oLe g2)
 have y0_3 := Nat.le_trans (Nat.le_trans E1.1 E2.1) u4_0.1
 have n24 := oLn q2.lt y0_3 (oLe g5)
 have n25 := oLz q2.lt (oLe g1)
 have m26 := ((((((((q2.ext E1).ext E2).keep u4_0 (ninS n23 nin0)).ext E5).keep u8_0 (ninS n24 nin0)).keep u20_0 (ninS n25 nin0)).ext E21).ext E22)
 refine o_special K X22 (y := (⟨z0, "<init>", "([C)V"⟩ : MethodName)) rfl (w15 hw) (w16 hw) (w14 hw) (w17 hw) (by decide) (rm_str_1 l Z a0 hw b22 ar3 kar3 cs ua h22 A22 F22_value F22_coder G22 m26 q18 q19 q10.2) (by decide) rfl (argsL := [.ref ar3]) rfl (lenOf pd17 rfl) (W := 3) rfl (by decide) (by decide) (by decide) at_295 rfl ?_
 intro v27 T27 h27 X27 U27
 obtain ⟨vb_27, k_27, rfl, u27_0, u27_1, u27_2, u27_3, u27_4, u27_5⟩ := U27
 have G27_vb : Z.heap.size ≤ vb_27 := Nat.le_trans X22.ext0.1 u27_4
 show oGoes pp ee bb ss Z T27 (mkF mm 298 _ [.ref b22, .ref b21, .ref b21]) _ _ _
 refine o_new K X27 (w12 hw) (w13 hw) (w14 hw) at_298 rfl (by decide) (by decide) ?_
 intro T28 h28 b28 X28 g28 E28 A28 D28 G28
 have F28_coder : Fld Z h28 b28 z0 "coder" "B" (.int 0) := (D28 (Or.inr (w38 hw)) (ty := .byte) (by decide))
 have F28_value : Fld Z h28 b28 z0 "value" "[B" .null := (D28 (Or.inr (w40 hw)) (ty := (.array .byte)) (by decide))
 refine o_dup K X28 at_301 rfl rfl ?_
 refine o_aload K X28 at_302 rfl rfl rfl ?_
 have n29 := oLn q3.lt E1.1 (oLe g2)
 have n30 := oLn q3.lt y0_3 (oLe g5)
 have n31 := oLz q3.lt (oLe g1)
 have y0_7 := Nat.le_trans (Nat.le_trans (Nat.le_trans (Nat.le_trans y0_3 E5.1) u8_0.1) u20_0.1) E21.1
 have n32 := oLn q3.lt y0_7 (oLe g22)
 have m33 := ((((((((((q3.ext E1).ext E2).keep u4_0 (ninS n29 nin0)).ext E5).keep u8_0 (ninS n30 nin0)).keep u20_0 (ninS n31 nin0)).ext E21).ext E22).keep u27_0 (ninS n32 nin0)).ext E28)
 refine o_special K X28 (y := (⟨z0, "<init>", "([C)V"⟩ : MethodName)) rfl (w15 hw) (w16 hw) (w14 hw) (w17 hw) (by decide) (rm_str_1 l Z a0 hw b28 ar4 kar4 cs ya h28 A28 F28_value F28_coder G28 m33 q18 q19 q11.2) (by decide) rfl (argsL := [.ref ar4]) rfl (lenOf pd17 rfl) (W := 4) rfl (by decide) (by decide) (by decide) at_304 rfl ?_
 intro v34 T34 h34 X34 U34
 obtain ⟨vb_34, k_34, rfl, u34_0, u34_1, u34_2, u34_3, u34_4, u34_5⟩ := U34
 have G34_vb : Z.heap.size ≤ vb_34 := Nat.le_trans X28.ext0.1 u34_4
 show oGoes pp ee bb ss Z T34 (mkF mm 307 _ [.ref b28, .ref b22, .ref b21, .ref b21]) _ _ _
 have m35 := ((((A21.ext E22).keep u27_0).ext E28).keep u34_0)
 have n36 := oLz A21.lt (oLe g22)
 have n37 := oLn A21.lt (Nat.le_trans E22.1 u27_0.1) (oLe g28)
 have m38 := ((((F21_shelf.ext E22).keep u27_0 (ninS n36 nin0)).ext E28).keep u34_0 (ninS n37 nin0))
 have m39 := ((((F21_id.ext E22).keep u27_0 (ninS n36 nin0)).ext E28).keep u34_0 (ninS n37 nin0))
 have m40 := ((u27_1.ext E28).keep u34_0)
 have n41 := oLn A22.lt u27_0.1 (oLe g28)
 have m42 := ((u27_2.ext E28).keep u34_0 (ninS n41 nin0))
 have m43 := ((u27_3.ext E28).keep u34_0 (ninS n41 nin0))
 have n44 := oLz u27_5.lt (oLe g28)
 have m45 := ((u27_5.ext E28).keep u34_0 (ninS n44 nin0))
 refine o_special K X34 (y := (⟨z1, "<init>", z8⟩ : MethodName)) rfl (w41 hw) (w42 hw) (w11 hw) (w43 hw) (by decide) (rm_rk11 l Z a0 hw b21 b22 vb_27 k_27 b28 vb_34 k_34 ua ya fm cs h34 m35 G21 m38 m39 m40 m42 m43 m45 u34_1 u34_2 u34_3 u34_5 q6 q7 q10 q11 q16 q17 q18 q19) (by decide) rfl (argsL := [.ref b22, .ref b28]) rfl (lenOf pd18 rfl) (W := 1) rfl (by decide) (by decide) (by decide) at_307 rfl ?_
 intro v46 T46 h46 X46 U46
 obtain ⟨rfl, u46_0, u46_1, u46_2, u46_3⟩ := U46
 show oGoes pp ee bb ss Z T46 (mkF mm 310 _ [.ref b21]) _ _ _
 refine o_astore K X46 at_310 rfl rfl (L' := #[vI i0, vI i1, vI i2, vI i3, vI i4, vI i5, vI 1, vI 1, vI cp, vI cq, vI 1, vI 1, vR ar1, vR ar2, vR ar3, vR ar4, vR b1, vR b21, uS, uS, uS, uS]) rfl ?_
 have m47 := ((((((u20_1.ext E21).ext E22).keep u27_0).ext E28).keep u34_0).keep u46_0)
 have y1_7 := Nat.le_trans (Nat.le_trans (Nat.le_trans (Nat.le_trans (Nat.le_trans E2.1 u4_0.1) E5.1) u8_0.1) u20_0.1) E21.1
 have n48 := oLn A1.lt y1_7 (oLe g22)
 have y1_9 := Nat.le_trans (Nat.le_trans y1_7 E22.1) u27_0.1
 have n49 := oLn A1.lt y1_9 (oLe g28)
 have y1_6 := Nat.le_trans (Nat.le_trans (Nat.le_trans (Nat.le_trans E2.1 u4_0.1) E5.1) u8_0.1) u20_0.1
 have n50 := oLn A1.lt y1_6 (oLe g21)
 have m51 := ((((((u20_2.ext E21).ext E22).keep u27_0 (ninS n48 nin0)).ext E28).keep u34_0 (ninS n49 nin0)).keep u46_0 (ninS n50 nin0))
 have m52 := (((((((m14.keep u20_0).ext E21).ext E22).keep u27_0).ext E28).keep u34_0).keep u46_0)
 have y2_7 := Nat.le_trans (Nat.le_trans (Nat.le_trans (Nat.le_trans u4_0.1 E5.1) u8_0.1) u20_0.1) E21.1
 have n53 := oLn A2.lt y2_7 (oLe g22)
 have y2_9 := Nat.le_trans (Nat.le_trans y2_7 E22.1) u27_0.1
 have n54 := oLn A2.lt y2_9 (oLe g28)
 have y2_6 := Nat.le_trans (Nat.le_trans (Nat.le_trans u4_0.1 E5.1) u8_0.1) u20_0.1
 have n55 := oLn A2.lt y2_6 (oLe g21)
 have m56 := (((((((m16.keep u20_0 (ninS (Ne.symm n10) nin0)).ext E21).ext E22).keep u27_0 (ninS n53 nin0)).ext E28).keep u34_0 (ninS n54 nin0)).keep u46_0 (ninS n55 nin0))
 have m57 := (((((((m17.keep u20_0 (ninS (Ne.symm n10) nin0)).ext E21).ext E22).keep u27_0 (ninS n53 nin0)).ext E28).keep u34_0 (ninS n54 nin0)).keep u46_0 (ninS n55 nin0))
 have n59 := oLsn A1.lt E2.1 u4_4
 have y3_7 := Nat.le_trans (Nat.le_trans (Nat.le_trans E5.1 u8_0.1) u20_0.1) E21.1
 have n60 := oLn u4_5.lt y3_7 (oLe g22)
 have y3_9 := Nat.le_trans (Nat.le_trans y3_7 E22.1) u27_0.1
 have n61 := oLn u4_5.lt y3_9 (oLe g28)
 have y3_6 := Nat.le_trans (Nat.le_trans E5.1 u8_0.1) u20_0.1
 have n62 := oLn u4_5.lt y3_6 (oLe g21)
 have m63 := (((((((m19.keep u20_0 (ninS n59 nin0)).ext E21).ext E22).keep u27_0 (ninS n60 nin0)).ext E28).keep u34_0 (ninS n61 nin0)).keep u46_0 (ninS n62 nin0))
 have o58 := oByC (oBy1 ca ca) m63
 have m64 := ((((((u20_3.ext E21).ext E22).keep u27_0 (ninS n48 nin0)).ext E28).keep u34_0 (ninS n49 nin0)).keep u46_0 (ninS n50 nin0))
 have m65 := (((((((u8_1.keep u20_0).ext E21).ext E22).keep u27_0).ext E28).keep u34_0).keep u46_0)
 have y4_7 := Nat.le_trans (Nat.le_trans u8_0.1 u20_0.1) E21.1
 have n66 := oLn A5.lt y4_7 (oLe g22)
 have y4_9 := Nat.le_trans (Nat.le_trans y4_7 E22.1) u27_0.1
 have n67 := oLn A5.lt y4_9 (oLe g28)
 have n68 := oLn A5.lt (Nat.le_trans u8_0.1 u20_0.1) (oLe g21)
 have m69 := (((((((u8_2.keep u20_0 (ninS (Ne.symm n11) nin0)).ext E21).ext E22).keep u27_0 (ninS n66 nin0)).ext E28).keep u34_0 (ninS n67 nin0)).keep u46_0 (ninS n68 nin0))
 have m70 := (((((((u8_3.keep u20_0 (ninS (Ne.symm n11) nin0)).ext E21).ext E22).keep u27_0 (ninS n66 nin0)).ext E28).keep u34_0 (ninS n67 nin0)).keep u46_0 (ninS n68 nin0))
 have y1_4 := Nat.le_trans (Nat.le_trans E2.1 u4_0.1) E5.1
 have n72 := oLsn A1.lt y1_4 u8_4
 have n73 := oLn u8_5.lt (Nat.le_trans u20_0.1 E21.1) (oLe g22)
 have y5_9 := Nat.le_trans (Nat.le_trans (Nat.le_trans u20_0.1 E21.1) E22.1) u27_0.1
 have n74 := oLn u8_5.lt y5_9 (oLe g28)
 have n75 := oLn u8_5.lt u20_0.1 (oLe g21)
 have m76 := (((((((u8_5.keep u20_0 (ninS n72 nin0)).ext E21).ext E22).keep u27_0 (ninS n73 nin0)).ext E28).keep u34_0 (ninS n74 nin0)).keep u46_0 (ninS n75 nin0))
 have o71 := oByC (oBy1 da da) m76
 have m77 := (m40.keep u46_0)
 have m78 := (m42.keep u46_0 (ninS (Ne.symm n36) nin0))
 have m79 := (m43.keep u46_0 (ninS (Ne.symm n36) nin0))
 have n81 := oLsn A21.lt E22.1 u27_4
 have m82 := (m45.keep u46_0 (ninS n81 nin0))
 have o80 := oByC (oBy1 ua ua) m82
 have m83 := (u34_1.keep u46_0)
 have m84 := (u34_2.keep u46_0 (ninS (Ne.symm n37) nin0))
 have m85 := (u34_3.keep u46_0 (ninS (Ne.symm n37) nin0))
 have y7_10 := Nat.le_trans (Nat.le_trans E22.1 u27_0.1) E28.1
 have n87 := oLsn A21.lt y7_10 u34_4
 have m88 := (u34_5.keep u46_0 (ninS n87 nin0))
 have o86 := oByC (oBy1 ya ya) m88
 have n89 := oLn q0.lt E1.1 (oLe g2)
 have n90 := oLn q0.lt y0_3 (oLe g5)
 have n91 := oLz q0.lt (oLe g1)
 have n92 := oLn q0.lt y0_7 (oLe g22)
 have y0_9 := Nat.le_trans (Nat.le_trans y0_7 E22.1) u27_0.1
 have n93 := oLn q0.lt y0_9 (oLe g28)
 have y0_6 := Nat.le_trans (Nat.le_trans (Nat.le_trans y0_3 E5.1) u8_0.1) u20_0.1
 have n94 := oLn q0.lt y0_6 (oLe g21)
 have m95 := ((((((((((m3.keep u4_0 (ninS n89 nin0)).ext E5).keep u8_0 (ninS n90 nin0)).keep u20_0 (ninS n91 nin0)).ext E21).ext E22).keep u27_0 (ninS n92 nin0)).ext E28).keep u34_0 (ninS n93 nin0)).keep u46_0 (ninS n94 nin0))
 have n96 := oLn q1.lt y0_3 (oLe g5)
 have n97 := oLz q1.lt (oLe g1)
 have n98 := oLn q1.lt y0_7 (oLe g22)
 have n99 := oLn q1.lt y0_9 (oLe g28)
 have n100 := oLn q1.lt y0_6 (oLe g21)
 have m101 := ((((((((m7.keep u8_0 (ninS n96 nin0)).keep u20_0 (ninS n97 nin0)).ext E21).ext E22).keep u27_0 (ninS n98 nin0)).ext E28).keep u34_0 (ninS n99 nin0)).keep u46_0 (ninS n100 nin0))
 have n102 := oLn q2.lt y0_7 (oLe g22)
 have n103 := oLn q2.lt y0_9 (oLe g28)
 have n104 := oLn q2.lt y0_6 (oLe g21)
 have m105 := ((((m26.keep u27_0 (ninS n102 nin0)).ext E28).keep u34_0 (ninS n103 nin0)).keep u46_0 (ninS n104 nin0))
 have n106 := oLn q3.lt y0_9 (oLe g28)
 have n107 := oLn q3.lt y0_6 (oLe g21)
 have m108 := ((m33.keep u34_0 (ninS n106 nin0)).keep u46_0 (ninS n107 nin0))
 refine o_iload K X46 at_312 rfl rfl ?_
 refine o_iconst K X46 at_314 rfl (z := 2) rfl ?_
 refine o_iushr K X46 at_315 rfl (z := ((i5.toUInt32 >>> ((2 : Int32) &&& 31).toUInt32).toInt32)) rfl ?_
 refine o_bipush K X46 at_316 rfl (z := 7) rfl ?_
 refine o_iand K X46 at_318 rfl (z := (((i5.toUInt32 >>> ((2 : Int32) &&& 31).toUInt32).toInt32) &&& (7 : Int32))) rfl ?_
 refine o_istore K X46 at_319 rfl (L' := #[vI i0, vI i1, vI i2, vI i3, vI i4, vI i5, vI 1, vI 1, vI cp, vI cq, vI 1, vI 1, vR ar1, vR ar2, vR ar3, vR ar4, vR b1, vR b21, vI (((i5.toUInt32 >>> ((2 : Int32) &&& 31).toUInt32).toInt32) &&& (7 : Int32)), uS, uS, uS]) rfl ?_
 refine o_iload K X46 at_321 rfl rfl ?_
 refine o_iconst K X46 at_323 rfl (z := 5) rfl ?_
 by_cases c324_109 : (((i5.toUInt32 >>> ((2 : Int32) &&& 31).toUInt32).toInt32) &&& (7 : Int32)) = (5 : Int32)
 refine o_icmp_ne_f K X46 at_324 rfl c324_109 ?_
 refine o_aload K X46 at_327 rfl rfl rfl ?_
 refine o_aconst_null K X46 at_329 rfl ?_
 refine o_virtual K X46   (w112 hw) (w113 hw) (oNF (w115 hw)) (w115 hw) (w114 hw) (w11 hw) (w116 hw) (by decide) m47 (rm_eqnull l Z a0 hw b1 h46) (by decide) rfl (argsL := [.null]) rfl (lenOf pd16 rfl) (W := 0) rfl (by decide) (by decide) (by decide) at_330 rfl ?_
 intro v110 T110 h110 X110 U110
 obtain ⟨rfl, rfl⟩ := U110
 show oGoes pp ee bb ss Z T110 (mkF mm 333 _ [.int 0]) _ _ _
 refine o_if_ne_f K X110 at_333 rfl (by decide) ?_
 refine o_iconst K X110 at_336 rfl (z := 1) rfl ?_
 refine o_goto K X110 at_337 (by decide) (pc' := 341) (by decide) ?_
 refine o_ireturnN K X110 .boolean at_341 rfl (by simp) (z' := 1) (by decide) ?_ (by decide) (by decide)
 exact hQ _ _ rfl
 refine o_icmp_ne_t K X46 at_324 (by decide) (pc' := 342) (by decide) c324_109 ?_
 refine o_iload K X46 at_342 rfl rfl ?_
 refine o_bipush K X46 at_344 rfl (z := 6) rfl ?_
 by_cases c346_111 : (((i5.toUInt32 >>> ((2 : Int32) &&& 31).toUInt32).toInt32) &&& (7 : Int32)) = (6 : Int32)
 refine o_icmp_ne_f K X46 at_346 rfl c346_111 ?_
 refine o_aload K X46 at_349 rfl rfl rfl ?_
 refine o_new K X46 (w12 hw) (w13 hw) (w14 hw) at_351 rfl (by decide) (by decide) ?_
 intro T112 h112 b112 X112 g112 E112 A112 D112 G112
 have F112_coder : Fld Z h112 b112 z0 "coder" "B" (.int 0) := (D112 (Or.inr (w38 hw)) (ty := .byte) (by decide))
 have F112_value : Fld Z h112 b112 z0 "value" "[B" .null := (D112 (Or.inr (w40 hw)) (ty := (.array .byte)) (by decide))
 refine o_dup K X112 at_354 rfl rfl ?_
 refine o_aload K X112 at_355 rfl rfl rfl ?_
 have m113 := (m95.ext E112)
 refine o_special K X112 (y := (⟨z0, "<init>", "([C)V"⟩ : MethodName)) rfl (w15 hw) (w16 hw) (w14 hw) (w17 hw) (by decide) (rm_str_1 l Z a0 hw b112 ar1 kar1 cs ca h112 A112 F112_value F112_coder G112 m113 q18 q19 q8.2) (by decide) rfl (argsL := [.ref ar1]) rfl (lenOf pd17 rfl) (W := 2) rfl (by decide) (by decide) (by decide) at_357 rfl ?_
 intro v114 T114 h114 X114 U114
 obtain ⟨vb_114, k_114, rfl, u114_0, u114_1, u114_2, u114_3, u114_4, u114_5⟩ := U114
 have G114_vb : Z.heap.size ≤ vb_114 := Nat.le_trans X112.ext0.1 u114_4
 show oGoes pp ee bb ss Z T114 (mkF mm 360 _ [.ref b112, .ref b1]) _ _ _
 have m115 := ((m47.ext E112).keep u114_0)
 refine o_virtual K X114   (w112 hw) (w113 hw) (oNF (w115 hw)) (w115 hw) (w114 hw) (w11 hw) (w116 hw) (by decide) m115 (rm_eqstr l Z a0 hw b1 b112 h114 u114_1) (by decide) rfl (argsL := [.ref b112]) rfl (lenOf pd16 rfl) (W := 0) rfl (by decide) (by decide) (by decide) at_360 rfl ?_
 intro v116 T116 h116 X116 U116
 obtain ⟨rfl, rfl⟩ := U116
 show oGoes pp ee bb ss Z T116 (mkF mm 363 _ [.int 0]) _ _ _
 refine o_if_ne_f K X116 at_363 rfl (by decide) ?_
 refine o_iconst K X116 at_366 rfl (z := 1) rfl ?_
 refine o_goto K X116 at_367 (by decide) (pc' := 371) (by decide) ?_
 refine o_ireturnN K X116 .boolean at_371 rfl (by simp) (z' := 1) (by decide) ?_ (by decide) (by decide)
 exact hQ _ _ rfl
 refine o_icmp_ne_t K X46 at_346 (by decide) (pc' := 372) (by decide) c346_111 ?_
 refine o_iload K X46 at_372 rfl rfl ?_
 refine o_bipush K X46 at_374 rfl (z := 7) rfl ?_
 by_cases c376_117 : (((i5.toUInt32 >>> ((2 : Int32) &&& 31).toUInt32).toInt32) &&& (7 : Int32)) = (7 : Int32)
 refine o_icmp_ne_f K X46 at_376 rfl c376_117 ?_
 refine o_aload K X46 at_379 rfl rfl rfl ?_
 refine o_aload K X46 at_381 rfl rfl rfl ?_
 refine o_virtual K X46   (w112 hw) (w113 hw) (oNF (w115 hw)) (w115 hw) (w114 hw) (w11 hw) (w116 hw) (by decide) m47 (rm_eqself l Z a0 hw b1 b2 b5 h46 m47 m51 m64 m52 m65) (by decide) rfl (argsL := [.ref b1]) rfl (lenOf pd16 rfl) (W := 0) rfl (by decide) (by decide) (by decide) at_383 rfl ?_
 intro v118 T118 h118 X118 U118
 obtain ⟨rfl, rfl⟩ := U118
 show oGoes pp ee bb ss Z T118 (mkF mm 386 _ [.int 1]) _ _ _
 refine o_ireturnN K X118 .boolean at_386 rfl (by simp) (z' := 1) (by decide) ?_ (by decide) (by decide)
 exact hQ _ _ rfl
 refine o_icmp_ne_t K X46 at_376 (by decide) (pc' := 387) (by decide) c376_117 ?_
 refine o_iload K X46 at_387 rfl rfl ?_
 refine o_iload K X46 at_389 rfl rfl ?_
 refine o_icmp_ne_f K X46 at_391 rfl (by decide) ?_
 refine o_aload K X46 at_394 rfl rfl rfl ?_
 refine o_iconst K X46 at_396 rfl (z := 0) rfl ?_
 refine o_caload K X46 m95 (by decide) (v := (.int ca)) rfl at_397 rfl ?_
 refine o_aload K X46 at_398 rfl rfl rfl ?_
 refine o_iconst K X46 at_400 rfl (z := 0) rfl ?_
 refine o_caload K X46 m105 (by decide) (v := (.int ua)) rfl at_401 rfl ?_
 by_cases c402_119 : ca = ua
 refine o_icmp_ne_f K X46 at_402 rfl c402_119 ?_
 refine o_iload K X46 at_405 rfl rfl ?_
 refine o_iconst K X46 at_407 rfl (z := 1) rfl ?_
 refine o_icmp_eq_t K X46 at_408 (by decide) (pc' := 422) (by decide) (by decide) ?_
 refine o_iconst K X46 at_422 rfl (z := 1) rfl ?_
 refine o_goto K X46 at_423 (by decide) (pc' := 427) (by decide) ?_
 refine o_istore K X46 at_427 rfl (L' := #[vI i0, vI i1, vI i2, vI i3, vI i4, vI i5, vI 1, vI 1, vI cp, vI cq, vI 1, vI 1, vR ar1, vR ar2, vR ar3, vR ar4, vR b1, vR b21, vI (((i5.toUInt32 >>> ((2 : Int32) &&& 31).toUInt32).toInt32) &&& (7 : Int32)), vI 1, uS, uS]) rfl ?_
 refine o_iload K X46 at_429 rfl rfl ?_
 refine o_iload K X46 at_431 rfl rfl ?_
 refine o_icmp_ne_f K X46 at_433 rfl (by decide) ?_
 refine o_aload K X46 at_436 rfl rfl rfl ?_
 refine o_iconst K X46 at_438 rfl (z := 0) rfl ?_
 refine o_caload K X46 m101 (by decide) (v := (.int da)) rfl at_439 rfl ?_
 refine o_aload K X46 at_440 rfl rfl rfl ?_
 refine o_iconst K X46 at_442 rfl (z := 0) rfl ?_
 refine o_caload K X46 m108 (by decide) (v := (.int ya)) rfl at_443 rfl ?_
 by_cases c444_120 : da = ya
 refine o_icmp_ne_f K X46 at_444 rfl c444_120 ?_
 refine o_iload K X46 at_447 rfl rfl ?_
 refine o_iconst K X46 at_449 rfl (z := 1) rfl ?_
 refine o_icmp_eq_t K X46 at_450 (by decide) (pc' := 464) (by decide) (by decide) ?_
 refine o_iconst K X46 at_464 rfl (z := 1) rfl ?_
 refine o_goto K X46 at_465 (by decide) (pc' := 469) (by decide) ?_
 refine o_istore K X46 at_469 rfl (L' := #[vI i0, vI i1, vI i2, vI i3, vI i4, vI i5, vI 1, vI 1, vI cp, vI cq, vI 1, vI 1, vR ar1, vR ar2, vR ar3, vR ar4, vR b1, vR b21, vI (((i5.toUInt32 >>> ((2 : Int32) &&& 31).toUInt32).toInt32) &&& (7 : Int32)), vI 1, vI 1, uS]) rfl ?_
 refine tl_lw3 l Z a0 hw i0 i1 i2 i3 i4 i5 cp cq (((i5.toUInt32 >>> ((2 : Int32) &&& 31).toUInt32).toInt32) &&& (7 : Int32)) 1 1 ar1 ar2 ar3 ar4 b1 b21 b2 vb_4 k_4 b5 vb_8 k_8 b22 vb_27 k_27 b28 vb_34 k_34 1 1 1 1 ca ca da da ua ua ya ya cs h46 (by simp +decide [oSm, c402_119, c444_120]) (by simp +decide [oSm, c402_119, c444_120]) m47 m51 m64 u46_1 u46_2 u46_3 m52 m56 m57 o58 m65 m69 m70 o71 m77 m78 m79 o80 m83 m84 m85 o86 (by decide) (by decide) (by decide) (by decide) q8 q8 q9 q9 q10 q10 q11 q11 n53 n67 q18 q19 (fun v121 h121 U121 => ?_) K (X46.mono (by decide) (by decide))
 obtain rfl : v121 = some (.int 1) := U121
 exact hQ _ _ rfl
 refine o_icmp_ne_t K X46 at_444 (by decide) (pc' := 468) (by decide) c444_120 ?_
 refine o_iconst K X46 at_468 rfl (z := 0) rfl ?_
 refine o_istore K X46 at_469 rfl (L' := #[vI i0, vI i1, vI i2, vI i3, vI i4, vI i5, vI 1, vI 1, vI cp, vI cq, vI 1, vI 1, vR ar1, vR ar2, vR ar3, vR ar4, vR b1, vR b21, vI (((i5.toUInt32 >>> ((2 : Int32) &&& 31).toUInt32).toInt32) &&& (7 : Int32)), vI 1, vI 0, uS]) rfl ?_
 refine tl_lw3 l Z a0 hw i0 i1 i2 i3 i4 i5 cp cq (((i5.toUInt32 >>> ((2 : Int32) &&& 31).toUInt32).toInt32) &&& (7 : Int32)) 1 0 ar1 ar2 ar3 ar4 b1 b21 b2 vb_4 k_4 b5 vb_8 k_8 b22 vb_27 k_27 b28 vb_34 k_34 1 1 1 1 ca ca da da ua ua ya ya cs h46 (by simp +decide [oSm, c402_119, c444_120]) (by simp +decide [oSm, c402_119, c444_120]) m47 m51 m64 u46_1 u46_2 u46_3 m52 m56 m57 o58 m65 m69 m70 o71 m77 m78 m79 o80 m83 m84 m85 o86 (by decide) (by decide) (by decide) (by decide) q8 q8 q9 q9 q10 q10 q11 q11 n53 n67 q18 q19 (fun v122 h122 U122 => ?_) K (X46.mono (by decide) (by decide))
 obtain rfl : v122 = some (.int 1) := U122
 exact hQ _ _ rfl
 refine o_icmp_ne_t K X46 at_402 (by decide) (pc' := 426) (by decide) c402_119 ?_
 refine o_iconst K X46 at_426 rfl (z := 0) rfl ?_
 refine o_istore K X46 at_427 rfl (L' := #[vI i0, vI i1, vI i2, vI i3, vI i4, vI i5, vI 1, vI 1, vI cp, vI cq, vI 1, vI 1, vR ar1, vR ar2, vR ar3, vR ar4, vR b1, vR b21, vI (((i5.toUInt32 >>> ((2 : Int32) &&& 31).toUInt32).toInt32) &&& (7 : Int32)), vI 0, uS, uS]) rfl ?_
 refine o_iload K X46 at_429 rfl rfl ?_
 refine o_iload K X46 at_431 rfl rfl ?_
 refine o_icmp_ne_f K X46 at_433 rfl (by decide) ?_
 refine o_aload K X46 at_436 rfl rfl rfl ?_
 refine o_iconst K X46 at_438 rfl (z := 0) rfl ?_
 refine o_caload K X46 m101 (by decide) (v := (.int da)) rfl at_439 rfl ?_
 refine o_aload K X46 at_440 rfl rfl rfl ?_
 refine o_iconst K X46 at_442 rfl (z := 0) rfl ?_
 refine o_caload K X46 m108 (by decide) (v := (.int ya)) rfl at_443 rfl ?_
 by_cases c444_123 : da = ya
 refine o_icmp_ne_f K X46 at_444 rfl c444_123 ?_
 refine o_iload K X46 at_447 rfl rfl ?_
 refine o_iconst K X46 at_449 rfl (z := 1) rfl ?_
 refine o_icmp_eq_t K X46 at_450 (by decide) (pc' := 464) (by decide) (by decide) ?_
 refine o_iconst K X46 at_464 rfl (z := 1) rfl ?_
 refine o_goto K X46 at_465 (by decide) (pc' := 469) (by decide) ?_
 refine o_istore K X46 at_469 rfl (L' := #[vI i0, vI i1, vI i2, vI i3, vI i4, vI i5, vI 1, vI 1, vI cp, vI cq, vI 1, vI 1, vR ar1, vR ar2, vR ar3, vR ar4, vR b1, vR b21, vI (((i5.toUInt32 >>> ((2 : Int32) &&& 31).toUInt32).toInt32) &&& (7 : Int32)), vI 0, vI 1, uS]) rfl ?_
 refine tl_lw3 l Z a0 hw i0 i1 i2 i3 i4 i5 cp cq (((i5.toUInt32 >>> ((2 : Int32) &&& 31).toUInt32).toInt32) &&& (7 : Int32)) 0 1 ar1 ar2 ar3 ar4 b1 b21 b2 vb_4 k_4 b5 vb_8 k_8 b22 vb_27 k_27 b28 vb_34 k_34 1 1 1 1 ca ca da da ua ua ya ya cs h46 (by simp +decide [oSm, c402_119, c444_123]) (by simp +decide [oSm, c402_119, c444_123]) m47 m51 m64 u46_1 u46_2 u46_3 m52 m56 m57 o58 m65 m69 m70 o71 m77 m78 m79 o80 m83 m84 m85 o86 (by decide) (by decide) (by decide) (by decide) q8 q8 q9 q9 q10 q10 q11 q11 n53 n67 q18 q19 (fun v124 h124 U124 => ?_) K (X46.mono (by decide) (by decide))
 obtain rfl : v124 = some (.int 1) := U124
 exact hQ _ _ rfl
 refine o_icmp_ne_t K X46 at_444 (by decide) (pc' := 468) (by decide) c444_123 ?_
 refine o_iconst K X46 at_468 rfl (z := 0) rfl ?_
 refine o_istore K X46 at_469 rfl (L' := #[vI i0, vI i1, vI i2, vI i3, vI i4, vI i5, vI 1, vI 1, vI cp, vI cq, vI 1, vI 1, vR ar1, vR ar2, vR ar3, vR ar4, vR b1, vR b21, vI (((i5.toUInt32 >>> ((2 : Int32) &&& 31).toUInt32).toInt32) &&& (7 : Int32)), vI 0, vI 0, uS]) rfl ?_
 refine tl_lw3 l Z a0 hw i0 i1 i2 i3 i4 i5 cp cq (((i5.toUInt32 >>> ((2 : Int32) &&& 31).toUInt32).toInt32) &&& (7 : Int32)) 0 0 ar1 ar2 ar3 ar4 b1 b21 b2 vb_4 k_4 b5 vb_8 k_8 b22 vb_27 k_27 b28 vb_34 k_34 1 1 1 1 ca ca da da ua ua ya ya cs h46 (by simp +decide [oSm, c402_119, c444_123]) (by simp +decide [oSm, c402_119, c444_123]) m47 m51 m64 u46_1 u46_2 u46_3 m52 m56 m57 o58 m65 m69 m70 o71 m77 m78 m79 o80 m83 m84 m85 o86 (by decide) (by decide) (by decide) (by decide) q8 q8 q9 q9 q10 q10 q11 q11 n53 n67 q18 q19 (fun v125 h125 U125 => ?_) K (X46.mono (by decide) (by decide))
 obtain rfl : v125 = some (.int 1) := U125
 exact hQ _ _ rfl
def Q_t258_1112 (Z : State) (i0 i1 i2 i3 i4 i5 cp cq : Int32) (ar1 : Addr) (kar1 : ClassId) (ar2 : Addr) (kar2 : ClassId) (ar3 : Addr) (kar3 : ClassId) (ar4 : Addr) (kar4 : ClassId) (ca da ua ya yb : Int32) (fm : Value) (cs : Int32) (h0 : Heap) (v : Option Value) (h : Heap) : Prop := v = some (.int 1)
theorem tl_t258_1112 (l : Launch) (Z : State) (a0 : Array Value) (hw : oHw Z a0) (i0 i1 i2 i3 i4 i5 cp cq : Int32) (ar1 : Addr) (kar1 : ClassId) (ar2 : Addr) (kar2 : ClassId) (ar3 : Addr) (kar3 : ClassId) (ar4 : Addr) (kar4 : ClassId) (ca da ua ya yb : Int32) (fm : Value) (cs : Int32) (h0 : Heap) (q0 : oArr Z h0 ar1 kar1 .char [.int ca]) (q1 : oArr Z h0 ar2 kar2 .char [.int da]) (q2 : oArr Z h0 ar3 kar3 .char [.int ua]) (q3 : oArr Z h0 ar4 kar4 .char [.int ya, .int yb]) (q4 : oSh ca) (q5 : oId da) (q6 : oSh ua) (q7 : oId ya) (q8 : oId yb) (q9 : oCh ca) (q10 : oCh da) (q11 : oCh ua) (q12 : oCh ya) (q13 : oCh yb) (q14 : nar .char ca = ca) (q15 : nar .char da = da) (q16 : nar .char ua = ua) (q17 : nar .char ya = ya) (q18 : nar .char yb = yb) (q19 : Sta Z Z.heap z3 z5 z6 fm) (q20 : fm.isRef = true) (q21 : Sta Z Z.heap z0 z4 "Z" (.int cs)) (q22 : ¬ (cs = (0 : Int32))) {Q : Option Value → Heap → Prop} (hQ : ∀ v h, Q_t258_1112 Z i0 i1 i2 i3 i4 i5 cp cq ar1 kar1 ar2 kar2 ar3 kar3 ar4 kar4 ca da ua ya yb fm cs h0 v h → Q v h) {pp : Program} {ee : Env} {ss : State} {mm : MethodId} {bb : List Frame} {mtd : Method} {cc : Code} {A : Array Value} {T0 : State} (K : oCtx pp ss mm mtd cc Z z7 code maxLocals "law" ret x) (X0 : oSt pp l ee room_1 ss mm A bb mtd cc Z T0 h0 4 8) : oGoes pp ee bb ss Z T0 (mkF mm 258 #[vI i0, vI i1, vI i2, vI i3, vI i4, vI i5, vI 1, vI 1, vI cp, vI cq, vI 1, vI 2, vR ar1, vR ar2, vR ar3, vR ar4, uS, uS, uS, uS, uS, uS] []) Q room_1.cells room_1.slots := by
 have E0 := X0.ext0
 refine o_new K X0 (w9 hw) (w10 hw) (w11 hw) at_258 rfl (by decide) (by decide) ?_
 intro T1 h1 b1 X1 g1 E1 A1 D1 G1
 have F1_shelf : Fld Z h1 b1 z1 "shelf" z2 .null := (D1 (Or.inr (w109 hw)) (ty := (.object z0)) (by decide))
 have F1_id : Fld Z h1 b1 z1 "id" z2 .null := (D1 (Or.inr (w111 hw)) (ty := (.object z0)) (by decide))
 refine o_dup K X1 at_261 rfl rfl ?_
 refine o_new K X1 (w12 hw) (w13 hw) (w14 hw) at_262 rfl (by decide) (by decide) ?_
 intro T2 h2 b2 X2 g2 E2 A2 D2 G2
 have F2_coder : Fld Z h2 b2 z0 "coder" "B" (.int 0) := (D2 (Or.inr (w38 hw)) (ty := .byte) (by decide))
 have F2_value : Fld Z h2 b2 z0 "value" "[B" .null := (D2 (Or.inr (w40 hw)) (ty := (.array .byte)) (by decide))
 refine o_dup K X2 at_265 rfl rfl ?_
 refine o_aload K X2 at_266 rfl rfl rfl ?_
 have m3 := ((q0.ext E1).ext E2)
 refine o_special K X2 (y := (⟨z0, "<init>", "([C)V"⟩ : MethodName)) rfl (w15 hw) (w16 hw) (w14 hw) (w17 hw) (by decide) (rm_str_1 l Z a0 hw b2 ar1 kar1 cs ca h2 A2 F2_value F2_coder G2 m3 q21 q22 q9.2) (by decide) rfl (argsL := [.ref ar1]) rfl (lenOf pd17 rfl) (W := 3) rfl (by decide) (by decide) (by decide) at_268 rfl ?_
 intro v4 T4 h4 X4 U4
 obtain ⟨vb_4, k_4, rfl, u4_0, u4_1, u4_2, u4_3, u4_4, u4_5⟩ := U4
 have G4_vb : Z.heap.size ≤ vb_4 := Nat.le_trans X2.ext0.1 u4_4
 show oGoes pp ee bb ss Z T4 (mkF mm 271 _ [.ref b2, .ref b1, .ref b1]) _ _ _
 refine o_new K X4 (w12 hw) (w13 hw) (w14 hw) at_271 rfl (by decide) (by decide) ?_
 intro T5 h5 b5 X5 g5 E5 A5 D5 G5
 have F5_coder : Fld Z h5 b5 z0 "coder" "B" (.int 0) := (D5 (Or.inr (w38 hw)) (ty := .byte) (by decide))
 have F5_value : Fld Z h5 b5 z0 "value" "[B" .null := (D5 (Or.inr (w40 hw)) (ty := (.array .byte)) (by decide))
 refine o_dup K X5 at_274 rfl rfl ?_
 refine o_aload K X5 at_275 rfl rfl rfl ?_
 have n6 := oLn q1.lt E1.1 (oLe g2)
 have m7 := ((((q1.ext E1).ext E2).keep u4_0 (ninS n6 nin0)).ext E5)
 refine o_special K X5 (y := (⟨z0, "<init>", "([C)V"⟩ : MethodName)) rfl (w15 hw) (w16 hw) (w14 hw) (w17 hw) (by decide) (rm_str_1 l Z a0 hw b5 ar2 kar2 cs da h5 A5 F5_value F5_coder G5 m7 q21 q22 q10.2) (by decide) rfl (argsL := [.ref ar2]) rfl (lenOf pd17 rfl) (W := 4) rfl (by decide) (by decide) (by decide) at_277 rfl ?_
 intro v8 T8 h8 X8 U8
 obtain ⟨vb_8, k_8, rfl, u8_0, u8_1, u8_2, u8_3, u8_4, u8_5⟩ := U8
 have G8_vb : Z.heap.size ≤ vb_8 := Nat.le_trans X5.ext0.1 u8_4
 show oGoes pp ee bb ss Z T8 (mkF mm 280 _ [.ref b5, .ref b2, .ref b1, .ref b1]) _ _ _
 have m9 := ((((A1.ext E2).keep u4_0).ext E5).keep u8_0)
 have n10 := oLz A1.lt (oLe g2)
 have n11 := oLn A1.lt (Nat.le_trans E2.1 u4_0.1) (oLe g5)
 have m12 := ((((F1_shelf.ext E2).keep u4_0 (ninS n10 nin0)).ext E5).keep u8_0 (ninS n11 nin0))
 have m13 := ((((F1_id.ext E2).keep u4_0 (ninS n10 nin0)).ext E5).keep u8_0 (ninS n11 nin0))
 have m14 := ((u4_1.ext E5).keep u8_0)
 have n15 := oLn A2.lt u4_0.1 (oLe g5)
 have m16 := ((u4_2.ext E5).keep u8_0 (ninS n15 nin0))
 have m17 := ((u4_3.ext E5).keep u8_0 (ninS n15 nin0))
 have n18 := oLz u4_5.lt (oLe g5)
 have m19 := ((u4_5.ext E5).keep u8_0 (ninS n18 nin0))
 refine o_special K X8 (y := (⟨z1, "<init>", z8⟩ : MethodName)) rfl (w41 hw) (w42 hw) (w11 hw) (w43 hw) (by decide) (rm_rk11 l Z a0 hw b1 b2 vb_4 k_4 b5 vb_8 k_8 ca da fm cs h8 m9 G1 m12 m13 m14 m16 m17 m19 u8_1 u8_2 u8_3 u8_5 q4 q5 q9 q10 q19 q20 q21 q22) (by decide) rfl (argsL := [.ref b2, .ref b5]) rfl (lenOf pd18 rfl) (W := 1) rfl (by decide) (by decide) (by decide) at_280 rfl ?_
 intro v20 T20 h20 X20 U20
 obtain ⟨rfl, u20_0, u20_1, u20_2, u20_3⟩ := U20
 show oGoes pp ee bb ss Z T20 (mkF mm 283 _ [.ref b1]) _ _ _
 refine o_astore K X20 at_283 rfl rfl (L' := #[vI i0, vI i1, vI i2, vI i3, vI i4, vI i5, vI 1, vI 1, vI cp, vI cq, vI 1, vI 2, vR ar1, vR ar2, vR ar3, vR ar4, vR b1, uS, uS, uS, uS, uS]) rfl ?_
 refine o_new K X20 (w9 hw) (w10 hw) (w11 hw) at_285 rfl (by decide) (by decide) ?_
 intro T21 h21 b21 X21 g21 E21 A21 D21 G21
 have F21_shelf : Fld Z h21 b21 z1 "shelf" z2 .null := (D21 (Or.inr (w109 hw)) (ty := (.object z0)) (by decide))
 have F21_id : Fld Z h21 b21 z1 "id" z2 .null := (D21 (Or.inr (w111 hw)) (ty := (.object z0)) (by decide))
 refine o_dup K X21 at_288 rfl rfl ?_
 refine o_new K X21 (w12 hw) (w13 hw) (w14 hw) at_289 rfl (by decide) (by decide) ?_
 intro T22 h22 b22 X22 g22 E22 A22 D22 G22
 have F22_coder : Fld Z h22 b22 z0 "coder" "B" (.int 0) := (D22 (Or.inr (w38 hw)) (ty := .byte) (by decide))
 have F22_value : Fld Z h22 b22 z0 "value" "[B" .null := (D22 (Or.inr (w40 hw)) (ty := (.array .byte)) (by decide))
 refine o_dup K X22 at_292 rfl rfl ?_
 refine o_aload K X22 at_293 rfl rfl rfl ?_
 have n23 := oLn q2.lt E1.1 (oLe g2)
 have y0_3 := Nat.le_trans (Nat.le_trans E1.1 E2.1) u4_0.1
 have n24 := oLn q2.lt y0_3 (oLe g5)
 have n25 := oLz q2.lt (oLe g1)
 have m26 := ((((((((q2.ext E1).ext E2).keep u4_0 (ninS n23 nin0)).ext E5).keep u8_0 (ninS n24 nin0)).keep u20_0 (ninS n25 nin0)).ext E21).ext E22)
 refine o_special K X22 (y := (⟨z0, "<init>", "([C)V"⟩ : MethodName)) rfl (w15 hw) (w16 hw) (w14 hw) (w17 hw) (by decide) (rm_str_1 l Z a0 hw b22 ar3 kar3 cs ua h22 A22 F22_value F22_coder G22 m26 q21 q22 q11.2) (by decide) rfl (argsL := [.ref ar3]) rfl (lenOf pd17 rfl) (W := 3) rfl (by decide) (by decide) (by decide) at_295 rfl ?_
 intro v27 T27 h27 X27 U27
 obtain ⟨vb_27, k_27, rfl, u27_0, u27_1, u27_2, u27_3, u27_4, u27_5⟩ := U27
 have G27_vb : Z.heap.size ≤ vb_27 := Nat.le_trans X22.ext0.1 u27_4
 show oGoes pp ee bb ss Z T27 (mkF mm 298 _ [.ref b22, .ref b21, .ref b21]) _ _ _
 refine o_new K X27 (w12 hw) (w13 hw) (w14 hw) at_298 rfl (by decide) (by decide) ?_
 intro T28 h28 b28 X28 g28 E28 A28 D28 G28
 have F28_coder : Fld Z h28 b28 z0 "coder" "B" (.int 0) := (D28 (Or.inr (w38 hw)) (ty := .byte) (by decide))
 have F28_value : Fld Z h28 b28 z0 "value" "[B" .null := (D28 (Or.inr (w40 hw)) (ty := (.array .byte)) (by decide))
 refine o_dup K X28 at_301 rfl rfl ?_
 refine o_aload K X28 at_302 rfl rfl rfl ?_
 have n29 := oLn q3.lt E1.1 (oLe g2)
 have n30 := oLn q3.lt y0_3 (oLe g5)
 have n31 := oLz q3.lt (oLe g1)
 have y0_7 := Nat.le_trans (Nat.le_trans (Nat.le_trans (Nat.le_trans y0_3 E5.1) u8_0.1) u20_0.1) E21.1
 have n32 := oLn q3.lt y0_7 (oLe g22)
 have m33 := ((((((((((q3.ext E1).ext E2).keep u4_0 (ninS n29 nin0)).ext E5).keep u8_0 (ninS n30 nin0)).keep u20_0 (ninS n31 nin0)).ext E21).ext E22).keep u27_0 (ninS n32 nin0)).ext E28)
 refine o_special K X28 (y := (⟨z0, "<init>", "([C)V"⟩ : MethodName)) rfl (w15 hw) (w16 hw) (w14 hw) (w17 hw) (by decide) (rm_str_2 l Z a0 hw b28 ar4 kar4 cs ya yb h28 A28 F28_value F28_coder G28 m33 q21 q22 q12.2 q13.2) (by decide) rfl (argsL := [.ref ar4]) rfl (lenOf pd17 rfl) (W := 4) rfl (by decide) (by decide) (by decide) at_304 rfl ?_
 intro v34 T34 h34 X34 U34
 obtain ⟨vb_34, k_34, rfl, u34_0, u34_1, u34_2, u34_3, u34_4, u34_5⟩ := U34
 have G34_vb : Z.heap.size ≤ vb_34 := Nat.le_trans X28.ext0.1 u34_4
 show oGoes pp ee bb ss Z T34 (mkF mm 307 _ [.ref b28, .ref b22, .ref b21, .ref b21]) _ _ _
 have m35 := ((((A21.ext E22).keep u27_0).ext E28).keep u34_0)
 have n36 := oLz A21.lt (oLe g22)
 have n37 := oLn A21.lt (Nat.le_trans E22.1 u27_0.1) (oLe g28)
 have m38 := ((((F21_shelf.ext E22).keep u27_0 (ninS n36 nin0)).ext E28).keep u34_0 (ninS n37 nin0))
 have m39 := ((((F21_id.ext E22).keep u27_0 (ninS n36 nin0)).ext E28).keep u34_0 (ninS n37 nin0))
 have m40 := ((u27_1.ext E28).keep u34_0)
 have n41 := oLn A22.lt u27_0.1 (oLe g28)
 have m42 := ((u27_2.ext E28).keep u34_0 (ninS n41 nin0))
 have m43 := ((u27_3.ext E28).keep u34_0 (ninS n41 nin0))
 have n44 := oLz u27_5.lt (oLe g28)
 have m45 := ((u27_5.ext E28).keep u34_0 (ninS n44 nin0))
 refine o_special K X34 (y := (⟨z1, "<init>", z8⟩ : MethodName)) rfl (w41 hw) (w42 hw) (w11 hw) (w43 hw) (by decide) (rm_rk12 l Z a0 hw b21 b22 vb_27 k_27 b28 vb_34 k_34 ua ya yb fm cs h34 m35 G21 m38 m39 m40 m42 m43 m45 u34_1 u34_2 u34_3 u34_5 q6 q7 q8 q11 q12 q13 q19 q20 q21 q22) (by decide) rfl (argsL := [.ref b22, .ref b28]) rfl (lenOf pd18 rfl) (W := 1) rfl (by decide) (by decide) (by decide) at_307 rfl ?_
 intro v46 T46 h46 X46 U46
 obtain ⟨rfl, u46_0, u46_1, u46_2, u46_3⟩ := U46
 show oGoes pp ee bb ss Z T46 (mkF mm 310 _ [.ref b21]) _ _ _
 refine o_astore K X46 at_310 rfl rfl (L' := #[vI i0, vI i1, vI i2, vI i3, vI i4, vI i5, vI 1, vI 1, vI cp, vI cq, vI 1, vI 2, vR ar1, vR ar2, vR ar3, vR ar4, vR b1, vR b21, uS, uS, uS, uS]) rfl ?_
 have m47 := ((((((u20_1.ext E21).ext E22).keep u27_0).ext E28).keep u34_0).keep u46_0)
 have y1_7 := Nat.le_trans (Nat.le_trans (Nat.le_trans (Nat.le_trans (Nat.le_trans E2.1 u4_0.1) E5.1) u8_0.1) u20_0.1) E21.1
 have n48 := oLn A1.lt y1_7 (oLe g22)
 have y1_9 := Nat.le_trans (Nat.le_trans y1_7 E22.1) u27_0.1
 have n49 := oLn A1.lt y1_9 (oLe g28)
 have y1_6 := Nat.le_trans (Nat.le_trans (Nat.le_trans (Nat.le_trans E2.1 u4_0.1) E5.1) u8_0.1) u20_0.1
 have n50 := oLn A1.lt y1_6 (oLe g21)
 have m51 := ((((((u20_2.ext E21).ext E22).keep u27_0 (ninS n48 nin0)).ext E28).keep u34_0 (ninS n49 nin0)).keep u46_0 (ninS n50 nin0))
 have m52 := (((((((m14.keep u20_0).ext E21).ext E22).keep u27_0).ext E28).keep u34_0).keep u46_0)
 have y2_7 := Nat.le_trans (Nat.le_trans (Nat.le_trans (Nat.le_trans u4_0.1 E5.1) u8_0.1) u20_0.1) E21.1
 have n53 := oLn A2.lt y2_7 (oLe g22)
 have y2_9 := Nat.le_trans (Nat.le_trans y2_7 E22.1) u27_0.1
 have n54 := oLn A2.lt y2_9 (oLe g28)
 have y2_6 := Nat.le_trans (Nat.le_trans (Nat.le_trans u4_0.1 E5.1) u8_0.1) u20_0.1
 have n55 := oLn A2.lt y2_6 (oLe g21)
 have m56 := (((((((m16.keep u20_0 (ninS (Ne.symm n10) nin0)).ext E21).ext E22).keep u27_0 (ninS n53 nin0)).ext E28).keep u34_0 (ninS n54 nin0)).keep u46_0 (ninS n55 nin0))
 have m57 := (((((((m17.keep u20_0 (ninS (Ne.symm n10) nin0)).ext E21).ext E22).keep u27_0 (ninS n53 nin0)).ext E28).keep u34_0 (ninS n54 nin0)).keep u46_0 (ninS n55 nin0))
 have n59 := oLsn A1.lt E2.1 u4_4
 have y3_7 := Nat.le_trans (Nat.le_trans (Nat.le_trans E5.1 u8_0.1) u20_0.1) E21.1
 have n60 := oLn u4_5.lt y3_7 (oLe g22)
 have y3_9 := Nat.le_trans (Nat.le_trans y3_7 E22.1) u27_0.1
 have n61 := oLn u4_5.lt y3_9 (oLe g28)
 have y3_6 := Nat.le_trans (Nat.le_trans E5.1 u8_0.1) u20_0.1
 have n62 := oLn u4_5.lt y3_6 (oLe g21)
 have m63 := (((((((m19.keep u20_0 (ninS n59 nin0)).ext E21).ext E22).keep u27_0 (ninS n60 nin0)).ext E28).keep u34_0 (ninS n61 nin0)).keep u46_0 (ninS n62 nin0))
 have o58 := oByC (oBy1 ca ca) m63
 have m64 := ((((((u20_3.ext E21).ext E22).keep u27_0 (ninS n48 nin0)).ext E28).keep u34_0 (ninS n49 nin0)).keep u46_0 (ninS n50 nin0))
 have m65 := (((((((u8_1.keep u20_0).ext E21).ext E22).keep u27_0).ext E28).keep u34_0).keep u46_0)
 have y4_7 := Nat.le_trans (Nat.le_trans u8_0.1 u20_0.1) E21.1
 have n66 := oLn A5.lt y4_7 (oLe g22)
 have y4_9 := Nat.le_trans (Nat.le_trans y4_7 E22.1) u27_0.1
 have n67 := oLn A5.lt y4_9 (oLe g28)
 have n68 := oLn A5.lt (Nat.le_trans u8_0.1 u20_0.1) (oLe g21)
 have m69 := (((((((u8_2.keep u20_0 (ninS (Ne.symm n11) nin0)).ext E21).ext E22).keep u27_0 (ninS n66 nin0)).ext E28).keep u34_0 (ninS n67 nin0)).keep u46_0 (ninS n68 nin0))
 have m70 := (((((((u8_3.keep u20_0 (ninS (Ne.symm n11) nin0)).ext E21).ext E22).keep u27_0 (ninS n66 nin0)).ext E28).keep u34_0 (ninS n67 nin0)).keep u46_0 (ninS n68 nin0))
 have y1_4 := Nat.le_trans (Nat.le_trans E2.1 u4_0.1) E5.1
 have n72 := oLsn A1.lt y1_4 u8_4
 have n73 := oLn u8_5.lt (Nat.le_trans u20_0.1 E21.1) (oLe g22)
 have y5_9 := Nat.le_trans (Nat.le_trans (Nat.le_trans u20_0.1 E21.1) E22.1) u27_0.1
 have n74 := oLn u8_5.lt y5_9 (oLe g28)
 have n75 := oLn u8_5.lt u20_0.1 (oLe g21)
 have m76 := (((((((u8_5.keep u20_0 (ninS n72 nin0)).ext E21).ext E22).keep u27_0 (ninS n73 nin0)).ext E28).keep u34_0 (ninS n74 nin0)).keep u46_0 (ninS n75 nin0))
 have o71 := oByC (oBy1 da da) m76
 have m77 := (m40.keep u46_0)
 have m78 := (m42.keep u46_0 (ninS (Ne.symm n36) nin0))
 have m79 := (m43.keep u46_0 (ninS (Ne.symm n36) nin0))
 have n81 := oLsn A21.lt E22.1 u27_4
 have m82 := (m45.keep u46_0 (ninS n81 nin0))
 have o80 := oByC (oBy1 ua ua) m82
 have m83 := (u34_1.keep u46_0)
 have m84 := (u34_2.keep u46_0 (ninS (Ne.symm n37) nin0))
 have m85 := (u34_3.keep u46_0 (ninS (Ne.symm n37) nin0))
 have y7_10 := Nat.le_trans (Nat.le_trans E22.1 u27_0.1) E28.1
 have n87 := oLsn A21.lt y7_10 u34_4
 have m88 := (u34_5.keep u46_0 (ninS n87 nin0))
 have o86 := oByC (oBy2 ya yb) m88
 have n89 := oLn q0.lt E1.1 (oLe g2)
 have n90 := oLn q0.lt y0_3 (oLe g5)
 have n91 := oLz q0.lt (oLe g1)
 have n92 := oLn q0.lt y0_7 (oLe g22)
 have y0_9 := Nat.le_trans (Nat.le_trans y0_7 E22.1) u27_0.1
 have n93 := oLn q0.lt y0_9 (oLe g28)
 have y0_6 := Nat.le_trans (Nat.le_trans (Nat.le_trans y0_3 E5.1) u8_0.1) u20_0.1
 have n94 := oLn q0.lt y0_6 (oLe g21)
 have m95 := ((((((((((m3.keep u4_0 (ninS n89 nin0)).ext E5).keep u8_0 (ninS n90 nin0)).keep u20_0 (ninS n91 nin0)).ext E21).ext E22).keep u27_0 (ninS n92 nin0)).ext E28).keep u34_0 (ninS n93 nin0)).keep u46_0 (ninS n94 nin0))
 have n96 := oLn q1.lt y0_3 (oLe g5)
 have n97 := oLz q1.lt (oLe g1)
 have n98 := oLn q1.lt y0_7 (oLe g22)
 have n99 := oLn q1.lt y0_9 (oLe g28)
 have n100 := oLn q1.lt y0_6 (oLe g21)
 have m101 := ((((((((m7.keep u8_0 (ninS n96 nin0)).keep u20_0 (ninS n97 nin0)).ext E21).ext E22).keep u27_0 (ninS n98 nin0)).ext E28).keep u34_0 (ninS n99 nin0)).keep u46_0 (ninS n100 nin0))
 have n102 := oLn q2.lt y0_7 (oLe g22)
 have n103 := oLn q2.lt y0_9 (oLe g28)
 have n104 := oLn q2.lt y0_6 (oLe g21)
 have m105 := ((((m26.keep u27_0 (ninS n102 nin0)).ext E28).keep u34_0 (ninS n103 nin0)).keep u46_0 (ninS n104 nin0))
 have n106 := oLn q3.lt y0_9 (oLe g28)
 have n107 := oLn q3.lt y0_6 (oLe g21)
 have m108 := ((m33.keep u34_0 (ninS n106 nin0)).keep u46_0 (ninS n107 nin0))
 refine o_iload K X46 at_312 rfl rfl ?_
 refine o_iconst K X46 at_314 rfl (z := 2) rfl ?_
 refine o_iushr K X46 at_315 rfl (z := ((i5.toUInt32 >>> ((2 : Int32) &&& 31).toUInt32).toInt32)) rfl ?_
 refine o_bipush K X46 at_316 rfl (z := 7) rfl ?_
 refine o_iand K X46 at_318 rfl (z := (((i5.toUInt32 >>> ((2 : Int32) &&& 31).toUInt32).toInt32) &&& (7 : Int32))) rfl ?_
 refine o_istore K X46 at_319 rfl (L' := #[vI i0, vI i1, vI i2, vI i3, vI i4, vI i5, vI 1, vI 1, vI cp, vI cq, vI 1, vI 2, vR ar1, vR ar2, vR ar3, vR ar4, vR b1, vR b21, vI (((i5.toUInt32 >>> ((2 : Int32) &&& 31).toUInt32).toInt32) &&& (7 : Int32)), uS, uS, uS]) rfl ?_
 refine o_iload K X46 at_321 rfl rfl ?_
 refine o_iconst K X46 at_323 rfl (z := 5) rfl ?_
 by_cases c324_109 : (((i5.toUInt32 >>> ((2 : Int32) &&& 31).toUInt32).toInt32) &&& (7 : Int32)) = (5 : Int32)
 refine o_icmp_ne_f K X46 at_324 rfl c324_109 ?_
 refine o_aload K X46 at_327 rfl rfl rfl ?_
 refine o_aconst_null K X46 at_329 rfl ?_
 refine o_virtual K X46   (w112 hw) (w113 hw) (oNF (w115 hw)) (w115 hw) (w114 hw) (w11 hw) (w116 hw) (by decide) m47 (rm_eqnull l Z a0 hw b1 h46) (by decide) rfl (argsL := [.null]) rfl (lenOf pd16 rfl) (W := 0) rfl (by decide) (by decide) (by decide) at_330 rfl ?_
 intro v110 T110 h110 X110 U110
 obtain ⟨rfl, rfl⟩ := U110
 show oGoes pp ee bb ss Z T110 (mkF mm 333 _ [.int 0]) _ _ _
 refine o_if_ne_f K X110 at_333 rfl (by decide) ?_
 refine o_iconst K X110 at_336 rfl (z := 1) rfl ?_
 refine o_goto K X110 at_337 (by decide) (pc' := 341) (by decide) ?_
 refine o_ireturnN K X110 .boolean at_341 rfl (by simp) (z' := 1) (by decide) ?_ (by decide) (by decide)
 exact hQ _ _ rfl
 refine o_icmp_ne_t K X46 at_324 (by decide) (pc' := 342) (by decide) c324_109 ?_
 refine o_iload K X46 at_342 rfl rfl ?_
 refine o_bipush K X46 at_344 rfl (z := 6) rfl ?_
 by_cases c346_111 : (((i5.toUInt32 >>> ((2 : Int32) &&& 31).toUInt32).toInt32) &&& (7 : Int32)) = (6 : Int32)
 refine o_icmp_ne_f K X46 at_346 rfl c346_111 ?_
 refine o_aload K X46 at_349 rfl rfl rfl ?_
 refine o_new K X46 (w12 hw) (w13 hw) (w14 hw) at_351 rfl (by decide) (by decide) ?_
 intro T112 h112 b112 X112 g112 E112 A112 D112 G112
 have F112_coder : Fld Z h112 b112 z0 "coder" "B" (.int 0) := (D112 (Or.inr (w38 hw)) (ty := .byte) (by decide))
 have F112_value : Fld Z h112 b112 z0 "value" "[B" .null := (D112 (Or.inr (w40 hw)) (ty := (.array .byte)) (by decide))
 refine o_dup K X112 at_354 rfl rfl ?_
 refine o_aload K X112 at_355 rfl rfl rfl ?_
 have m113 := (m95.ext E112)
 refine o_special K X112 (y := (⟨z0, "<init>", "([C)V"⟩ : MethodName)) rfl (w15 hw) (w16 hw) (w14 hw) (w17 hw) (by decide) (rm_str_1 l Z a0 hw b112 ar1 kar1 cs ca h112 A112 F112_value F112_coder G112 m113 q21 q22 q9.2) (by decide) rfl (argsL := [.ref ar1]) rfl (lenOf pd17 rfl) (W := 2) rfl (by decide) (by decide) (by decide) at_357 rfl ?_
 intro v114 T114 h114 X114 U114
 obtain ⟨vb_114, k_114, rfl, u114_0, u114_1, u114_2, u114_3, u114_4, u114_5⟩ := U114
 have G114_vb : Z.heap.size ≤ vb_114 := Nat.le_trans X112.ext0.1 u114_4
 show oGoes pp ee bb ss Z T114 (mkF mm 360 _ [.ref b112, .ref b1]) _ _ _
 have m115 := ((m47.ext E112).keep u114_0)
 refine o_virtual K X114   (w112 hw) (w113 hw) (oNF (w115 hw)) (w115 hw) (w114 hw) (w11 hw) (w116 hw) (by decide) m115 (rm_eqstr l Z a0 hw b1 b112 h114 u114_1) (by decide) rfl (argsL := [.ref b112]) rfl (lenOf pd16 rfl) (W := 0) rfl (by decide) (by decide) (by decide) at_360 rfl ?_
 intro v116 T116 h116 X116 U116
 obtain ⟨rfl, rfl⟩ := U116
 show oGoes pp ee bb ss Z T116 (mkF mm 363 _ [.int 0]) _ _ _
 refine o_if_ne_f K X116 at_363 rfl (by decide) ?_
 refine o_iconst K X116 at_366 rfl (z := 1) rfl ?_
 refine o_goto K X116 at_367 (by decide) (pc' := 371) (by decide) ?_
 refine o_ireturnN K X116 .boolean at_371 rfl (by simp) (z' := 1) (by decide) ?_ (by decide) (by decide)
 exact hQ _ _ rfl
 refine o_icmp_ne_t K X46 at_346 (by decide) (pc' := 372) (by decide) c346_111 ?_
 refine o_iload K X46 at_372 rfl rfl ?_
 refine o_bipush K X46 at_374 rfl (z := 7) rfl ?_
 by_cases c376_117 : (((i5.toUInt32 >>> ((2 : Int32) &&& 31).toUInt32).toInt32) &&& (7 : Int32)) = (7 : Int32)
 refine o_icmp_ne_f K X46 at_376 rfl c376_117 ?_
 refine o_aload K X46 at_379 rfl rfl rfl ?_
 refine o_aload K X46 at_381 rfl rfl rfl ?_
 refine o_virtual K X46   (w112 hw) (w113 hw) (oNF (w115 hw)) (w115 hw) (w114 hw) (w11 hw) (w116 hw) (by decide) m47 (rm_eqself l Z a0 hw b1 b2 b5 h46 m47 m51 m64 m52 m65) (by decide) rfl (argsL := [.ref b1]) rfl (lenOf pd16 rfl) (W := 0) rfl (by decide) (by decide) (by decide) at_383 rfl ?_
 intro v118 T118 h118 X118 U118
 obtain ⟨rfl, rfl⟩ := U118
 show oGoes pp ee bb ss Z T118 (mkF mm 386 _ [.int 1]) _ _ _
 refine o_ireturnN K X118 .boolean at_386 rfl (by simp) (z' := 1) (by decide) ?_ (by decide) (by decide)
 exact hQ _ _ rfl
 refine o_icmp_ne_t K X46 at_376 (by decide) (pc' := 387) (by decide) c376_117 ?_
 refine o_iload K X46 at_387 rfl rfl ?_
 refine o_iload K X46 at_389 rfl rfl ?_
 refine o_icmp_ne_f K X46 at_391 rfl (by decide) ?_
 refine o_aload K X46 at_394 rfl rfl rfl ?_
 refine o_iconst K X46 at_396 rfl (z := 0) rfl ?_
 refine o_caload K X46 m95 (by decide) (v := (.int ca)) rfl at_397 rfl ?_
 refine o_aload K X46 at_398 rfl rfl rfl ?_
 refine o_iconst K X46 at_400 rfl (z := 0) rfl ?_
 refine o_caload K X46 m105 (by decide) (v := (.int ua)) rfl at_401 rfl ?_
 by_cases c402_119 : ca = ua
 refine o_icmp_ne_f K X46 at_402 rfl c402_119 ?_
 refine o_iload K X46 at_405 rfl rfl ?_
 refine o_iconst K X46 at_407 rfl (z := 1) rfl ?_
 refine o_icmp_eq_t K X46 at_408 (by decide) (pc' := 422) (by decide) (by decide) ?_
 refine o_iconst K X46 at_422 rfl (z := 1) rfl ?_
 refine o_goto K X46 at_423 (by decide) (pc' := 427) (by decide) ?_
 refine o_istore K X46 at_427 rfl (L' := #[vI i0, vI i1, vI i2, vI i3, vI i4, vI i5, vI 1, vI 1, vI cp, vI cq, vI 1, vI 2, vR ar1, vR ar2, vR ar3, vR ar4, vR b1, vR b21, vI (((i5.toUInt32 >>> ((2 : Int32) &&& 31).toUInt32).toInt32) &&& (7 : Int32)), vI 1, uS, uS]) rfl ?_
 refine o_iload K X46 at_429 rfl rfl ?_
 refine o_iload K X46 at_431 rfl rfl ?_
 refine o_icmp_ne_t K X46 at_433 (by decide) (pc' := 468) (by decide) (by decide) ?_
 refine o_iconst K X46 at_468 rfl (z := 0) rfl ?_
 refine o_istore K X46 at_469 rfl (L' := #[vI i0, vI i1, vI i2, vI i3, vI i4, vI i5, vI 1, vI 1, vI cp, vI cq, vI 1, vI 2, vR ar1, vR ar2, vR ar3, vR ar4, vR b1, vR b21, vI (((i5.toUInt32 >>> ((2 : Int32) &&& 31).toUInt32).toInt32) &&& (7 : Int32)), vI 1, vI 0, uS]) rfl ?_
 refine tl_lw3 l Z a0 hw i0 i1 i2 i3 i4 i5 cp cq (((i5.toUInt32 >>> ((2 : Int32) &&& 31).toUInt32).toInt32) &&& (7 : Int32)) 1 0 ar1 ar2 ar3 ar4 b1 b21 b2 vb_4 k_4 b5 vb_8 k_8 b22 vb_27 k_27 b28 vb_34 k_34 1 1 1 2 ca ca da da ua ua ya yb cs h46 (by simp +decide [oSm, c402_119]) (by simp +decide [oSm, c402_119]) m47 m51 m64 u46_1 u46_2 u46_3 m52 m56 m57 o58 m65 m69 m70 o71 m77 m78 m79 o80 m83 m84 m85 o86 (by decide) (by decide) (by decide) (by decide) q9 q9 q10 q10 q11 q11 q12 q13 n53 n67 q21 q22 (fun v120 h120 U120 => ?_) K (X46.mono (by decide) (by decide))
 obtain rfl : v120 = some (.int 1) := U120
 exact hQ _ _ rfl
 refine o_icmp_ne_t K X46 at_402 (by decide) (pc' := 426) (by decide) c402_119 ?_
 refine o_iconst K X46 at_426 rfl (z := 0) rfl ?_
 refine o_istore K X46 at_427 rfl (L' := #[vI i0, vI i1, vI i2, vI i3, vI i4, vI i5, vI 1, vI 1, vI cp, vI cq, vI 1, vI 2, vR ar1, vR ar2, vR ar3, vR ar4, vR b1, vR b21, vI (((i5.toUInt32 >>> ((2 : Int32) &&& 31).toUInt32).toInt32) &&& (7 : Int32)), vI 0, uS, uS]) rfl ?_
 refine o_iload K X46 at_429 rfl rfl ?_
 refine o_iload K X46 at_431 rfl rfl ?_
 refine o_icmp_ne_t K X46 at_433 (by decide) (pc' := 468) (by decide) (by decide) ?_
 refine o_iconst K X46 at_468 rfl (z := 0) rfl ?_
 refine o_istore K X46 at_469 rfl (L' := #[vI i0, vI i1, vI i2, vI i3, vI i4, vI i5, vI 1, vI 1, vI cp, vI cq, vI 1, vI 2, vR ar1, vR ar2, vR ar3, vR ar4, vR b1, vR b21, vI (((i5.toUInt32 >>> ((2 : Int32) &&& 31).toUInt32).toInt32) &&& (7 : Int32)), vI 0, vI 0, uS]) rfl ?_
 refine tl_lw3 l Z a0 hw i0 i1 i2 i3 i4 i5 cp cq (((i5.toUInt32 >>> ((2 : Int32) &&& 31).toUInt32).toInt32) &&& (7 : Int32)) 0 0 ar1 ar2 ar3 ar4 b1 b21 b2 vb_4 k_4 b5 vb_8 k_8 b22 vb_27 k_27 b28 vb_34 k_34 1 1 1 2 ca ca da da ua ua ya yb cs h46 (by simp +decide [oSm, c402_119]) (by simp +decide [oSm, c402_119]) m47 m51 m64 u46_1 u46_2 u46_3 m52 m56 m57 o58 m65 m69 m70 o71 m77 m78 m79 o80 m83 m84 m85 o86 (by decide) (by decide) (by decide) (by decide) q9 q9 q10 q10 q11 q11 q12 q13 n53 n67 q21 q22 (fun v121 h121 U121 => ?_) K (X46.mono (by decide) (by decide))
 obtain rfl : v121 = some (.int 1) := U121
 exact hQ _ _ rfl
def Q_t258_1121 (Z : State) (i0 i1 i2 i3 i4 i5 cp cq : Int32) (ar1 : Addr) (kar1 : ClassId) (ar2 : Addr) (kar2 : ClassId) (ar3 : Addr) (kar3 : ClassId) (ar4 : Addr) (kar4 : ClassId) (ca da ua ub ya : Int32) (fm : Value) (cs : Int32) (h0 : Heap) (v : Option Value) (h : Heap) : Prop := v = some (.int 1)
theorem tl_t258_1121 (l : Launch) (Z : State) (a0 : Array Value) (hw : oHw Z a0) (i0 i1 i2 i3 i4 i5 cp cq : Int32) (ar1 : Addr) (kar1 : ClassId) (ar2 : Addr) (kar2 : ClassId) (ar3 : Addr) (kar3 : ClassId) (ar4 : Addr) (kar4 : ClassId) (ca da ua ub ya : Int32) (fm : Value) (cs : Int32) (h0 : Heap) (q0 : oArr Z h0 ar1 kar1 .char [.int ca]) (q1 : oArr Z h0 ar2 kar2 .char [.int da]) (q2 : oArr Z h0 ar3 kar3 .char [.int ua, .int ub]) (q3 : oArr Z h0 ar4 kar4 .char [.int ya]) (q4 : oSh ca) (q5 : oId da) (q6 : oSh ua) (q7 : oSh ub) (q8 : oId ya) (q9 : oCh ca) (q10 : oCh da) (q11 : oCh ua) (q12 : oCh ub) (q13 : oCh ya) (q14 : nar .char ca = ca) (q15 : nar .char da = da) (q16 : nar .char ua = ua) (q17 : nar .char ub = ub) (q18 : nar .char ya = ya) (q19 : Sta Z Z.heap z3 z5 z6 fm) (q20 : fm.isRef = true) (q21 : Sta Z Z.heap z0 z4 "Z" (.int cs)) (q22 : ¬ (cs = (0 : Int32))) {Q : Option Value → Heap → Prop} (hQ : ∀ v h, Q_t258_1121 Z i0 i1 i2 i3 i4 i5 cp cq ar1 kar1 ar2 kar2 ar3 kar3 ar4 kar4 ca da ua ub ya fm cs h0 v h → Q v h) {pp : Program} {ee : Env} {ss : State} {mm : MethodId} {bb : List Frame} {mtd : Method} {cc : Code} {A : Array Value} {T0 : State} (K : oCtx pp ss mm mtd cc Z z7 code maxLocals "law" ret x) (X0 : oSt pp l ee room_1 ss mm A bb mtd cc Z T0 h0 4 8) : oGoes pp ee bb ss Z T0 (mkF mm 258 #[vI i0, vI i1, vI i2, vI i3, vI i4, vI i5, vI 1, vI 1, vI cp, vI cq, vI 2, vI 1, vR ar1, vR ar2, vR ar3, vR ar4, uS, uS, uS, uS, uS, uS] []) Q room_1.cells room_1.slots := by
 have E0 := X0.ext0
 refine o_new K X0 (w9 hw) (w10 hw) (w11 hw) at_258 rfl (by decide) (by decide) ?_
 intro T1 h1 b1 X1 g1 E1 A1 D1 G1
 have F1_shelf : Fld Z h1 b1 z1 "shelf" z2 .null := (D1 (Or.inr (w109 hw)) (ty := (.object z0)) (by decide))
 have F1_id : Fld Z h1 b1 z1 "id" z2 .null := (D1 (Or.inr (w111 hw)) (ty := (.object z0)) (by decide))
 refine o_dup K X1 at_261 rfl rfl ?_
 refine o_new K X1 (w12 hw) (w13 hw) (w14 hw) at_262 rfl (by decide) (by decide) ?_
 intro T2 h2 b2 X2 g2 E2 A2 D2 G2
 have F2_coder : Fld Z h2 b2 z0 "coder" "B" (.int 0) := (D2 (Or.inr (w38 hw)) (ty := .byte) (by decide))
 have F2_value : Fld Z h2 b2 z0 "value" "[B" .null := (D2 (Or.inr (w40 hw)) (ty := (.array .byte)) (by decide))
 refine o_dup K X2 at_265 rfl rfl ?_
 refine o_aload K X2 at_266 rfl rfl rfl ?_
 have m3 := ((q0.ext E1).ext E2)
 refine o_special K X2 (y := (⟨z0, "<init>", "([C)V"⟩ : MethodName)) rfl (w15 hw) (w16 hw) (w14 hw) (w17 hw) (by decide) (rm_str_1 l Z a0 hw b2 ar1 kar1 cs ca h2 A2 F2_value F2_coder G2 m3 q21 q22 q9.2) (by decide) rfl (argsL := [.ref ar1]) rfl (lenOf pd17 rfl) (W := 3) rfl (by decide) (by decide) (by decide) at_268 rfl ?_
 intro v4 T4 h4 X4 U4
 obtain ⟨vb_4, k_4, rfl, u4_0, u4_1, u4_2, u4_3, u4_4, u4_5⟩ := U4
 have G4_vb : Z.heap.size ≤ vb_4 := Nat.le_trans X2.ext0.1 u4_4
 show oGoes pp ee bb ss Z T4 (mkF mm 271 _ [.ref b2, .ref b1, .ref b1]) _ _ _
 refine o_new K X4 (w12 hw) (w13 hw) (w14 hw) at_271 rfl (by decide) (by decide) ?_
 intro T5 h5 b5 X5 g5 E5 A5 D5 G5
 have F5_coder : Fld Z h5 b5 z0 "coder" "B" (.int 0) := (D5 (Or.inr (w38 hw)) (ty := .byte) (by decide))
 have F5_value : Fld Z h5 b5 z0 "value" "[B" .null := (D5 (Or.inr (w40 hw)) (ty := (.array .byte)) (by decide))
 refine o_dup K X5 at_274 rfl rfl ?_
 refine o_aload K X5 at_275 rfl rfl rfl ?_
 have n6 := oLn q1.lt E1.1 (oLe g2)
 have m7 := ((((q1.ext E1).ext E2).keep u4_0 (ninS n6 nin0)).ext E5)
 refine o_special K X5 (y := (⟨z0, "<init>", "([C)V"⟩ : MethodName)) rfl (w15 hw) (w16 hw) (w14 hw) (w17 hw) (by decide) (rm_str_1 l Z a0 hw b5 ar2 kar2 cs da h5 A5 F5_value F5_coder G5 m7 q21 q22 q10.2) (by decide) rfl (argsL := [.ref ar2]) rfl (lenOf pd17 rfl) (W := 4) rfl (by decide) (by decide) (by decide) at_277 rfl ?_
 intro v8 T8 h8 X8 U8
 obtain ⟨vb_8, k_8, rfl, u8_0, u8_1, u8_2, u8_3, u8_4, u8_5⟩ := U8
 have G8_vb : Z.heap.size ≤ vb_8 := Nat.le_trans X5.ext0.1 u8_4
 show oGoes pp ee bb ss Z T8 (mkF mm 280 _ [.ref b5, .ref b2, .ref b1, .ref b1]) _ _ _
 have m9 := ((((A1.ext E2).keep u4_0).ext E5).keep u8_0)
 have n10 := oLz A1.lt (oLe g2)
 have n11 := oLn A1.lt (Nat.le_trans E2.1 u4_0.1) (oLe g5)
 have m12 := ((((F1_shelf.ext E2).keep u4_0 (ninS n10 nin0)).ext E5).keep u8_0 (ninS n11 nin0))
 have m13 := ((((F1_id.ext E2).keep u4_0 (ninS n10 nin0)).ext E5).keep u8_0 (ninS n11 nin0))
 have m14 := ((u4_1.ext E5).keep u8_0)
 have n15 := oLn A2.lt u4_0.1 (oLe g5)
 have m16 := ((u4_2.ext E5).keep u8_0 (ninS n15 nin0))
 have m17 := ((u4_3.ext E5).keep u8_0 (ninS n15 nin0))
 have n18 := oLz u4_5.lt (oLe g5)
 have m19 := ((u4_5.ext E5).keep u8_0 (ninS n18 nin0))
 refine o_special K X8 (y := (⟨z1, "<init>", z8⟩ : MethodName)) rfl (w41 hw) (w42 hw) (w11 hw) (w43 hw) (by decide) (rm_rk11 l Z a0 hw b1 b2 vb_4 k_4 b5 vb_8 k_8 ca da fm cs h8 m9 G1 m12 m13 m14 m16 m17 m19 u8_1 u8_2 u8_3 u8_5 q4 q5 q9 q10 q19 q20 q21 q22) (by decide) rfl (argsL := [.ref b2, .ref b5]) rfl (lenOf pd18 rfl) (W := 1) rfl (by decide) (by decide) (by decide) at_280 rfl ?_
 intro v20 T20 h20 X20 U20
 obtain ⟨rfl, u20_0, u20_1, u20_2, u20_3⟩ := U20
 show oGoes pp ee bb ss Z T20 (mkF mm 283 _ [.ref b1]) _ _ _
 refine o_astore K X20 at_283 rfl rfl (L' := #[vI i0, vI i1, vI i2, vI i3, vI i4, vI i5, vI 1, vI 1, vI cp, vI cq, vI 2, vI 1, vR ar1, vR ar2, vR ar3, vR ar4, vR b1, uS, uS, uS, uS, uS]) rfl ?_
 refine o_new K X20 (w9 hw) (w10 hw) (w11 hw) at_285 rfl (by decide) (by decide) ?_
 intro T21 h21 b21 X21 g21 E21 A21 D21 G21
 have F21_shelf : Fld Z h21 b21 z1 "shelf" z2 .null := (D21 (Or.inr (w109 hw)) (ty := (.object z0)) (by decide))
 have F21_id : Fld Z h21 b21 z1 "id" z2 .null := (D21 (Or.inr (w111 hw)) (ty := (.object z0)) (by decide))
 refine o_dup K X21 at_288 rfl rfl ?_
 refine o_new K X21 (w12 hw) (w13 hw) (w14 hw) at_289 rfl (by decide) (by decide) ?_
 intro T22 h22 b22 X22 g22 E22 A22 D22 G22
 have F22_coder : Fld Z h22 b22 z0 "coder" "B" (.int 0) := (D22 (Or.inr (w38 hw)) (ty := .byte) (by decide))
 have F22_value : Fld Z h22 b22 z0 "value" "[B" .null := (D22 (Or.inr (w40 hw)) (ty := (.array .byte)) (by decide))
 refine o_dup K X22 at_292 rfl rfl ?_
 refine o_aload K X22 at_293 rfl rfl rfl ?_
 have n23 := oLn q2.lt E1.1 (oLe g2)
 have y0_3 := Nat.le_trans (Nat.le_trans E1.1 E2.1) u4_0.1
 have n24 := oLn q2.lt y0_3 (oLe g5)
 have n25 := oLz q2.lt (oLe g1)
 have m26 := ((((((((q2.ext E1).ext E2).keep u4_0 (ninS n23 nin0)).ext E5).keep u8_0 (ninS n24 nin0)).keep u20_0 (ninS n25 nin0)).ext E21).ext E22)
 refine o_special K X22 (y := (⟨z0, "<init>", "([C)V"⟩ : MethodName)) rfl (w15 hw) (w16 hw) (w14 hw) (w17 hw) (by decide) (rm_str_2 l Z a0 hw b22 ar3 kar3 cs ua ub h22 A22 F22_value F22_coder G22 m26 q21 q22 q11.2 q12.2) (by decide) rfl (argsL := [.ref ar3]) rfl (lenOf pd17 rfl) (W := 3) rfl (by decide) (by decide) (by decide) at_295 rfl ?_
 intro v27 T27 h27 X27 U27
 obtain ⟨vb_27, k_27, rfl, u27_0, u27_1, u27_2, u27_3, u27_4, u27_5⟩ := U27
 have G27_vb : Z.heap.size ≤ vb_27 := Nat.le_trans X22.ext0.1 u27_4
 show oGoes pp ee bb ss Z T27 (mkF mm 298 _ [.ref b22, .ref b21, .ref b21]) _ _ _
 refine o_new K X27 (w12 hw) (w13 hw) (w14 hw) at_298 rfl (by decide) (by decide) ?_
 intro T28 h28 b28 X28 g28 E28 A28 D28 G28
 have F28_coder : Fld Z h28 b28 z0 "coder" "B" (.int 0) := (D28 (Or.inr (w38 hw)) (ty := .byte) (by decide))
 have F28_value : Fld Z h28 b28 z0 "value" "[B" .null := (D28 (Or.inr (w40 hw)) (ty := (.array .byte)) (by decide))
 refine o_dup K X28 at_301 rfl rfl ?_
 refine o_aload K X28 at_302 rfl rfl rfl ?_
 have n29 := oLn q3.lt E1.1 (oLe g2)
 have n30 := oLn q3.lt y0_3 (oLe g5)
 have n31 := oLz q3.lt (oLe g1)
 have y0_7 := Nat.le_trans (Nat.le_trans (Nat.le_trans (Nat.le_trans y0_3 E5.1) u8_0.1) u20_0.1) E21.1
 have n32 := oLn q3.lt y0_7 (oLe g22)
 have m33 := ((((((((((q3.ext E1).ext E2).keep u4_0 (ninS n29 nin0)).ext E5).keep u8_0 (ninS n30 nin0)).keep u20_0 (ninS n31 nin0)).ext E21).ext E22).keep u27_0 (ninS n32 nin0)).ext E28)
 refine o_special K X28 (y := (⟨z0, "<init>", "([C)V"⟩ : MethodName)) rfl (w15 hw) (w16 hw) (w14 hw) (w17 hw) (by decide) (rm_str_1 l Z a0 hw b28 ar4 kar4 cs ya h28 A28 F28_value F28_coder G28 m33 q21 q22 q13.2) (by decide) rfl (argsL := [.ref ar4]) rfl (lenOf pd17 rfl) (W := 4) rfl (by decide) (by decide) (by decide) at_304 rfl ?_
 intro v34 T34 h34 X34 U34
 obtain ⟨vb_34, k_34, rfl, u34_0, u34_1, u34_2, u34_3, u34_4, u34_5⟩ := U34
 have G34_vb : Z.heap.size ≤ vb_34 := Nat.le_trans X28.ext0.1 u34_4
 show oGoes pp ee bb ss Z T34 (mkF mm 307 _ [.ref b28, .ref b22, .ref b21, .ref b21]) _ _ _
 have m35 := ((((A21.ext E22).keep u27_0).ext E28).keep u34_0)
 have n36 := oLz A21.lt (oLe g22)
 have n37 := oLn A21.lt (Nat.le_trans E22.1 u27_0.1) (oLe g28)
 have m38 := ((((F21_shelf.ext E22).keep u27_0 (ninS n36 nin0)).ext E28).keep u34_0 (ninS n37 nin0))
 have m39 := ((((F21_id.ext E22).keep u27_0 (ninS n36 nin0)).ext E28).keep u34_0 (ninS n37 nin0))
 have m40 := ((u27_1.ext E28).keep u34_0)
 have n41 := oLn A22.lt u27_0.1 (oLe g28)
 have m42 := ((u27_2.ext E28).keep u34_0 (ninS n41 nin0))
 have m43 := ((u27_3.ext E28).keep u34_0 (ninS n41 nin0))
 have n44 := oLz u27_5.lt (oLe g28)
 have m45 := ((u27_5.ext E28).keep u34_0 (ninS n44 nin0))
 refine o_special K X34 (y := (⟨z1, "<init>", z8⟩ : MethodName)) rfl (w41 hw) (w42 hw) (w11 hw) (w43 hw) (by decide) (rm_rk21 l Z a0 hw b21 b22 vb_27 k_27 b28 vb_34 k_34 ua ub ya fm cs h34 m35 G21 m38 m39 m40 m42 m43 m45 u34_1 u34_2 u34_3 u34_5 q6 q7 q8 q11 q12 q13 q19 q20 q21 q22) (by decide) rfl (argsL := [.ref b22, .ref b28]) rfl (lenOf pd18 rfl) (W := 1) rfl (by decide) (by decide) (by decide) at_307 rfl ?_
 intro v46 T46 h46 X46 U46
 obtain ⟨rfl, u46_0, u46_1, u46_2, u46_3⟩ := U46
 show oGoes pp ee bb ss Z T46 (mkF mm 310 _ [.ref b21]) _ _ _
 refine o_astore K X46 at_310 rfl rfl (L' := #[vI i0, vI i1, vI i2, vI i3, vI i4, vI i5, vI 1, vI 1, vI cp, vI cq, vI 2, vI 1, vR ar1, vR ar2, vR ar3, vR ar4, vR b1, vR b21, uS, uS, uS, uS]) rfl ?_
 have m47 := ((((((u20_1.ext E21).ext E22).keep u27_0).ext E28).keep u34_0).keep u46_0)
 have y1_7 := Nat.le_trans (Nat.le_trans (Nat.le_trans (Nat.le_trans (Nat.le_trans E2.1 u4_0.1) E5.1) u8_0.1) u20_0.1) E21.1
 have n48 := oLn A1.lt y1_7 (oLe g22)
 have y1_9 := Nat.le_trans (Nat.le_trans y1_7 E22.1) u27_0.1
 have n49 := oLn A1.lt y1_9 (oLe g28)
 have y1_6 := Nat.le_trans (Nat.le_trans (Nat.le_trans (Nat.le_trans E2.1 u4_0.1) E5.1) u8_0.1) u20_0.1
 have n50 := oLn A1.lt y1_6 (oLe g21)
 have m51 := ((((((u20_2.ext E21).ext E22).keep u27_0 (ninS n48 nin0)).ext E28).keep u34_0 (ninS n49 nin0)).keep u46_0 (ninS n50 nin0))
 have m52 := (((((((m14.keep u20_0).ext E21).ext E22).keep u27_0).ext E28).keep u34_0).keep u46_0)
 have y2_7 := Nat.le_trans (Nat.le_trans (Nat.le_trans (Nat.le_trans u4_0.1 E5.1) u8_0.1) u20_0.1) E21.1
 have n53 := oLn A2.lt y2_7 (oLe g22)
 have y2_9 := Nat.le_trans (Nat.le_trans y2_7 E22.1) u27_0.1
 have n54 := oLn A2.lt y2_9 (oLe g28)
 have y2_6 := Nat.le_trans (Nat.le_trans (Nat.le_trans u4_0.1 E5.1) u8_0.1) u20_0.1
 have n55 := oLn A2.lt y2_6 (oLe g21)
 have m56 := (((((((m16.keep u20_0 (ninS (Ne.symm n10) nin0)).ext E21).ext E22).keep u27_0 (ninS n53 nin0)).ext E28).keep u34_0 (ninS n54 nin0)).keep u46_0 (ninS n55 nin0))
 have m57 := (((((((m17.keep u20_0 (ninS (Ne.symm n10) nin0)).ext E21).ext E22).keep u27_0 (ninS n53 nin0)).ext E28).keep u34_0 (ninS n54 nin0)).keep u46_0 (ninS n55 nin0))
 have n59 := oLsn A1.lt E2.1 u4_4
 have y3_7 := Nat.le_trans (Nat.le_trans (Nat.le_trans E5.1 u8_0.1) u20_0.1) E21.1
 have n60 := oLn u4_5.lt y3_7 (oLe g22)
 have y3_9 := Nat.le_trans (Nat.le_trans y3_7 E22.1) u27_0.1
 have n61 := oLn u4_5.lt y3_9 (oLe g28)
 have y3_6 := Nat.le_trans (Nat.le_trans E5.1 u8_0.1) u20_0.1
 have n62 := oLn u4_5.lt y3_6 (oLe g21)
 have m63 := (((((((m19.keep u20_0 (ninS n59 nin0)).ext E21).ext E22).keep u27_0 (ninS n60 nin0)).ext E28).keep u34_0 (ninS n61 nin0)).keep u46_0 (ninS n62 nin0))
 have o58 := oByC (oBy1 ca ca) m63
 have m64 := ((((((u20_3.ext E21).ext E22).keep u27_0 (ninS n48 nin0)).ext E28).keep u34_0 (ninS n49 nin0)).keep u46_0 (ninS n50 nin0))
 have m65 := (((((((u8_1.keep u20_0).ext E21).ext E22).keep u27_0).ext E28).keep u34_0).keep u46_0)
 have y4_7 := Nat.le_trans (Nat.le_trans u8_0.1 u20_0.1) E21.1
 have n66 := oLn A5.lt y4_7 (oLe g22)
 have y4_9 := Nat.le_trans (Nat.le_trans y4_7 E22.1) u27_0.1
 have n67 := oLn A5.lt y4_9 (oLe g28)
 have n68 := oLn A5.lt (Nat.le_trans u8_0.1 u20_0.1) (oLe g21)
 have m69 := (((((((u8_2.keep u20_0 (ninS (Ne.symm n11) nin0)).ext E21).ext E22).keep u27_0 (ninS n66 nin0)).ext E28).keep u34_0 (ninS n67 nin0)).keep u46_0 (ninS n68 nin0))
 have m70 := (((((((u8_3.keep u20_0 (ninS (Ne.symm n11) nin0)).ext E21).ext E22).keep u27_0 (ninS n66 nin0)).ext E28).keep u34_0 (ninS n67 nin0)).keep u46_0 (ninS n68 nin0))
 have y1_4 := Nat.le_trans (Nat.le_trans E2.1 u4_0.1) E5.1
 have n72 := oLsn A1.lt y1_4 u8_4
 have n73 := oLn u8_5.lt (Nat.le_trans u20_0.1 E21.1) (oLe g22)
 have y5_9 := Nat.le_trans (Nat.le_trans (Nat.le_trans u20_0.1 E21.1) E22.1) u27_0.1
 have n74 := oLn u8_5.lt y5_9 (oLe g28)
 have n75 := oLn u8_5.lt u20_0.1 (oLe g21)
 have m76 := (((((((u8_5.keep u20_0 (ninS n72 nin0)).ext E21).ext E22).keep u27_0 (ninS n73 nin0)).ext E28).keep u34_0 (ninS n74 nin0)).keep u46_0 (ninS n75 nin0))
 have o71 := oByC (oBy1 da da) m76
 have m77 := (m40.keep u46_0)
 have m78 := (m42.keep u46_0 (ninS (Ne.symm n36) nin0))
 have m79 := (m43.keep u46_0 (ninS (Ne.symm n36) nin0))
 have n81 := oLsn A21.lt E22.1 u27_4
 have m82 := (m45.keep u46_0 (ninS n81 nin0))
 have o80 := oByC (oBy2 ua ub) m82
 have m83 := (u34_1.keep u46_0)
 have m84 := (u34_2.keep u46_0 (ninS (Ne.symm n37) nin0))
 have m85 := (u34_3.keep u46_0 (ninS (Ne.symm n37) nin0))
 have y7_10 := Nat.le_trans (Nat.le_trans E22.1 u27_0.1) E28.1
 have n87 := oLsn A21.lt y7_10 u34_4
 have m88 := (u34_5.keep u46_0 (ninS n87 nin0))
 have o86 := oByC (oBy1 ya ya) m88
 have n89 := oLn q0.lt E1.1 (oLe g2)
 have n90 := oLn q0.lt y0_3 (oLe g5)
 have n91 := oLz q0.lt (oLe g1)
 have n92 := oLn q0.lt y0_7 (oLe g22)
 have y0_9 := Nat.le_trans (Nat.le_trans y0_7 E22.1) u27_0.1
 have n93 := oLn q0.lt y0_9 (oLe g28)
 have y0_6 := Nat.le_trans (Nat.le_trans (Nat.le_trans y0_3 E5.1) u8_0.1) u20_0.1
 have n94 := oLn q0.lt y0_6 (oLe g21)
 have m95 := ((((((((((m3.keep u4_0 (ninS n89 nin0)).ext E5).keep u8_0 (ninS n90 nin0)).keep u20_0 (ninS n91 nin0)).ext E21).ext E22).keep u27_0 (ninS n92 nin0)).ext E28).keep u34_0 (ninS n93 nin0)).keep u46_0 (ninS n94 nin0))
 have n96 := oLn q1.lt y0_3 (oLe g5)
 have n97 := oLz q1.lt (oLe g1)
 have n98 := oLn q1.lt y0_7 (oLe g22)
 have n99 := oLn q1.lt y0_9 (oLe g28)
 have n100 := oLn q1.lt y0_6 (oLe g21)
 have m101 := ((((((((m7.keep u8_0 (ninS n96 nin0)).keep u20_0 (ninS n97 nin0)).ext E21).ext E22).keep u27_0 (ninS n98 nin0)).ext E28).keep u34_0 (ninS n99 nin0)).keep u46_0 (ninS n100 nin0))
 have n102 := oLn q2.lt y0_7 (oLe g22)
 have n103 := oLn q2.lt y0_9 (oLe g28)
 have n104 := oLn q2.lt y0_6 (oLe g21)
 have m105 := ((((m26.keep u27_0 (ninS n102 nin0)).ext E28).keep u34_0 (ninS n103 nin0)).keep u46_0 (ninS n104 nin0))
 have n106 := oLn q3.lt y0_9 (oLe g28)
 have n107 := oLn q3.lt y0_6 (oLe g21)
 have m108 := ((m33.keep u34_0 (ninS n106 nin0)).keep u46_0 (ninS n107 nin0))
 refine o_iload K X46 at_312 rfl rfl ?_
 refine o_iconst K X46 at_314 rfl (z := 2) rfl ?_
 refine o_iushr K X46 at_315 rfl (z := ((i5.toUInt32 >>> ((2 : Int32) &&& 31).toUInt32).toInt32)) rfl ?_
 refine o_bipush K X46 at_316 rfl (z := 7) rfl ?_
 refine o_iand K X46 at_318 rfl (z := (((i5.toUInt32 >>> ((2 : Int32) &&& 31).toUInt32).toInt32) &&& (7 : Int32))) rfl ?_
 refine o_istore K X46 at_319 rfl (L' := #[vI i0, vI i1, vI i2, vI i3, vI i4, vI i5, vI 1, vI 1, vI cp, vI cq, vI 2, vI 1, vR ar1, vR ar2, vR ar3, vR ar4, vR b1, vR b21, vI (((i5.toUInt32 >>> ((2 : Int32) &&& 31).toUInt32).toInt32) &&& (7 : Int32)), uS, uS, uS]) rfl ?_
 refine o_iload K X46 at_321 rfl rfl ?_
 refine o_iconst K X46 at_323 rfl (z := 5) rfl ?_
 by_cases c324_109 : (((i5.toUInt32 >>> ((2 : Int32) &&& 31).toUInt32).toInt32) &&& (7 : Int32)) = (5 : Int32)
 refine o_icmp_ne_f K X46 at_324 rfl c324_109 ?_
 refine o_aload K X46 at_327 rfl rfl rfl ?_
 refine o_aconst_null K X46 at_329 rfl ?_
 refine o_virtual K X46   (w112 hw) (w113 hw) (oNF (w115 hw)) (w115 hw) (w114 hw) (w11 hw) (w116 hw) (by decide) m47 (rm_eqnull l Z a0 hw b1 h46) (by decide) rfl (argsL := [.null]) rfl (lenOf pd16 rfl) (W := 0) rfl (by decide) (by decide) (by decide) at_330 rfl ?_
 intro v110 T110 h110 X110 U110
 obtain ⟨rfl, rfl⟩ := U110
 show oGoes pp ee bb ss Z T110 (mkF mm 333 _ [.int 0]) _ _ _
 refine o_if_ne_f K X110 at_333 rfl (by decide) ?_
 refine o_iconst K X110 at_336 rfl (z := 1) rfl ?_
 refine o_goto K X110 at_337 (by decide) (pc' := 341) (by decide) ?_
 refine o_ireturnN K X110 .boolean at_341 rfl (by simp) (z' := 1) (by decide) ?_ (by decide) (by decide)
 exact hQ _ _ rfl
 refine o_icmp_ne_t K X46 at_324 (by decide) (pc' := 342) (by decide) c324_109 ?_
 refine o_iload K X46 at_342 rfl rfl ?_
 refine o_bipush K X46 at_344 rfl (z := 6) rfl ?_
 by_cases c346_111 : (((i5.toUInt32 >>> ((2 : Int32) &&& 31).toUInt32).toInt32) &&& (7 : Int32)) = (6 : Int32)
 refine o_icmp_ne_f K X46 at_346 rfl c346_111 ?_
 refine o_aload K X46 at_349 rfl rfl rfl ?_
 refine o_new K X46 (w12 hw) (w13 hw) (w14 hw) at_351 rfl (by decide) (by decide) ?_
 intro T112 h112 b112 X112 g112 E112 A112 D112 G112
 have F112_coder : Fld Z h112 b112 z0 "coder" "B" (.int 0) := (D112 (Or.inr (w38 hw)) (ty := .byte) (by decide))
 have F112_value : Fld Z h112 b112 z0 "value" "[B" .null := (D112 (Or.inr (w40 hw)) (ty := (.array .byte)) (by decide))
 refine o_dup K X112 at_354 rfl rfl ?_
 refine o_aload K X112 at_355 rfl rfl rfl ?_
 have m113 := (m95.ext E112)
 refine o_special K X112 (y := (⟨z0, "<init>", "([C)V"⟩ : MethodName)) rfl (w15 hw) (w16 hw) (w14 hw) (w17 hw) (by decide) (rm_str_1 l Z a0 hw b112 ar1 kar1 cs ca h112 A112 F112_value F112_coder G112 m113 q21 q22 q9.2) (by decide) rfl (argsL := [.ref ar1]) rfl (lenOf pd17 rfl) (W := 2) rfl (by decide) (by decide) (by decide) at_357 rfl ?_
 intro v114 T114 h114 X114 U114
 obtain ⟨vb_114, k_114, rfl, u114_0, u114_1, u114_2, u114_3, u114_4, u114_5⟩ := U114
 have G114_vb : Z.heap.size ≤ vb_114 := Nat.le_trans X112.ext0.1 u114_4
 show oGoes pp ee bb ss Z T114 (mkF mm 360 _ [.ref b112, .ref b1]) _ _ _
 have m115 := ((m47.ext E112).keep u114_0)
 refine o_virtual K X114   (w112 hw) (w113 hw) (oNF (w115 hw)) (w115 hw) (w114 hw) (w11 hw) (w116 hw) (by decide) m115 (rm_eqstr l Z a0 hw b1 b112 h114 u114_1) (by decide) rfl (argsL := [.ref b112]) rfl (lenOf pd16 rfl) (W := 0) rfl (by decide) (by decide) (by decide) at_360 rfl ?_
 intro v116 T116 h116 X116 U116
 obtain ⟨rfl, rfl⟩ := U116
 show oGoes pp ee bb ss Z T116 (mkF mm 363 _ [.int 0]) _ _ _
 refine o_if_ne_f K X116 at_363 rfl (by decide) ?_
 refine o_iconst K X116 at_366 rfl (z := 1) rfl ?_
 refine o_goto K X116 at_367 (by decide) (pc' := 371) (by decide) ?_
 refine o_ireturnN K X116 .boolean at_371 rfl (by simp) (z' := 1) (by decide) ?_ (by decide) (by decide)
 exact hQ _ _ rfl
 refine o_icmp_ne_t K X46 at_346 (by decide) (pc' := 372) (by decide) c346_111 ?_
 refine o_iload K X46 at_372 rfl rfl ?_
 refine o_bipush K X46 at_374 rfl (z := 7) rfl ?_
 by_cases c376_117 : (((i5.toUInt32 >>> ((2 : Int32) &&& 31).toUInt32).toInt32) &&& (7 : Int32)) = (7 : Int32)
 refine o_icmp_ne_f K X46 at_376 rfl c376_117 ?_
 refine o_aload K X46 at_379 rfl rfl rfl ?_
 refine o_aload K X46 at_381 rfl rfl rfl ?_
 refine o_virtual K X46   (w112 hw) (w113 hw) (oNF (w115 hw)) (w115 hw) (w114 hw) (w11 hw) (w116 hw) (by decide) m47 (rm_eqself l Z a0 hw b1 b2 b5 h46 m47 m51 m64 m52 m65) (by decide) rfl (argsL := [.ref b1]) rfl (lenOf pd16 rfl) (W := 0) rfl (by decide) (by decide) (by decide) at_383 rfl ?_
 intro v118 T118 h118 X118 U118
 obtain ⟨rfl, rfl⟩ := U118
 show oGoes pp ee bb ss Z T118 (mkF mm 386 _ [.int 1]) _ _ _
 refine o_ireturnN K X118 .boolean at_386 rfl (by simp) (z' := 1) (by decide) ?_ (by decide) (by decide)
 exact hQ _ _ rfl
 refine o_icmp_ne_t K X46 at_376 (by decide) (pc' := 387) (by decide) c376_117 ?_
 refine o_iload K X46 at_387 rfl rfl ?_
 refine o_iload K X46 at_389 rfl rfl ?_
 refine o_icmp_ne_t K X46 at_391 (by decide) (pc' := 426) (by decide) (by decide) ?_
 refine o_iconst K X46 at_426 rfl (z := 0) rfl ?_
 refine o_istore K X46 at_427 rfl (L' := #[vI i0, vI i1, vI i2, vI i3, vI i4, vI i5, vI 1, vI 1, vI cp, vI cq, vI 2, vI 1, vR ar1, vR ar2, vR ar3, vR ar4, vR b1, vR b21, vI (((i5.toUInt32 >>> ((2 : Int32) &&& 31).toUInt32).toInt32) &&& (7 : Int32)), vI 0, uS, uS]) rfl ?_
 refine o_iload K X46 at_429 rfl rfl ?_
 refine o_iload K X46 at_431 rfl rfl ?_
 refine o_icmp_ne_f K X46 at_433 rfl (by decide) ?_
 refine o_aload K X46 at_436 rfl rfl rfl ?_
 refine o_iconst K X46 at_438 rfl (z := 0) rfl ?_
 refine o_caload K X46 m101 (by decide) (v := (.int da)) rfl at_439 rfl ?_
 refine o_aload K X46 at_440 rfl rfl rfl ?_
 refine o_iconst K X46 at_442 rfl (z := 0) rfl ?_
 refine o_caload K X46 m108 (by decide) (v := (.int ya)) rfl at_443 rfl ?_
 by_cases c444_119 : da = ya
 refine o_icmp_ne_f K X46 at_444 rfl c444_119 ?_
 refine o_iload K X46 at_447 rfl rfl ?_
 refine o_iconst K X46 at_449 rfl (z := 1) rfl ?_
 refine o_icmp_eq_t K X46 at_450 (by decide) (pc' := 464) (by decide) (by decide) ?_
 refine o_iconst K X46 at_464 rfl (z := 1) rfl ?_
 refine o_goto K X46 at_465 (by decide) (pc' := 469) (by decide) ?_
 refine o_istore K X46 at_469 rfl (L' := #[vI i0, vI i1, vI i2, vI i3, vI i4, vI i5, vI 1, vI 1, vI cp, vI cq, vI 2, vI 1, vR ar1, vR ar2, vR ar3, vR ar4, vR b1, vR b21, vI (((i5.toUInt32 >>> ((2 : Int32) &&& 31).toUInt32).toInt32) &&& (7 : Int32)), vI 0, vI 1, uS]) rfl ?_
 refine tl_lw3 l Z a0 hw i0 i1 i2 i3 i4 i5 cp cq (((i5.toUInt32 >>> ((2 : Int32) &&& 31).toUInt32).toInt32) &&& (7 : Int32)) 0 1 ar1 ar2 ar3 ar4 b1 b21 b2 vb_4 k_4 b5 vb_8 k_8 b22 vb_27 k_27 b28 vb_34 k_34 1 1 2 1 ca ca da da ua ub ya ya cs h46 (by simp +decide [oSm, c444_119]) (by simp +decide [oSm, c444_119]) m47 m51 m64 u46_1 u46_2 u46_3 m52 m56 m57 o58 m65 m69 m70 o71 m77 m78 m79 o80 m83 m84 m85 o86 (by decide) (by decide) (by decide) (by decide) q9 q9 q10 q10 q11 q12 q13 q13 n53 n67 q21 q22 (fun v120 h120 U120 => ?_) K (X46.mono (by decide) (by decide))
 obtain rfl : v120 = some (.int 1) := U120
 exact hQ _ _ rfl
 refine o_icmp_ne_t K X46 at_444 (by decide) (pc' := 468) (by decide) c444_119 ?_
 refine o_iconst K X46 at_468 rfl (z := 0) rfl ?_
 refine o_istore K X46 at_469 rfl (L' := #[vI i0, vI i1, vI i2, vI i3, vI i4, vI i5, vI 1, vI 1, vI cp, vI cq, vI 2, vI 1, vR ar1, vR ar2, vR ar3, vR ar4, vR b1, vR b21, vI (((i5.toUInt32 >>> ((2 : Int32) &&& 31).toUInt32).toInt32) &&& (7 : Int32)), vI 0, vI 0, uS]) rfl ?_
 refine tl_lw3 l Z a0 hw i0 i1 i2 i3 i4 i5 cp cq (((i5.toUInt32 >>> ((2 : Int32) &&& 31).toUInt32).toInt32) &&& (7 : Int32)) 0 0 ar1 ar2 ar3 ar4 b1 b21 b2 vb_4 k_4 b5 vb_8 k_8 b22 vb_27 k_27 b28 vb_34 k_34 1 1 2 1 ca ca da da ua ub ya ya cs h46 (by simp +decide [oSm, c444_119]) (by simp +decide [oSm, c444_119]) m47 m51 m64 u46_1 u46_2 u46_3 m52 m56 m57 o58 m65 m69 m70 o71 m77 m78 m79 o80 m83 m84 m85 o86 (by decide) (by decide) (by decide) (by decide) q9 q9 q10 q10 q11 q12 q13 q13 n53 n67 q21 q22 (fun v121 h121 U121 => ?_) K (X46.mono (by decide) (by decide))
 obtain rfl : v121 = some (.int 1) := U121
 exact hQ _ _ rfl
def Q_t258_1122 (Z : State) (i0 i1 i2 i3 i4 i5 cp cq : Int32) (ar1 : Addr) (kar1 : ClassId) (ar2 : Addr) (kar2 : ClassId) (ar3 : Addr) (kar3 : ClassId) (ar4 : Addr) (kar4 : ClassId) (ca da ua ub ya yb : Int32) (fm : Value) (cs : Int32) (h0 : Heap) (v : Option Value) (h : Heap) : Prop := v = some (.int 1)
theorem tl_t258_1122 (l : Launch) (Z : State) (a0 : Array Value) (hw : oHw Z a0) (i0 i1 i2 i3 i4 i5 cp cq : Int32) (ar1 : Addr) (kar1 : ClassId) (ar2 : Addr) (kar2 : ClassId) (ar3 : Addr) (kar3 : ClassId) (ar4 : Addr) (kar4 : ClassId) (ca da ua ub ya yb : Int32) (fm : Value) (cs : Int32) (h0 : Heap) (q0 : oArr Z h0 ar1 kar1 .char [.int ca]) (q1 : oArr Z h0 ar2 kar2 .char [.int da]) (q2 : oArr Z h0 ar3 kar3 .char [.int ua, .int ub]) (q3 : oArr Z h0 ar4 kar4 .char [.int ya, .int yb]) (q4 : oSh ca) (q5 : oId da) (q6 : oSh ua) (q7 : oSh ub) (q8 : oId ya) (q9 : oId yb) (q10 : oCh ca) (q11 : oCh da) (q12 : oCh ua) (q13 : oCh ub) (q14 : oCh ya) (q15 : oCh yb) (q16 : nar .char ca = ca) (q17 : nar .char da = da) (q18 : nar .char ua = ua) (q19 : nar .char ub = ub) (q20 : nar .char ya = ya) (q21 : nar .char yb = yb) (q22 : Sta Z Z.heap z3 z5 z6 fm) (q23 : fm.isRef = true) (q24 : Sta Z Z.heap z0 z4 "Z" (.int cs)) (q25 : ¬ (cs = (0 : Int32))) {Q : Option Value → Heap → Prop} (hQ : ∀ v h, Q_t258_1122 Z i0 i1 i2 i3 i4 i5 cp cq ar1 kar1 ar2 kar2 ar3 kar3 ar4 kar4 ca da ua ub ya yb fm cs h0 v h → Q v h) {pp : Program} {ee : Env} {ss : State} {mm : MethodId} {bb : List Frame} {mtd : Method} {cc : Code} {A : Array Value} {T0 : State} (K : oCtx pp ss mm mtd cc Z z7 code maxLocals "law" ret x) (X0 : oSt pp l ee room_1 ss mm A bb mtd cc Z T0 h0 4 8) : oGoes pp ee bb ss Z T0 (mkF mm 258 #[vI i0, vI i1, vI i2, vI i3, vI i4, vI i5, vI 1, vI 1, vI cp, vI cq, vI 2, vI 2, vR ar1, vR ar2, vR ar3, vR ar4, uS, uS, uS, uS, uS, uS] []) Q room_1.cells room_1.slots := by
 have E0 := X0.ext0
 refine o_new K X0 (w9 hw) (w10 hw) (w11 hw) at_258 rfl (by decide) (by decide) ?_
 intro T1 h1 b1 X1 g1 E1 A1 D1 G1
 have F1_shelf : Fld Z h1 b1 z1 "shelf" z2 .null := (D1 (Or.inr (w109 hw)) (ty := (.object z0)) (by decide))
 have F1_id : Fld Z h1 b1 z1 "id" z2 .null := (D1 (Or.inr (w111 hw)) (ty := (.object z0)) (by decide))
 refine o_dup K X1 at_261 rfl rfl ?_
 refine o_new K X1 (w12 hw) (w13 hw) (w14 hw) at_262 rfl (by decide) (by decide) ?_
 intro T2 h2 b2 X2 g2 E2 A2 D2 G2
 have F2_coder : Fld Z h2 b2 z0 "coder" "B" (.int 0) := (D2 (Or.inr (w38 hw)) (ty := .byte) (by decide))
 have F2_value : Fld Z h2 b2 z0 "value" "[B" .null := (D2 (Or.inr (w40 hw)) (ty := (.array .byte)) (by decide))
 refine o_dup K X2 at_265 rfl rfl ?_
 refine o_aload K X2 at_266 rfl rfl rfl ?_
 have m3 := ((q0.ext E1).ext E2)
 refine o_special K X2 (y := (⟨z0, "<init>", "([C)V"⟩ : MethodName)) rfl (w15 hw) (w16 hw) (w14 hw) (w17 hw) (by decide) (rm_str_1 l Z a0 hw b2 ar1 kar1 cs ca h2 A2 F2_value F2_coder G2 m3 q24 q25 q10.2) (by decide) rfl (argsL := [.ref ar1]) rfl (lenOf pd17 rfl) (W := 3) rfl (by decide) (by decide) (by decide) at_268 rfl ?_
 intro v4 T4 h4 X4 U4
 obtain ⟨vb_4, k_4, rfl, u4_0, u4_1, u4_2, u4_3, u4_4, u4_5⟩ := U4
 have G4_vb : Z.heap.size ≤ vb_4 := Nat.le_trans X2.ext0.1 u4_4
 show oGoes pp ee bb ss Z T4 (mkF mm 271 _ [.ref b2, .ref b1, .ref b1]) _ _ _
 refine o_new K X4 (w12 hw) (w13 hw) (w14 hw) at_271 rfl (by decide) (by decide) ?_
 intro T5 h5 b5 X5 g5 E5 A5 D5 G5
 have F5_coder : Fld Z h5 b5 z0 "coder" "B" (.int 0) := (D5 (Or.inr (w38 hw)) (ty := .byte) (by decide))
 have F5_value : Fld Z h5 b5 z0 "value" "[B" .null := (D5 (Or.inr (w40 hw)) (ty := (.array .byte)) (by decide))
 refine o_dup K X5 at_274 rfl rfl ?_
 refine o_aload K X5 at_275 rfl rfl rfl ?_
 have n6 := oLn q1.lt E1.1 (oLe g2)
 have m7 := ((((q1.ext E1).ext E2).keep u4_0 (ninS n6 nin0)).ext E5)
 refine o_special K X5 (y := (⟨z0, "<init>", "([C)V"⟩ : MethodName)) rfl (w15 hw) (w16 hw) (w14 hw) (w17 hw) (by decide) (rm_str_1 l Z a0 hw b5 ar2 kar2 cs da h5 A5 F5_value F5_coder G5 m7 q24 q25 q11.2) (by decide) rfl (argsL := [.ref ar2]) rfl (lenOf pd17 rfl) (W := 4) rfl (by decide) (by decide) (by decide) at_277 rfl ?_
 intro v8 T8 h8 X8 U8
 obtain ⟨vb_8, k_8, rfl, u8_0, u8_1, u8_2, u8_3, u8_4, u8_5⟩ := U8
 have G8_vb : Z.heap.size ≤ vb_8 := Nat.le_trans X5.ext0.1 u8_4
 show oGoes pp ee bb ss Z T8 (mkF mm 280 _ [.ref b5, .ref b2, .ref b1, .ref b1]) _ _ _
 have m9 := ((((A1.ext E2).keep u4_0).ext E5).keep u8_0)
 have n10 := oLz A1.lt (oLe g2)
 have n11 := oLn A1.lt (Nat.le_trans E2.1 u4_0.1) (oLe g5)
 have m12 := ((((F1_shelf.ext E2).keep u4_0 (ninS n10 nin0)).ext E5).keep u8_0 (ninS n11 nin0))
 have m13 := ((((F1_id.ext E2).keep u4_0 (ninS n10 nin0)).ext E5).keep u8_0 (ninS n11 nin0))
 have m14 := ((u4_1.ext E5).keep u8_0)
 have n15 := oLn A2.lt u4_0.1 (oLe g5)
 have m16 := ((u4_2.ext E5).keep u8_0 (ninS n15 nin0))
 have m17 := ((u4_3.ext E5).keep u8_0 (ninS n15 nin0))
 have n18 := oLz u4_5.lt (oLe g5)
 have m19 := ((u4_5.ext E5).keep u8_0 (ninS n18 nin0))
 refine o_special K X8 (y := (⟨z1, "<init>", z8⟩ : MethodName)) rfl (w41 hw) (w42 hw) (w11 hw) (w43 hw) (by decide) (rm_rk11 l Z a0 hw b1 b2 vb_4 k_4 b5 vb_8 k_8 ca da fm cs h8 m9 G1 m12 m13 m14 m16 m17 m19 u8_1 u8_2 u8_3 u8_5 q4 q5 q10 q11 q22 q23 q24 q25) (by decide) rfl (argsL := [.ref b2, .ref b5]) rfl (lenOf pd18 rfl) (W := 1) rfl (by decide) (by decide) (by decide) at_280 rfl ?_
 intro v20 T20 h20 X20 U20
 obtain ⟨rfl, u20_0, u20_1, u20_2, u20_3⟩ := U20
 show oGoes pp ee bb ss Z T20 (mkF mm 283 _ [.ref b1]) _ _ _
 refine o_astore K X20 at_283 rfl rfl (L' := #[vI i0, vI i1, vI i2, vI i3, vI i4, vI i5, vI 1, vI 1, vI cp, vI cq, vI 2, vI 2, vR ar1, vR ar2, vR ar3, vR ar4, vR b1, uS, uS, uS, uS, uS]) rfl ?_
 refine o_new K X20 (w9 hw) (w10 hw) (w11 hw) at_285 rfl (by decide) (by decide) ?_
 intro T21 h21 b21 X21 g21 E21 A21 D21 G21
 have F21_shelf : Fld Z h21 b21 z1 "shelf" z2 .null := (D21 (Or.inr (w109 hw)) (ty := (.object z0)) (by decide))
 have F21_id : Fld Z h21 b21 z1 "id" z2 .null := (D21 (Or.inr (w111 hw)) (ty := (.object z0)) (by decide))
 refine o_dup K X21 at_288 rfl rfl ?_
 refine o_new K X21 (w12 hw) (w13 hw) (w14 hw) at_289 rfl (by decide) (by decide) ?_
 intro T22 h22 b22 X22 g22 E22 A22 D22 G22
 have F22_coder : Fld Z h22 b22 z0 "coder" "B" (.int 0) := (D22 (Or.inr (w38 hw)) (ty := .byte) (by decide))
 have F22_value : Fld Z h22 b22 z0 "value" "[B" .null := (D22 (Or.inr (w40 hw)) (ty := (.array .byte)) (by decide))
 refine o_dup K X22 at_292 rfl rfl ?_
 refine o_aload K X22 at_293 rfl rfl rfl ?_
 have n23 := oLn q2.lt E1.1 (oLe g2)
 have y0_3 := Nat.le_trans (Nat.le_trans E1.1 E2.1) u4_0.1
 have n24 := oLn q2.lt y0_3 (oLe g5)
 have n25 := oLz q2.lt (oLe g1)
 have m26 := ((((((((q2.ext E1).ext E2).keep u4_0 (ninS n23 nin0)).ext E5).keep u8_0 (ninS n24 nin0)).keep u20_0 (ninS n25 nin0)).ext E21).ext E22)
 refine o_special K X22 (y := (⟨z0, "<init>", "([C)V"⟩ : MethodName)) rfl (w15 hw) (w16 hw) (w14 hw) (w17 hw) (by decide) (rm_str_2 l Z a0 hw b22 ar3 kar3 cs ua ub h22 A22 F22_value F22_coder G22 m26 q24 q25 q12.2 q13.2) (by decide) rfl (argsL := [.ref ar3]) rfl (lenOf pd17 rfl) (W := 3) rfl (by decide) (by decide) (by decide) at_295 rfl ?_
 intro v27 T27 h27 X27 U27
 obtain ⟨vb_27, k_27, rfl, u27_0, u27_1, u27_2, u27_3, u27_4, u27_5⟩ := U27
 have G27_vb : Z.heap.size ≤ vb_27 := Nat.le_trans X22.ext0.1 u27_4
 show oGoes pp ee bb ss Z T27 (mkF mm 298 _ [.ref b22, .ref b21, .ref b21]) _ _ _
 refine o_new K X27 (w12 hw) (w13 hw) (w14 hw) at_298 rfl (by decide) (by decide) ?_
 intro T28 h28 b28 X28 g28 E28 A28 D28 G28
 have F28_coder : Fld Z h28 b28 z0 "coder" "B" (.int 0) := (D28 (Or.inr (w38 hw)) (ty := .byte) (by decide))
 have F28_value : Fld Z h28 b28 z0 "value" "[B" .null := (D28 (Or.inr (w40 hw)) (ty := (.array .byte)) (by decide))
 refine o_dup K X28 at_301 rfl rfl ?_
 refine o_aload K X28 at_302 rfl rfl rfl ?_
 have n29 := oLn q3.lt E1.1 (oLe g2)
 have n30 := oLn q3.lt y0_3 (oLe g5)
 have n31 := oLz q3.lt (oLe g1)
 have y0_7 := Nat.le_trans (Nat.le_trans (Nat.le_trans (Nat.le_trans y0_3 E5.1) u8_0.1) u20_0.1) E21.1
 have n32 := oLn q3.lt y0_7 (oLe g22)
 have m33 := ((((((((((q3.ext E1).ext E2).keep u4_0 (ninS n29 nin0)).ext E5).keep u8_0 (ninS n30 nin0)).keep u20_0 (ninS n31 nin0)).ext E21).ext E22).keep u27_0 (ninS n32 nin0)).ext E28)
 refine o_special K X28 (y := (⟨z0, "<init>", "([C)V"⟩ : MethodName)) rfl (w15 hw) (w16 hw) (w14 hw) (w17 hw) (by decide) (rm_str_2 l Z a0 hw b28 ar4 kar4 cs ya yb h28 A28 F28_value F28_coder G28 m33 q24 q25 q14.2 q15.2) (by decide) rfl (argsL := [.ref ar4]) rfl (lenOf pd17 rfl) (W := 4) rfl (by decide) (by decide) (by decide) at_304 rfl ?_
 intro v34 T34 h34 X34 U34
 obtain ⟨vb_34, k_34, rfl, u34_0, u34_1, u34_2, u34_3, u34_4, u34_5⟩ := U34
 have G34_vb : Z.heap.size ≤ vb_34 := Nat.le_trans X28.ext0.1 u34_4
 show oGoes pp ee bb ss Z T34 (mkF mm 307 _ [.ref b28, .ref b22, .ref b21, .ref b21]) _ _ _
 have m35 := ((((A21.ext E22).keep u27_0).ext E28).keep u34_0)
 have n36 := oLz A21.lt (oLe g22)
 have n37 := oLn A21.lt (Nat.le_trans E22.1 u27_0.1) (oLe g28)
 have m38 := ((((F21_shelf.ext E22).keep u27_0 (ninS n36 nin0)).ext E28).keep u34_0 (ninS n37 nin0))
 have m39 := ((((F21_id.ext E22).keep u27_0 (ninS n36 nin0)).ext E28).keep u34_0 (ninS n37 nin0))
 have m40 := ((u27_1.ext E28).keep u34_0)
 have n41 := oLn A22.lt u27_0.1 (oLe g28)
 have m42 := ((u27_2.ext E28).keep u34_0 (ninS n41 nin0))
 have m43 := ((u27_3.ext E28).keep u34_0 (ninS n41 nin0))
 have n44 := oLz u27_5.lt (oLe g28)
 have m45 := ((u27_5.ext E28).keep u34_0 (ninS n44 nin0))
 refine o_special K X34 (y := (⟨z1, "<init>", z8⟩ : MethodName)) rfl (w41 hw) (w42 hw) (w11 hw) (w43 hw) (by decide) (rm_rk22 l Z a0 hw b21 b22 vb_27 k_27 b28 vb_34 k_34 ua ub ya yb fm cs h34 m35 G21 m38 m39 m40 m42 m43 m45 u34_1 u34_2 u34_3 u34_5 q6 q7 q8 q9 q12 q13 q14 q15 q22 q23 q24 q25) (by decide) rfl (argsL := [.ref b22, .ref b28]) rfl (lenOf pd18 rfl) (W := 1) rfl (by decide) (by decide) (by decide) at_307 rfl ?_
 intro v46 T46 h46 X46 U46
 obtain ⟨rfl, u46_0, u46_1, u46_2, u46_3⟩ := U46
 show oGoes pp ee bb ss Z T46 (mkF mm 310 _ [.ref b21]) _ _ _
 refine o_astore K X46 at_310 rfl rfl (L' := #[vI i0, vI i1, vI i2, vI i3, vI i4, vI i5, vI 1, vI 1, vI cp, vI cq, vI 2, vI 2, vR ar1, vR ar2, vR ar3, vR ar4, vR b1, vR b21, uS, uS, uS, uS]) rfl ?_
 have m47 := ((((((u20_1.ext E21).ext E22).keep u27_0).ext E28).keep u34_0).keep u46_0)
 have y1_7 := Nat.le_trans (Nat.le_trans (Nat.le_trans (Nat.le_trans (Nat.le_trans E2.1 u4_0.1) E5.1) u8_0.1) u20_0.1) E21.1
 have n48 := oLn A1.lt y1_7 (oLe g22)
 have y1_9 := Nat.le_trans (Nat.le_trans y1_7 E22.1) u27_0.1
 have n49 := oLn A1.lt y1_9 (oLe g28)
 have y1_6 := Nat.le_trans (Nat.le_trans (Nat.le_trans (Nat.le_trans E2.1 u4_0.1) E5.1) u8_0.1) u20_0.1
 have n50 := oLn A1.lt y1_6 (oLe g21)
 have m51 := ((((((u20_2.ext E21).ext E22).keep u27_0 (ninS n48 nin0)).ext E28).keep u34_0 (ninS n49 nin0)).keep u46_0 (ninS n50 nin0))
 have m52 := (((((((m14.keep u20_0).ext E21).ext E22).keep u27_0).ext E28).keep u34_0).keep u46_0)
 have y2_7 := Nat.le_trans (Nat.le_trans (Nat.le_trans (Nat.le_trans u4_0.1 E5.1) u8_0.1) u20_0.1) E21.1
 have n53 := oLn A2.lt y2_7 (oLe g22)
 have y2_9 := Nat.le_trans (Nat.le_trans y2_7 E22.1) u27_0.1
 have n54 := oLn A2.lt y2_9 (oLe g28)
 have y2_6 := Nat.le_trans (Nat.le_trans (Nat.le_trans u4_0.1 E5.1) u8_0.1) u20_0.1
 have n55 := oLn A2.lt y2_6 (oLe g21)
 have m56 := (((((((m16.keep u20_0 (ninS (Ne.symm n10) nin0)).ext E21).ext E22).keep u27_0 (ninS n53 nin0)).ext E28).keep u34_0 (ninS n54 nin0)).keep u46_0 (ninS n55 nin0))
 have m57 := (((((((m17.keep u20_0 (ninS (Ne.symm n10) nin0)).ext E21).ext E22).keep u27_0 (ninS n53 nin0)).ext E28).keep u34_0 (ninS n54 nin0)).keep u46_0 (ninS n55 nin0))
 have n59 := oLsn A1.lt E2.1 u4_4
 have y3_7 := Nat.le_trans (Nat.le_trans (Nat.le_trans E5.1 u8_0.1) u20_0.1) E21.1
 have n60 := oLn u4_5.lt y3_7 (oLe g22)
 have y3_9 := Nat.le_trans (Nat.le_trans y3_7 E22.1) u27_0.1
 have n61 := oLn u4_5.lt y3_9 (oLe g28)
 have y3_6 := Nat.le_trans (Nat.le_trans E5.1 u8_0.1) u20_0.1
 have n62 := oLn u4_5.lt y3_6 (oLe g21)
 have m63 := (((((((m19.keep u20_0 (ninS n59 nin0)).ext E21).ext E22).keep u27_0 (ninS n60 nin0)).ext E28).keep u34_0 (ninS n61 nin0)).keep u46_0 (ninS n62 nin0))
 have o58 := oByC (oBy1 ca ca) m63
 have m64 := ((((((u20_3.ext E21).ext E22).keep u27_0 (ninS n48 nin0)).ext E28).keep u34_0 (ninS n49 nin0)).keep u46_0 (ninS n50 nin0))
 have m65 := (((((((u8_1.keep u20_0).ext E21).ext E22).keep u27_0).ext E28).keep u34_0).keep u46_0)
 have y4_7 := Nat.le_trans (Nat.le_trans u8_0.1 u20_0.1) E21.1
 have n66 := oLn A5.lt y4_7 (oLe g22)
 have y4_9 := Nat.le_trans (Nat.le_trans y4_7 E22.1) u27_0.1
 have n67 := oLn A5.lt y4_9 (oLe g28)
 have n68 := oLn A5.lt (Nat.le_trans u8_0.1 u20_0.1) (oLe g21)
 have m69 := (((((((u8_2.keep u20_0 (ninS (Ne.symm n11) nin0)).ext E21).ext E22).keep u27_0 (ninS n66 nin0)).ext E28).keep u34_0 (ninS n67 nin0)).keep u46_0 (ninS n68 nin0))
 have m70 := (((((((u8_3.keep u20_0 (ninS (Ne.symm n11) nin0)).ext E21).ext E22).keep u27_0 (ninS n66 nin0)).ext E28).keep u34_0 (ninS n67 nin0)).keep u46_0 (ninS n68 nin0))
 have y1_4 := Nat.le_trans (Nat.le_trans E2.1 u4_0.1) E5.1
 have n72 := oLsn A1.lt y1_4 u8_4
 have n73 := oLn u8_5.lt (Nat.le_trans u20_0.1 E21.1) (oLe g22)
 have y5_9 := Nat.le_trans (Nat.le_trans (Nat.le_trans u20_0.1 E21.1) E22.1) u27_0.1
 have n74 := oLn u8_5.lt y5_9 (oLe g28)
 have n75 := oLn u8_5.lt u20_0.1 (oLe g21)
 have m76 := (((((((u8_5.keep u20_0 (ninS n72 nin0)).ext E21).ext E22).keep u27_0 (ninS n73 nin0)).ext E28).keep u34_0 (ninS n74 nin0)).keep u46_0 (ninS n75 nin0))
 have o71 := oByC (oBy1 da da) m76
 have m77 := (m40.keep u46_0)
 have m78 := (m42.keep u46_0 (ninS (Ne.symm n36) nin0))
 have m79 := (m43.keep u46_0 (ninS (Ne.symm n36) nin0))
 have n81 := oLsn A21.lt E22.1 u27_4
 have m82 := (m45.keep u46_0 (ninS n81 nin0))
 have o80 := oByC (oBy2 ua ub) m82
 have m83 := (u34_1.keep u46_0)
 have m84 := (u34_2.keep u46_0 (ninS (Ne.symm n37) nin0))
 have m85 := (u34_3.keep u46_0 (ninS (Ne.symm n37) nin0))
 have y7_10 := Nat.le_trans (Nat.le_trans E22.1 u27_0.1) E28.1
 have n87 := oLsn A21.lt y7_10 u34_4
 have m88 := (u34_5.keep u46_0 (ninS n87 nin0))
 have o86 := oByC (oBy2 ya yb) m88
 have n89 := oLn q0.lt E1.1 (oLe g2)
 have n90 := oLn q0.lt y0_3 (oLe g5)
 have n91 := oLz q0.lt (oLe g1)
 have n92 := oLn q0.lt y0_7 (oLe g22)
 have y0_9 := Nat.le_trans (Nat.le_trans y0_7 E22.1) u27_0.1
 have n93 := oLn q0.lt y0_9 (oLe g28)
 have y0_6 := Nat.le_trans (Nat.le_trans (Nat.le_trans y0_3 E5.1) u8_0.1) u20_0.1
 have n94 := oLn q0.lt y0_6 (oLe g21)
 have m95 := ((((((((((m3.keep u4_0 (ninS n89 nin0)).ext E5).keep u8_0 (ninS n90 nin0)).keep u20_0 (ninS n91 nin0)).ext E21).ext E22).keep u27_0 (ninS n92 nin0)).ext E28).keep u34_0 (ninS n93 nin0)).keep u46_0 (ninS n94 nin0))
 have n96 := oLn q1.lt y0_3 (oLe g5)
 have n97 := oLz q1.lt (oLe g1)
 have n98 := oLn q1.lt y0_7 (oLe g22)
 have n99 := oLn q1.lt y0_9 (oLe g28)
 have n100 := oLn q1.lt y0_6 (oLe g21)
 have m101 := ((((((((m7.keep u8_0 (ninS n96 nin0)).keep u20_0 (ninS n97 nin0)).ext E21).ext E22).keep u27_0 (ninS n98 nin0)).ext E28).keep u34_0 (ninS n99 nin0)).keep u46_0 (ninS n100 nin0))
 have n102 := oLn q2.lt y0_7 (oLe g22)
 have n103 := oLn q2.lt y0_9 (oLe g28)
 have n104 := oLn q2.lt y0_6 (oLe g21)
 have m105 := ((((m26.keep u27_0 (ninS n102 nin0)).ext E28).keep u34_0 (ninS n103 nin0)).keep u46_0 (ninS n104 nin0))
 have n106 := oLn q3.lt y0_9 (oLe g28)
 have n107 := oLn q3.lt y0_6 (oLe g21)
 have m108 := ((m33.keep u34_0 (ninS n106 nin0)).keep u46_0 (ninS n107 nin0))
 refine o_iload K X46 at_312 rfl rfl ?_
 refine o_iconst K X46 at_314 rfl (z := 2) rfl ?_
 refine o_iushr K X46 at_315 rfl (z := ((i5.toUInt32 >>> ((2 : Int32) &&& 31).toUInt32).toInt32)) rfl ?_
 refine o_bipush K X46 at_316 rfl (z := 7) rfl ?_
 refine o_iand K X46 at_318 rfl (z := (((i5.toUInt32 >>> ((2 : Int32) &&& 31).toUInt32).toInt32) &&& (7 : Int32))) rfl ?_
 refine o_istore K X46 at_319 rfl (L' := #[vI i0, vI i1, vI i2, vI i3, vI i4, vI i5, vI 1, vI 1, vI cp, vI cq, vI 2, vI 2, vR ar1, vR ar2, vR ar3, vR ar4, vR b1, vR b21, vI (((i5.toUInt32 >>> ((2 : Int32) &&& 31).toUInt32).toInt32) &&& (7 : Int32)), uS, uS, uS]) rfl ?_
 refine o_iload K X46 at_321 rfl rfl ?_
 refine o_iconst K X46 at_323 rfl (z := 5) rfl ?_
 by_cases c324_109 : (((i5.toUInt32 >>> ((2 : Int32) &&& 31).toUInt32).toInt32) &&& (7 : Int32)) = (5 : Int32)
 refine o_icmp_ne_f K X46 at_324 rfl c324_109 ?_
 refine o_aload K X46 at_327 rfl rfl rfl ?_
 refine o_aconst_null K X46 at_329 rfl ?_
 refine o_virtual K X46   (w112 hw) (w113 hw) (oNF (w115 hw)) (w115 hw) (w114 hw) (w11 hw) (w116 hw) (by decide) m47 (rm_eqnull l Z a0 hw b1 h46) (by decide) rfl (argsL := [.null]) rfl (lenOf pd16 rfl) (W := 0) rfl (by decide) (by decide) (by decide) at_330 rfl ?_
 intro v110 T110 h110 X110 U110
 obtain ⟨rfl, rfl⟩ := U110
 show oGoes pp ee bb ss Z T110 (mkF mm 333 _ [.int 0]) _ _ _
 refine o_if_ne_f K X110 at_333 rfl (by decide) ?_
 refine o_iconst K X110 at_336 rfl (z := 1) rfl ?_
 refine o_goto K X110 at_337 (by decide) (pc' := 341) (by decide) ?_
 refine o_ireturnN K X110 .boolean at_341 rfl (by simp) (z' := 1) (by decide) ?_ (by decide) (by decide)
 exact hQ _ _ rfl
 refine o_icmp_ne_t K X46 at_324 (by decide) (pc' := 342) (by decide) c324_109 ?_
 refine o_iload K X46 at_342 rfl rfl ?_
 refine o_bipush K X46 at_344 rfl (z := 6) rfl ?_
 by_cases c346_111 : (((i5.toUInt32 >>> ((2 : Int32) &&& 31).toUInt32).toInt32) &&& (7 : Int32)) = (6 : Int32)
 refine o_icmp_ne_f K X46 at_346 rfl c346_111 ?_
 refine o_aload K X46 at_349 rfl rfl rfl ?_
 refine o_new K X46 (w12 hw) (w13 hw) (w14 hw) at_351 rfl (by decide) (by decide) ?_
 intro T112 h112 b112 X112 g112 E112 A112 D112 G112
 have F112_coder : Fld Z h112 b112 z0 "coder" "B" (.int 0) := (D112 (Or.inr (w38 hw)) (ty := .byte) (by decide))
 have F112_value : Fld Z h112 b112 z0 "value" "[B" .null := (D112 (Or.inr (w40 hw)) (ty := (.array .byte)) (by decide))
 refine o_dup K X112 at_354 rfl rfl ?_
 refine o_aload K X112 at_355 rfl rfl rfl ?_
 have m113 := (m95.ext E112)
 refine o_special K X112 (y := (⟨z0, "<init>", "([C)V"⟩ : MethodName)) rfl (w15 hw) (w16 hw) (w14 hw) (w17 hw) (by decide) (rm_str_1 l Z a0 hw b112 ar1 kar1 cs ca h112 A112 F112_value F112_coder G112 m113 q24 q25 q10.2) (by decide) rfl (argsL := [.ref ar1]) rfl (lenOf pd17 rfl) (W := 2) rfl (by decide) (by decide) (by decide) at_357 rfl ?_
 intro v114 T114 h114 X114 U114
 obtain ⟨vb_114, k_114, rfl, u114_0, u114_1, u114_2, u114_3, u114_4, u114_5⟩ := U114
 have G114_vb : Z.heap.size ≤ vb_114 := Nat.le_trans X112.ext0.1 u114_4
 show oGoes pp ee bb ss Z T114 (mkF mm 360 _ [.ref b112, .ref b1]) _ _ _
 have m115 := ((m47.ext E112).keep u114_0)
 refine o_virtual K X114   (w112 hw) (w113 hw) (oNF (w115 hw)) (w115 hw) (w114 hw) (w11 hw) (w116 hw) (by decide) m115 (rm_eqstr l Z a0 hw b1 b112 h114 u114_1) (by decide) rfl (argsL := [.ref b112]) rfl (lenOf pd16 rfl) (W := 0) rfl (by decide) (by decide) (by decide) at_360 rfl ?_
 intro v116 T116 h116 X116 U116
 obtain ⟨rfl, rfl⟩ := U116
 show oGoes pp ee bb ss Z T116 (mkF mm 363 _ [.int 0]) _ _ _
 refine o_if_ne_f K X116 at_363 rfl (by decide) ?_
 refine o_iconst K X116 at_366 rfl (z := 1) rfl ?_
 refine o_goto K X116 at_367 (by decide) (pc' := 371) (by decide) ?_
 refine o_ireturnN K X116 .boolean at_371 rfl (by simp) (z' := 1) (by decide) ?_ (by decide) (by decide)
 exact hQ _ _ rfl
 refine o_icmp_ne_t K X46 at_346 (by decide) (pc' := 372) (by decide) c346_111 ?_
 refine o_iload K X46 at_372 rfl rfl ?_
 refine o_bipush K X46 at_374 rfl (z := 7) rfl ?_
 by_cases c376_117 : (((i5.toUInt32 >>> ((2 : Int32) &&& 31).toUInt32).toInt32) &&& (7 : Int32)) = (7 : Int32)
 refine o_icmp_ne_f K X46 at_376 rfl c376_117 ?_
 refine o_aload K X46 at_379 rfl rfl rfl ?_
 refine o_aload K X46 at_381 rfl rfl rfl ?_
 refine o_virtual K X46   (w112 hw) (w113 hw) (oNF (w115 hw)) (w115 hw) (w114 hw) (w11 hw) (w116 hw) (by decide) m47 (rm_eqself l Z a0 hw b1 b2 b5 h46 m47 m51 m64 m52 m65) (by decide) rfl (argsL := [.ref b1]) rfl (lenOf pd16 rfl) (W := 0) rfl (by decide) (by decide) (by decide) at_383 rfl ?_
 intro v118 T118 h118 X118 U118
 obtain ⟨rfl, rfl⟩ := U118
 show oGoes pp ee bb ss Z T118 (mkF mm 386 _ [.int 1]) _ _ _
 refine o_ireturnN K X118 .boolean at_386 rfl (by simp) (z' := 1) (by decide) ?_ (by decide) (by decide)
 exact hQ _ _ rfl
 refine o_icmp_ne_t K X46 at_376 (by decide) (pc' := 387) (by decide) c376_117 ?_
 refine o_iload K X46 at_387 rfl rfl ?_
 refine o_iload K X46 at_389 rfl rfl ?_
 refine o_icmp_ne_t K X46 at_391 (by decide) (pc' := 426) (by decide) (by decide) ?_
 refine o_iconst K X46 at_426 rfl (z := 0) rfl ?_
 refine o_istore K X46 at_427 rfl (L' := #[vI i0, vI i1, vI i2, vI i3, vI i4, vI i5, vI 1, vI 1, vI cp, vI cq, vI 2, vI 2, vR ar1, vR ar2, vR ar3, vR ar4, vR b1, vR b21, vI (((i5.toUInt32 >>> ((2 : Int32) &&& 31).toUInt32).toInt32) &&& (7 : Int32)), vI 0, uS, uS]) rfl ?_
 refine o_iload K X46 at_429 rfl rfl ?_
 refine o_iload K X46 at_431 rfl rfl ?_
 refine o_icmp_ne_t K X46 at_433 (by decide) (pc' := 468) (by decide) (by decide) ?_
 refine o_iconst K X46 at_468 rfl (z := 0) rfl ?_
 refine o_istore K X46 at_469 rfl (L' := #[vI i0, vI i1, vI i2, vI i3, vI i4, vI i5, vI 1, vI 1, vI cp, vI cq, vI 2, vI 2, vR ar1, vR ar2, vR ar3, vR ar4, vR b1, vR b21, vI (((i5.toUInt32 >>> ((2 : Int32) &&& 31).toUInt32).toInt32) &&& (7 : Int32)), vI 0, vI 0, uS]) rfl ?_
 refine tl_lw3 l Z a0 hw i0 i1 i2 i3 i4 i5 cp cq (((i5.toUInt32 >>> ((2 : Int32) &&& 31).toUInt32).toInt32) &&& (7 : Int32)) 0 0 ar1 ar2 ar3 ar4 b1 b21 b2 vb_4 k_4 b5 vb_8 k_8 b22 vb_27 k_27 b28 vb_34 k_34 1 1 2 2 ca ca da da ua ub ya yb cs h46 (by simp +decide [oSm]) (by simp +decide [oSm]) m47 m51 m64 u46_1 u46_2 u46_3 m52 m56 m57 o58 m65 m69 m70 o71 m77 m78 m79 o80 m83 m84 m85 o86 (by decide) (by decide) (by decide) (by decide) q10 q10 q11 q11 q12 q13 q14 q15 n53 n67 q24 q25 (fun v119 h119 U119 => ?_) K (X46.mono (by decide) (by decide))
 obtain rfl : v119 = some (.int 1) := U119
 exact hQ _ _ rfl
def Q_t258_1211 (Z : State) (i0 i1 i2 i3 i4 i5 cp cq : Int32) (ar1 : Addr) (kar1 : ClassId) (ar2 : Addr) (kar2 : ClassId) (ar3 : Addr) (kar3 : ClassId) (ar4 : Addr) (kar4 : ClassId) (ca da db ua ya : Int32) (fm : Value) (cs : Int32) (h0 : Heap) (v : Option Value) (h : Heap) : Prop := v = some (.int 1)
theorem tl_t258_1211 (l : Launch) (Z : State) (a0 : Array Value) (hw : oHw Z a0) (i0 i1 i2 i3 i4 i5 cp cq : Int32) (ar1 : Addr) (kar1 : ClassId) (ar2 : Addr) (kar2 : ClassId) (ar3 : Addr) (kar3 : ClassId) (ar4 : Addr) (kar4 : ClassId) (ca da db ua ya : Int32) (fm : Value) (cs : Int32) (h0 : Heap) (q0 : oArr Z h0 ar1 kar1 .char [.int ca]) (q1 : oArr Z h0 ar2 kar2 .char [.int da, .int db]) (q2 : oArr Z h0 ar3 kar3 .char [.int ua]) (q3 : oArr Z h0 ar4 kar4 .char [.int ya]) (q4 : oSh ca) (q5 : oId da) (q6 : oId db) (q7 : oSh ua) (q8 : oId ya) (q9 : oCh ca) (q10 : oCh da) (q11 : oCh db) (q12 : oCh ua) (q13 : oCh ya) (q14 : nar .char ca = ca) (q15 : nar .char da = da) (q16 : nar .char db = db) (q17 : nar .char ua = ua) (q18 : nar .char ya = ya) (q19 : Sta Z Z.heap z3 z5 z6 fm) (q20 : fm.isRef = true) (q21 : Sta Z Z.heap z0 z4 "Z" (.int cs)) (q22 : ¬ (cs = (0 : Int32))) {Q : Option Value → Heap → Prop} (hQ : ∀ v h, Q_t258_1211 Z i0 i1 i2 i3 i4 i5 cp cq ar1 kar1 ar2 kar2 ar3 kar3 ar4 kar4 ca da db ua ya fm cs h0 v h → Q v h) {pp : Program} {ee : Env} {ss : State} {mm : MethodId} {bb : List Frame} {mtd : Method} {cc : Code} {A : Array Value} {T0 : State} (K : oCtx pp ss mm mtd cc Z z7 code maxLocals "law" ret x) (X0 : oSt pp l ee room_1 ss mm A bb mtd cc Z T0 h0 4 8) : oGoes pp ee bb ss Z T0 (mkF mm 258 #[vI i0, vI i1, vI i2, vI i3, vI i4, vI i5, vI 1, vI 2, vI cp, vI cq, vI 1, vI 1, vR ar1, vR ar2, vR ar3, vR ar4, uS, uS, uS, uS, uS, uS] []) Q room_1.cells room_1.slots := by
 have E0 := X0.ext0
 refine o_new K X0 (w9 hw) (w10 hw) (w11 hw) at_258 rfl (by decide) (by decide) ?_
 intro T1 h1 b1 X1 g1 E1 A1 D1 G1
 have F1_shelf : Fld Z h1 b1 z1 "shelf" z2 .null := (D1 (Or.inr (w109 hw)) (ty := (.object z0)) (by decide))
 have F1_id : Fld Z h1 b1 z1 "id" z2 .null := (D1 (Or.inr (w111 hw)) (ty := (.object z0)) (by decide))
 refine o_dup K X1 at_261 rfl rfl ?_
 refine o_new K X1 (w12 hw) (w13 hw) (w14 hw) at_262 rfl (by decide) (by decide) ?_
 intro T2 h2 b2 X2 g2 E2 A2 D2 G2
 have F2_coder : Fld Z h2 b2 z0 "coder" "B" (.int 0) := (D2 (Or.inr (w38 hw)) (ty := .byte) (by decide))
 have F2_value : Fld Z h2 b2 z0 "value" "[B" .null := (D2 (Or.inr (w40 hw)) (ty := (.array .byte)) (by decide))
 refine o_dup K X2 at_265 rfl rfl ?_
 refine o_aload K X2 at_266 rfl rfl rfl ?_
 have m3 := ((q0.ext E1).ext E2)
 refine o_special K X2 (y := (⟨z0, "<init>", "([C)V"⟩ : MethodName)) rfl (w15 hw) (w16 hw) (w14 hw) (w17 hw) (by decide) (rm_str_1 l Z a0 hw b2 ar1 kar1 cs ca h2 A2 F2_value F2_coder G2 m3 q21 q22 q9.2) (by decide) rfl (argsL := [.ref ar1]) rfl (lenOf pd17 rfl) (W := 3) rfl (by decide) (by decide) (by decide) at_268 rfl ?_
 intro v4 T4 h4 X4 U4
 obtain ⟨vb_4, k_4, rfl, u4_0, u4_1, u4_2, u4_3, u4_4, u4_5⟩ := U4
 have G4_vb : Z.heap.size ≤ vb_4 := Nat.le_trans X2.ext0.1 u4_4
 show oGoes pp ee bb ss Z T4 (mkF mm 271 _ [.ref b2, .ref b1, .ref b1]) _ _ _
 refine o_new K X4 (w12 hw) (w13 hw) (w14 hw) at_271 rfl (by decide) (by decide) ?_
 intro T5 h5 b5 X5 g5 E5 A5 D5 G5
 have F5_coder : Fld Z h5 b5 z0 "coder" "B" (.int 0) := (D5 (Or.inr (w38 hw)) (ty := .byte) (by decide))
 have F5_value : Fld Z h5 b5 z0 "value" "[B" .null := (D5 (Or.inr (w40 hw)) (ty := (.array .byte)) (by decide))
 refine o_dup K X5 at_274 rfl rfl ?_
 refine o_aload K X5 at_275 rfl rfl rfl ?_
 have n6 := oLn q1.lt E1.1 (oLe g2)
 have m7 := ((((q1.ext E1).ext E2).keep u4_0 (ninS n6 nin0)).ext E5)
 refine o_special K X5 (y := (⟨z0, "<init>", "([C)V"⟩ : MethodName)) rfl (w15 hw) (w16 hw) (w14 hw) (w17 hw) (by decide) (rm_str_2 l Z a0 hw b5 ar2 kar2 cs da db h5 A5 F5_value F5_coder G5 m7 q21 q22 q10.2 q11.2) (by decide) rfl (argsL := [.ref ar2]) rfl (lenOf pd17 rfl) (W := 4) rfl (by decide) (by decide) (by decide) at_277 rfl ?_
 intro v8 T8 h8 X8 U8
 obtain ⟨vb_8, k_8, rfl, u8_0, u8_1, u8_2, u8_3, u8_4, u8_5⟩ := U8
 have G8_vb : Z.heap.size ≤ vb_8 := Nat.le_trans X5.ext0.1 u8_4
 show oGoes pp ee bb ss Z T8 (mkF mm 280 _ [.ref b5, .ref b2, .ref b1, .ref b1]) _ _ _
 have m9 := ((((A1.ext E2).keep u4_0).ext E5).keep u8_0)
 have n10 := oLz A1.lt (oLe g2)
 have n11 := oLn A1.lt (Nat.le_trans E2.1 u4_0.1) (oLe g5)
 have m12 := ((((F1_shelf.ext E2).keep u4_0 (ninS n10 nin0)).ext E5).keep u8_0 (ninS n11 nin0))
 have m13 := ((((F1_id.ext E2).keep u4_0 (ninS n10 nin0)).ext E5).keep u8_0 (ninS n11 nin0))
 have m14 := ((u4_1.ext E5).keep u8_0)
 have n15 := oLn A2.lt u4_0.1 (oLe g5)
 have m16 := ((u4_2.ext E5).keep u8_0 (ninS n15 nin0))
 have m17 := ((u4_3.ext E5).keep u8_0 (ninS n15 nin0))
 have n18 := oLz u4_5.lt (oLe g5)
 have m19 := ((u4_5.ext E5).keep u8_0 (ninS n18 nin0))
 refine o_special K X8 (y := (⟨z1, "<init>", z8⟩ : MethodName)) rfl (w41 hw) (w42 hw) (w11 hw) (w43 hw) (by decide) (rm_rk12 l Z a0 hw b1 b2 vb_4 k_4 b5 vb_8 k_8 ca da db fm cs h8 m9 G1 m12 m13 m14 m16 m17 m19 u8_1 u8_2 u8_3 u8_5 q4 q5 q6 q9 q10 q11 q19 q20 q21 q22) (by decide) rfl (argsL := [.ref b2, .ref b5]) rfl (lenOf pd18 rfl) (W := 1) rfl (by decide) (by decide) (by decide) at_280 rfl ?_
 intro v20 T20 h20 X20 U20
 obtain ⟨rfl, u20_0, u20_1, u20_2, u20_3⟩ := U20
 show oGoes pp ee bb ss Z T20 (mkF mm 283 _ [.ref b1]) _ _ _
 refine o_astore K X20 at_283 rfl rfl (L' := #[vI i0, vI i1, vI i2, vI i3, vI i4, vI i5, vI 1, vI 2, vI cp, vI cq, vI 1, vI 1, vR ar1, vR ar2, vR ar3, vR ar4, vR b1, uS, uS, uS, uS, uS]) rfl ?_
 refine o_new K X20 (w9 hw) (w10 hw) (w11 hw) at_285 rfl (by decide) (by decide) ?_
 intro T21 h21 b21 X21 g21 E21 A21 D21 G21
 have F21_shelf : Fld Z h21 b21 z1 "shelf" z2 .null := (D21 (Or.inr (w109 hw)) (ty := (.object z0)) (by decide))
 have F21_id : Fld Z h21 b21 z1 "id" z2 .null := (D21 (Or.inr (w111 hw)) (ty := (.object z0)) (by decide))
 refine o_dup K X21 at_288 rfl rfl ?_
 refine o_new K X21 (w12 hw) (w13 hw) (w14 hw) at_289 rfl (by decide) (by decide) ?_
 intro T22 h22 b22 X22 g22 E22 A22 D22 G22
 have F22_coder : Fld Z h22 b22 z0 "coder" "B" (.int 0) := (D22 (Or.inr (w38 hw)) (ty := .byte) (by decide))
 have F22_value : Fld Z h22 b22 z0 "value" "[B" .null := (D22 (Or.inr (w40 hw)) (ty := (.array .byte)) (by decide))
 refine o_dup K X22 at_292 rfl rfl ?_
 refine o_aload K X22 at_293 rfl rfl rfl ?_
 have n23 := oLn q2.lt E1.1 (oLe g2)
 have y0_3 := Nat.le_trans (Nat.le_trans E1.1 E2.1) u4_0.1
 have n24 := oLn q2.lt y0_3 (oLe g5)
 have n25 := oLz q2.lt (oLe g1)
 have m26 := ((((((((q2.ext E1).ext E2).keep u4_0 (ninS n23 nin0)).ext E5).keep u8_0 (ninS n24 nin0)).keep u20_0 (ninS n25 nin0)).ext E21).ext E22)
 refine o_special K X22 (y := (⟨z0, "<init>", "([C)V"⟩ : MethodName)) rfl (w15 hw) (w16 hw) (w14 hw) (w17 hw) (by decide) (rm_str_1 l Z a0 hw b22 ar3 kar3 cs ua h22 A22 F22_value F22_coder G22 m26 q21 q22 q12.2) (by decide) rfl (argsL := [.ref ar3]) rfl (lenOf pd17 rfl) (W := 3) rfl (by decide) (by decide) (by decide) at_295 rfl ?_
 intro v27 T27 h27 X27 U27
 obtain ⟨vb_27, k_27, rfl, u27_0, u27_1, u27_2, u27_3, u27_4, u27_5⟩ := U27
 have G27_vb : Z.heap.size ≤ vb_27 := Nat.le_trans X22.ext0.1 u27_4
 show oGoes pp ee bb ss Z T27 (mkF mm 298 _ [.ref b22, .ref b21, .ref b21]) _ _ _
 refine o_new K X27 (w12 hw) (w13 hw) (w14 hw) at_298 rfl (by decide) (by decide) ?_
 intro T28 h28 b28 X28 g28 E28 A28 D28 G28
 have F28_coder : Fld Z h28 b28 z0 "coder" "B" (.int 0) := (D28 (Or.inr (w38 hw)) (ty := .byte) (by decide))
 have F28_value : Fld Z h28 b28 z0 "value" "[B" .null := (D28 (Or.inr (w40 hw)) (ty := (.array .byte)) (by decide))
 refine o_dup K X28 at_301 rfl rfl ?_
 refine o_aload K X28 at_302 rfl rfl rfl ?_
 have n29 := oLn q3.lt E1.1 (oLe g2)
 have n30 := oLn q3.lt y0_3 (oLe g5)
 have n31 := oLz q3.lt (oLe g1)
 have y0_7 := Nat.le_trans (Nat.le_trans (Nat.le_trans (Nat.le_trans y0_3 E5.1) u8_0.1) u20_0.1) E21.1
 have n32 := oLn q3.lt y0_7 (oLe g22)
 have m33 := ((((((((((q3.ext E1).ext E2).keep u4_0 (ninS n29 nin0)).ext E5).keep u8_0 (ninS n30 nin0)).keep u20_0 (ninS n31 nin0)).ext E21).ext E22).keep u27_0 (ninS n32 nin0)).ext E28)
 refine o_special K X28 (y := (⟨z0, "<init>", "([C)V"⟩ : MethodName)) rfl (w15 hw) (w16 hw) (w14 hw) (w17 hw) (by decide) (rm_str_1 l Z a0 hw b28 ar4 kar4 cs ya h28 A28 F28_value F28_coder G28 m33 q21 q22 q13.2) (by decide) rfl (argsL := [.ref ar4]) rfl (lenOf pd17 rfl) (W := 4) rfl (by decide) (by decide) (by decide) at_304 rfl ?_
 intro v34 T34 h34 X34 U34
 obtain ⟨vb_34, k_34, rfl, u34_0, u34_1, u34_2, u34_3, u34_4, u34_5⟩ := U34
 have G34_vb : Z.heap.size ≤ vb_34 := Nat.le_trans X28.ext0.1 u34_4
 show oGoes pp ee bb ss Z T34 (mkF mm 307 _ [.ref b28, .ref b22, .ref b21, .ref b21]) _ _ _
 have m35 := ((((A21.ext E22).keep u27_0).ext E28).keep u34_0)
 have n36 := oLz A21.lt (oLe g22)
 have n37 := oLn A21.lt (Nat.le_trans E22.1 u27_0.1) (oLe g28)
 have m38 := ((((F21_shelf.ext E22).keep u27_0 (ninS n36 nin0)).ext E28).keep u34_0 (ninS n37 nin0))
 have m39 := ((((F21_id.ext E22).keep u27_0 (ninS n36 nin0)).ext E28).keep u34_0 (ninS n37 nin0))
 have m40 := ((u27_1.ext E28).keep u34_0)
 have n41 := oLn A22.lt u27_0.1 (oLe g28)
 have m42 := ((u27_2.ext E28).keep u34_0 (ninS n41 nin0))
 have m43 := ((u27_3.ext E28).keep u34_0 (ninS n41 nin0))
 have n44 := oLz u27_5.lt (oLe g28)
 have m45 := ((u27_5.ext E28).keep u34_0 (ninS n44 nin0))
 refine o_special K X34 (y := (⟨z1, "<init>", z8⟩ : MethodName)) rfl (w41 hw) (w42 hw) (w11 hw) (w43 hw) (by decide) (rm_rk11 l Z a0 hw b21 b22 vb_27 k_27 b28 vb_34 k_34 ua ya fm cs h34 m35 G21 m38 m39 m40 m42 m43 m45 u34_1 u34_2 u34_3 u34_5 q7 q8 q12 q13 q19 q20 q21 q22) (by decide) rfl (argsL := [.ref b22, .ref b28]) rfl (lenOf pd18 rfl) (W := 1) rfl (by decide) (by decide) (by decide) at_307 rfl ?_
 intro v46 T46 h46 X46 U46
 obtain ⟨rfl, u46_0, u46_1, u46_2, u46_3⟩ := U46
 show oGoes pp ee bb ss Z T46 (mkF mm 310 _ [.ref b21]) _ _ _
 refine o_astore K X46 at_310 rfl rfl (L' := #[vI i0, vI i1, vI i2, vI i3, vI i4, vI i5, vI 1, vI 2, vI cp, vI cq, vI 1, vI 1, vR ar1, vR ar2, vR ar3, vR ar4, vR b1, vR b21, uS, uS, uS, uS]) rfl ?_
 have m47 := ((((((u20_1.ext E21).ext E22).keep u27_0).ext E28).keep u34_0).keep u46_0)
 have y1_7 := Nat.le_trans (Nat.le_trans (Nat.le_trans (Nat.le_trans (Nat.le_trans E2.1 u4_0.1) E5.1) u8_0.1) u20_0.1) E21.1
 have n48 := oLn A1.lt y1_7 (oLe g22)
 have y1_9 := Nat.le_trans (Nat.le_trans y1_7 E22.1) u27_0.1
 have n49 := oLn A1.lt y1_9 (oLe g28)
 have y1_6 := Nat.le_trans (Nat.le_trans (Nat.le_trans (Nat.le_trans E2.1 u4_0.1) E5.1) u8_0.1) u20_0.1
 have n50 := oLn A1.lt y1_6 (oLe g21)
 have m51 := ((((((u20_2.ext E21).ext E22).keep u27_0 (ninS n48 nin0)).ext E28).keep u34_0 (ninS n49 nin0)).keep u46_0 (ninS n50 nin0))
 have m52 := (((((((m14.keep u20_0).ext E21).ext E22).keep u27_0).ext E28).keep u34_0).keep u46_0)
 have y2_7 := Nat.le_trans (Nat.le_trans (Nat.le_trans (Nat.le_trans u4_0.1 E5.1) u8_0.1) u20_0.1) E21.1
 have n53 := oLn A2.lt y2_7 (oLe g22)
 have y2_9 := Nat.le_trans (Nat.le_trans y2_7 E22.1) u27_0.1
 have n54 := oLn A2.lt y2_9 (oLe g28)
 have y2_6 := Nat.le_trans (Nat.le_trans (Nat.le_trans u4_0.1 E5.1) u8_0.1) u20_0.1
 have n55 := oLn A2.lt y2_6 (oLe g21)
 have m56 := (((((((m16.keep u20_0 (ninS (Ne.symm n10) nin0)).ext E21).ext E22).keep u27_0 (ninS n53 nin0)).ext E28).keep u34_0 (ninS n54 nin0)).keep u46_0 (ninS n55 nin0))
 have m57 := (((((((m17.keep u20_0 (ninS (Ne.symm n10) nin0)).ext E21).ext E22).keep u27_0 (ninS n53 nin0)).ext E28).keep u34_0 (ninS n54 nin0)).keep u46_0 (ninS n55 nin0))
 have n59 := oLsn A1.lt E2.1 u4_4
 have y3_7 := Nat.le_trans (Nat.le_trans (Nat.le_trans E5.1 u8_0.1) u20_0.1) E21.1
 have n60 := oLn u4_5.lt y3_7 (oLe g22)
 have y3_9 := Nat.le_trans (Nat.le_trans y3_7 E22.1) u27_0.1
 have n61 := oLn u4_5.lt y3_9 (oLe g28)
 have y3_6 := Nat.le_trans (Nat.le_trans E5.1 u8_0.1) u20_0.1
 have n62 := oLn u4_5.lt y3_6 (oLe g21)
 have m63 := (((((((m19.keep u20_0 (ninS n59 nin0)).ext E21).ext E22).keep u27_0 (ninS n60 nin0)).ext E28).keep u34_0 (ninS n61 nin0)).keep u46_0 (ninS n62 nin0))
 have o58 := oByC (oBy1 ca ca) m63
 have m64 := ((((((u20_3.ext E21).ext E22).keep u27_0 (ninS n48 nin0)).ext E28).keep u34_0 (ninS n49 nin0)).keep u46_0 (ninS n50 nin0))
 have m65 := (((((((u8_1.keep u20_0).ext E21).ext E22).keep u27_0).ext E28).keep u34_0).keep u46_0)
 have y4_7 := Nat.le_trans (Nat.le_trans u8_0.1 u20_0.1) E21.1
 have n66 := oLn A5.lt y4_7 (oLe g22)
 have y4_9 := Nat.le_trans (Nat.le_trans y4_7 E22.1) u27_0.1
 have n67 := oLn A5.lt y4_9 (oLe g28)
 have n68 := oLn A5.lt (Nat.le_trans u8_0.1 u20_0.1) (oLe g21)
 have m69 := (((((((u8_2.keep u20_0 (ninS (Ne.symm n11) nin0)).ext E21).ext E22).keep u27_0 (ninS n66 nin0)).ext E28).keep u34_0 (ninS n67 nin0)).keep u46_0 (ninS n68 nin0))
 have m70 := (((((((u8_3.keep u20_0 (ninS (Ne.symm n11) nin0)).ext E21).ext E22).keep u27_0 (ninS n66 nin0)).ext E28).keep u34_0 (ninS n67 nin0)).keep u46_0 (ninS n68 nin0))
 have y1_4 := Nat.le_trans (Nat.le_trans E2.1 u4_0.1) E5.1
 have n72 := oLsn A1.lt y1_4 u8_4
 have n73 := oLn u8_5.lt (Nat.le_trans u20_0.1 E21.1) (oLe g22)
 have y5_9 := Nat.le_trans (Nat.le_trans (Nat.le_trans u20_0.1 E21.1) E22.1) u27_0.1
 have n74 := oLn u8_5.lt y5_9 (oLe g28)
 have n75 := oLn u8_5.lt u20_0.1 (oLe g21)
 have m76 := (((((((u8_5.keep u20_0 (ninS n72 nin0)).ext E21).ext E22).keep u27_0 (ninS n73 nin0)).ext E28).keep u34_0 (ninS n74 nin0)).keep u46_0 (ninS n75 nin0))
 have o71 := oByC (oBy2 da db) m76
 have m77 := (m40.keep u46_0)
 have m78 := (m42.keep u46_0 (ninS (Ne.symm n36) nin0))
 have m79 := (m43.keep u46_0 (ninS (Ne.symm n36) nin0))
 have n81 := oLsn A21.lt E22.1 u27_4
 have m82 := (m45.keep u46_0 (ninS n81 nin0))
 have o80 := oByC (oBy1 ua ua) m82
 have m83 := (u34_1.keep u46_0)
 have m84 := (u34_2.keep u46_0 (ninS (Ne.symm n37) nin0))
 have m85 := (u34_3.keep u46_0 (ninS (Ne.symm n37) nin0))
 have y7_10 := Nat.le_trans (Nat.le_trans E22.1 u27_0.1) E28.1
 have n87 := oLsn A21.lt y7_10 u34_4
 have m88 := (u34_5.keep u46_0 (ninS n87 nin0))
 have o86 := oByC (oBy1 ya ya) m88
 have n89 := oLn q0.lt E1.1 (oLe g2)
 have n90 := oLn q0.lt y0_3 (oLe g5)
 have n91 := oLz q0.lt (oLe g1)
 have n92 := oLn q0.lt y0_7 (oLe g22)
 have y0_9 := Nat.le_trans (Nat.le_trans y0_7 E22.1) u27_0.1
 have n93 := oLn q0.lt y0_9 (oLe g28)
 have y0_6 := Nat.le_trans (Nat.le_trans (Nat.le_trans y0_3 E5.1) u8_0.1) u20_0.1
 have n94 := oLn q0.lt y0_6 (oLe g21)
 have m95 := ((((((((((m3.keep u4_0 (ninS n89 nin0)).ext E5).keep u8_0 (ninS n90 nin0)).keep u20_0 (ninS n91 nin0)).ext E21).ext E22).keep u27_0 (ninS n92 nin0)).ext E28).keep u34_0 (ninS n93 nin0)).keep u46_0 (ninS n94 nin0))
 have n96 := oLn q1.lt y0_3 (oLe g5)
 have n97 := oLz q1.lt (oLe g1)
 have n98 := oLn q1.lt y0_7 (oLe g22)
 have n99 := oLn q1.lt y0_9 (oLe g28)
 have n100 := oLn q1.lt y0_6 (oLe g21)
 have m101 := ((((((((m7.keep u8_0 (ninS n96 nin0)).keep u20_0 (ninS n97 nin0)).ext E21).ext E22).keep u27_0 (ninS n98 nin0)).ext E28).keep u34_0 (ninS n99 nin0)).keep u46_0 (ninS n100 nin0))
 have n102 := oLn q2.lt y0_7 (oLe g22)
 have n103 := oLn q2.lt y0_9 (oLe g28)
 have n104 := oLn q2.lt y0_6 (oLe g21)
 have m105 := ((((m26.keep u27_0 (ninS n102 nin0)).ext E28).keep u34_0 (ninS n103 nin0)).keep u46_0 (ninS n104 nin0))
 have n106 := oLn q3.lt y0_9 (oLe g28)
 have n107 := oLn q3.lt y0_6 (oLe g21)
 have m108 := ((m33.keep u34_0 (ninS n106 nin0)).keep u46_0 (ninS n107 nin0))
 refine o_iload K X46 at_312 rfl rfl ?_
 refine o_iconst K X46 at_314 rfl (z := 2) rfl ?_
 refine o_iushr K X46 at_315 rfl (z := ((i5.toUInt32 >>> ((2 : Int32) &&& 31).toUInt32).toInt32)) rfl ?_
 refine o_bipush K X46 at_316 rfl (z := 7) rfl ?_
 refine o_iand K X46 at_318 rfl (z := (((i5.toUInt32 >>> ((2 : Int32) &&& 31).toUInt32).toInt32) &&& (7 : Int32))) rfl ?_
 refine o_istore K X46 at_319 rfl (L' := #[vI i0, vI i1, vI i2, vI i3, vI i4, vI i5, vI 1, vI 2, vI cp, vI cq, vI 1, vI 1, vR ar1, vR ar2, vR ar3, vR ar4, vR b1, vR b21, vI (((i5.toUInt32 >>> ((2 : Int32) &&& 31).toUInt32).toInt32) &&& (7 : Int32)), uS, uS, uS]) rfl ?_
 refine o_iload K X46 at_321 rfl rfl ?_
 refine o_iconst K X46 at_323 rfl (z := 5) rfl ?_
 by_cases c324_109 : (((i5.toUInt32 >>> ((2 : Int32) &&& 31).toUInt32).toInt32) &&& (7 : Int32)) = (5 : Int32)
 refine o_icmp_ne_f K X46 at_324 rfl c324_109 ?_
 refine o_aload K X46 at_327 rfl rfl rfl ?_
 refine o_aconst_null K X46 at_329 rfl ?_
 refine o_virtual K X46   (w112 hw) (w113 hw) (oNF (w115 hw)) (w115 hw) (w114 hw) (w11 hw) (w116 hw) (by decide) m47 (rm_eqnull l Z a0 hw b1 h46) (by decide) rfl (argsL := [.null]) rfl (lenOf pd16 rfl) (W := 0) rfl (by decide) (by decide) (by decide) at_330 rfl ?_
 intro v110 T110 h110 X110 U110
 obtain ⟨rfl, rfl⟩ := U110
 show oGoes pp ee bb ss Z T110 (mkF mm 333 _ [.int 0]) _ _ _
 refine o_if_ne_f K X110 at_333 rfl (by decide) ?_
 refine o_iconst K X110 at_336 rfl (z := 1) rfl ?_
 refine o_goto K X110 at_337 (by decide) (pc' := 341) (by decide) ?_
 refine o_ireturnN K X110 .boolean at_341 rfl (by simp) (z' := 1) (by decide) ?_ (by decide) (by decide)
 exact hQ _ _ rfl
 refine o_icmp_ne_t K X46 at_324 (by decide) (pc' := 342) (by decide) c324_109 ?_
 refine o_iload K X46 at_342 rfl rfl ?_
 refine o_bipush K X46 at_344 rfl (z := 6) rfl ?_
 by_cases c346_111 : (((i5.toUInt32 >>> ((2 : Int32) &&& 31).toUInt32).toInt32) &&& (7 : Int32)) = (6 : Int32)
 refine o_icmp_ne_f K X46 at_346 rfl c346_111 ?_
 refine o_aload K X46 at_349 rfl rfl rfl ?_
 refine o_new K X46 (w12 hw) (w13 hw) (w14 hw) at_351 rfl (by decide) (by decide) ?_
 intro T112 h112 b112 X112 g112 E112 A112 D112 G112
 have F112_coder : Fld Z h112 b112 z0 "coder" "B" (.int 0) := (D112 (Or.inr (w38 hw)) (ty := .byte) (by decide))
 have F112_value : Fld Z h112 b112 z0 "value" "[B" .null := (D112 (Or.inr (w40 hw)) (ty := (.array .byte)) (by decide))
 refine o_dup K X112 at_354 rfl rfl ?_
 refine o_aload K X112 at_355 rfl rfl rfl ?_
 have m113 := (m95.ext E112)
 refine o_special K X112 (y := (⟨z0, "<init>", "([C)V"⟩ : MethodName)) rfl (w15 hw) (w16 hw) (w14 hw) (w17 hw) (by decide) (rm_str_1 l Z a0 hw b112 ar1 kar1 cs ca h112 A112 F112_value F112_coder G112 m113 q21 q22 q9.2) (by decide) rfl (argsL := [.ref ar1]) rfl (lenOf pd17 rfl) (W := 2) rfl (by decide) (by decide) (by decide) at_357 rfl ?_
 intro v114 T114 h114 X114 U114
 obtain ⟨vb_114, k_114, rfl, u114_0, u114_1, u114_2, u114_3, u114_4, u114_5⟩ := U114
 have G114_vb : Z.heap.size ≤ vb_114 := Nat.le_trans X112.ext0.1 u114_4
 show oGoes pp ee bb ss Z T114 (mkF mm 360 _ [.ref b112, .ref b1]) _ _ _
 have m115 := ((m47.ext E112).keep u114_0)
 refine o_virtual K X114   (w112 hw) (w113 hw) (oNF (w115 hw)) (w115 hw) (w114 hw) (w11 hw) (w116 hw) (by decide) m115 (rm_eqstr l Z a0 hw b1 b112 h114 u114_1) (by decide) rfl (argsL := [.ref b112]) rfl (lenOf pd16 rfl) (W := 0) rfl (by decide) (by decide) (by decide) at_360 rfl ?_
 intro v116 T116 h116 X116 U116
 obtain ⟨rfl, rfl⟩ := U116
 show oGoes pp ee bb ss Z T116 (mkF mm 363 _ [.int 0]) _ _ _
 refine o_if_ne_f K X116 at_363 rfl (by decide) ?_
 refine o_iconst K X116 at_366 rfl (z := 1) rfl ?_
 refine o_goto K X116 at_367 (by decide) (pc' := 371) (by decide) ?_
 refine o_ireturnN K X116 .boolean at_371 rfl (by simp) (z' := 1) (by decide) ?_ (by decide) (by decide)
 exact hQ _ _ rfl
 refine o_icmp_ne_t K X46 at_346 (by decide) (pc' := 372) (by decide) c346_111 ?_
 refine o_iload K X46 at_372 rfl rfl ?_
 refine o_bipush K X46 at_374 rfl (z := 7) rfl ?_
 by_cases c376_117 : (((i5.toUInt32 >>> ((2 : Int32) &&& 31).toUInt32).toInt32) &&& (7 : Int32)) = (7 : Int32)
 refine o_icmp_ne_f K X46 at_376 rfl c376_117 ?_
 refine o_aload K X46 at_379 rfl rfl rfl ?_
 refine o_aload K X46 at_381 rfl rfl rfl ?_
 refine o_virtual K X46   (w112 hw) (w113 hw) (oNF (w115 hw)) (w115 hw) (w114 hw) (w11 hw) (w116 hw) (by decide) m47 (rm_eqself l Z a0 hw b1 b2 b5 h46 m47 m51 m64 m52 m65) (by decide) rfl (argsL := [.ref b1]) rfl (lenOf pd16 rfl) (W := 0) rfl (by decide) (by decide) (by decide) at_383 rfl ?_
 intro v118 T118 h118 X118 U118
 obtain ⟨rfl, rfl⟩ := U118
 show oGoes pp ee bb ss Z T118 (mkF mm 386 _ [.int 1]) _ _ _
 refine o_ireturnN K X118 .boolean at_386 rfl (by simp) (z' := 1) (by decide) ?_ (by decide) (by decide)
 exact hQ _ _ rfl
 refine o_icmp_ne_t K X46 at_376 (by decide) (pc' := 387) (by decide) c376_117 ?_
 refine o_iload K X46 at_387 rfl rfl ?_
 refine o_iload K X46 at_389 rfl rfl ?_
 refine o_icmp_ne_f K X46 at_391 rfl (by decide) ?_
 refine o_aload K X46 at_394 rfl rfl rfl ?_
 refine o_iconst K X46 at_396 rfl (z := 0) rfl ?_
 refine o_caload K X46 m95 (by decide) (v := (.int ca)) rfl at_397 rfl ?_
 refine o_aload K X46 at_398 rfl rfl rfl ?_
 refine o_iconst K X46 at_400 rfl (z := 0) rfl ?_
 refine o_caload K X46 m105 (by decide) (v := (.int ua)) rfl at_401 rfl ?_
 by_cases c402_119 : ca = ua
 refine o_icmp_ne_f K X46 at_402 rfl c402_119 ?_
 refine o_iload K X46 at_405 rfl rfl ?_
 refine o_iconst K X46 at_407 rfl (z := 1) rfl ?_
 refine o_icmp_eq_t K X46 at_408 (by decide) (pc' := 422) (by decide) (by decide) ?_
 refine o_iconst K X46 at_422 rfl (z := 1) rfl ?_
 refine o_goto K X46 at_423 (by decide) (pc' := 427) (by decide) ?_
 refine o_istore K X46 at_427 rfl (L' := #[vI i0, vI i1, vI i2, vI i3, vI i4, vI i5, vI 1, vI 2, vI cp, vI cq, vI 1, vI 1, vR ar1, vR ar2, vR ar3, vR ar4, vR b1, vR b21, vI (((i5.toUInt32 >>> ((2 : Int32) &&& 31).toUInt32).toInt32) &&& (7 : Int32)), vI 1, uS, uS]) rfl ?_
 refine o_iload K X46 at_429 rfl rfl ?_
 refine o_iload K X46 at_431 rfl rfl ?_
 refine o_icmp_ne_t K X46 at_433 (by decide) (pc' := 468) (by decide) (by decide) ?_
 refine o_iconst K X46 at_468 rfl (z := 0) rfl ?_
 refine o_istore K X46 at_469 rfl (L' := #[vI i0, vI i1, vI i2, vI i3, vI i4, vI i5, vI 1, vI 2, vI cp, vI cq, vI 1, vI 1, vR ar1, vR ar2, vR ar3, vR ar4, vR b1, vR b21, vI (((i5.toUInt32 >>> ((2 : Int32) &&& 31).toUInt32).toInt32) &&& (7 : Int32)), vI 1, vI 0, uS]) rfl ?_
 refine tl_lw3 l Z a0 hw i0 i1 i2 i3 i4 i5 cp cq (((i5.toUInt32 >>> ((2 : Int32) &&& 31).toUInt32).toInt32) &&& (7 : Int32)) 1 0 ar1 ar2 ar3 ar4 b1 b21 b2 vb_4 k_4 b5 vb_8 k_8 b22 vb_27 k_27 b28 vb_34 k_34 1 2 1 1 ca ca da db ua ua ya ya cs h46 (by simp +decide [oSm, c402_119]) (by simp +decide [oSm, c402_119]) m47 m51 m64 u46_1 u46_2 u46_3 m52 m56 m57 o58 m65 m69 m70 o71 m77 m78 m79 o80 m83 m84 m85 o86 (by decide) (by decide) (by decide) (by decide) q9 q9 q10 q11 q12 q12 q13 q13 n53 n67 q21 q22 (fun v120 h120 U120 => ?_) K (X46.mono (by decide) (by decide))
 obtain rfl : v120 = some (.int 1) := U120
 exact hQ _ _ rfl
 refine o_icmp_ne_t K X46 at_402 (by decide) (pc' := 426) (by decide) c402_119 ?_
 refine o_iconst K X46 at_426 rfl (z := 0) rfl ?_
 refine o_istore K X46 at_427 rfl (L' := #[vI i0, vI i1, vI i2, vI i3, vI i4, vI i5, vI 1, vI 2, vI cp, vI cq, vI 1, vI 1, vR ar1, vR ar2, vR ar3, vR ar4, vR b1, vR b21, vI (((i5.toUInt32 >>> ((2 : Int32) &&& 31).toUInt32).toInt32) &&& (7 : Int32)), vI 0, uS, uS]) rfl ?_
 refine o_iload K X46 at_429 rfl rfl ?_
 refine o_iload K X46 at_431 rfl rfl ?_
 refine o_icmp_ne_t K X46 at_433 (by decide) (pc' := 468) (by decide) (by decide) ?_
 refine o_iconst K X46 at_468 rfl (z := 0) rfl ?_
 refine o_istore K X46 at_469 rfl (L' := #[vI i0, vI i1, vI i2, vI i3, vI i4, vI i5, vI 1, vI 2, vI cp, vI cq, vI 1, vI 1, vR ar1, vR ar2, vR ar3, vR ar4, vR b1, vR b21, vI (((i5.toUInt32 >>> ((2 : Int32) &&& 31).toUInt32).toInt32) &&& (7 : Int32)), vI 0, vI 0, uS]) rfl ?_
 refine tl_lw3 l Z a0 hw i0 i1 i2 i3 i4 i5 cp cq (((i5.toUInt32 >>> ((2 : Int32) &&& 31).toUInt32).toInt32) &&& (7 : Int32)) 0 0 ar1 ar2 ar3 ar4 b1 b21 b2 vb_4 k_4 b5 vb_8 k_8 b22 vb_27 k_27 b28 vb_34 k_34 1 2 1 1 ca ca da db ua ua ya ya cs h46 (by simp +decide [oSm, c402_119]) (by simp +decide [oSm, c402_119]) m47 m51 m64 u46_1 u46_2 u46_3 m52 m56 m57 o58 m65 m69 m70 o71 m77 m78 m79 o80 m83 m84 m85 o86 (by decide) (by decide) (by decide) (by decide) q9 q9 q10 q11 q12 q12 q13 q13 n53 n67 q21 q22 (fun v121 h121 U121 => ?_) K (X46.mono (by decide) (by decide))
 obtain rfl : v121 = some (.int 1) := U121
 exact hQ _ _ rfl
def Q_t258_1212 (Z : State) (i0 i1 i2 i3 i4 i5 cp cq : Int32) (ar1 : Addr) (kar1 : ClassId) (ar2 : Addr) (kar2 : ClassId) (ar3 : Addr) (kar3 : ClassId) (ar4 : Addr) (kar4 : ClassId) (ca da db ua ya yb : Int32) (fm : Value) (cs : Int32) (h0 : Heap) (v : Option Value) (h : Heap) : Prop := v = some (.int 1)
theorem tl_t258_1212 (l : Launch) (Z : State) (a0 : Array Value) (hw : oHw Z a0) (i0 i1 i2 i3 i4 i5 cp cq : Int32) (ar1 : Addr) (kar1 : ClassId) (ar2 : Addr) (kar2 : ClassId) (ar3 : Addr) (kar3 : ClassId) (ar4 : Addr) (kar4 : ClassId) (ca da db ua ya yb : Int32) (fm : Value) (cs : Int32) (h0 : Heap) (q0 : oArr Z h0 ar1 kar1 .char [.int ca]) (q1 : oArr Z h0 ar2 kar2 .char [.int da, .int db]) (q2 : oArr Z h0 ar3 kar3 .char [.int ua]) (q3 : oArr Z h0 ar4 kar4 .char [.int ya, .int yb]) (q4 : oSh ca) (q5 : oId da) (q6 : oId db) (q7 : oSh ua) (q8 : oId ya) (q9 : oId yb) (q10 : oCh ca) (q11 : oCh da) (q12 : oCh db) (q13 : oCh ua) (q14 : oCh ya) (q15 : oCh yb) (q16 : nar .char ca = ca) (q17 : nar .char da = da) (q18 : nar .char db = db) (q19 : nar .char ua = ua) (q20 : nar .char ya = ya) (q21 : nar .char yb = yb) (q22 : Sta Z Z.heap z3 z5 z6 fm) (q23 : fm.isRef = true) (q24 : Sta Z Z.heap z0 z4 "Z" (.int cs)) (q25 : ¬ (cs = (0 : Int32))) {Q : Option Value → Heap → Prop} (hQ : ∀ v h, Q_t258_1212 Z i0 i1 i2 i3 i4 i5 cp cq ar1 kar1 ar2 kar2 ar3 kar3 ar4 kar4 ca da db ua ya yb fm cs h0 v h → Q v h) {pp : Program} {ee : Env} {ss : State} {mm : MethodId} {bb : List Frame} {mtd : Method} {cc : Code} {A : Array Value} {T0 : State} (K : oCtx pp ss mm mtd cc Z z7 code maxLocals "law" ret x) (X0 : oSt pp l ee room_1 ss mm A bb mtd cc Z T0 h0 4 8) : oGoes pp ee bb ss Z T0 (mkF mm 258 #[vI i0, vI i1, vI i2, vI i3, vI i4, vI i5, vI 1, vI 2, vI cp, vI cq, vI 1, vI 2, vR ar1, vR ar2, vR ar3, vR ar4, uS, uS, uS, uS, uS, uS] []) Q room_1.cells room_1.slots := by
 have E0 := X0.ext0
 refine o_new K X0 (w9 hw) (w10 hw) (w11 hw) at_258 rfl (by decide) (by decide) ?_
 intro T1 h1 b1 X1 g1 E1 A1 D1 G1
 have F1_shelf : Fld Z h1 b1 z1 "shelf" z2 .null := (D1 (Or.inr (w109 hw)) (ty := (.object z0)) (by decide))
 have F1_id : Fld Z h1 b1 z1 "id" z2 .null := (D1 (Or.inr (w111 hw)) (ty := (.object z0)) (by decide))
 refine o_dup K X1 at_261 rfl rfl ?_
 refine o_new K X1 (w12 hw) (w13 hw) (w14 hw) at_262 rfl (by decide) (by decide) ?_
 intro T2 h2 b2 X2 g2 E2 A2 D2 G2
 have F2_coder : Fld Z h2 b2 z0 "coder" "B" (.int 0) := (D2 (Or.inr (w38 hw)) (ty := .byte) (by decide))
 have F2_value : Fld Z h2 b2 z0 "value" "[B" .null := (D2 (Or.inr (w40 hw)) (ty := (.array .byte)) (by decide))
 refine o_dup K X2 at_265 rfl rfl ?_
 refine o_aload K X2 at_266 rfl rfl rfl ?_
 have m3 := ((q0.ext E1).ext E2)
 refine o_special K X2 (y := (⟨z0, "<init>", "([C)V"⟩ : MethodName)) rfl (w15 hw) (w16 hw) (w14 hw) (w17 hw) (by decide) (rm_str_1 l Z a0 hw b2 ar1 kar1 cs ca h2 A2 F2_value F2_coder G2 m3 q24 q25 q10.2) (by decide) rfl (argsL := [.ref ar1]) rfl (lenOf pd17 rfl) (W := 3) rfl (by decide) (by decide) (by decide) at_268 rfl ?_
 intro v4 T4 h4 X4 U4
 obtain ⟨vb_4, k_4, rfl, u4_0, u4_1, u4_2, u4_3, u4_4, u4_5⟩ := U4
 have G4_vb : Z.heap.size ≤ vb_4 := Nat.le_trans X2.ext0.1 u4_4
 show oGoes pp ee bb ss Z T4 (mkF mm 271 _ [.ref b2, .ref b1, .ref b1]) _ _ _
 refine o_new K X4 (w12 hw) (w13 hw) (w14 hw) at_271 rfl (by decide) (by decide) ?_
 intro T5 h5 b5 X5 g5 E5 A5 D5 G5
 have F5_coder : Fld Z h5 b5 z0 "coder" "B" (.int 0) := (D5 (Or.inr (w38 hw)) (ty := .byte) (by decide))
 have F5_value : Fld Z h5 b5 z0 "value" "[B" .null := (D5 (Or.inr (w40 hw)) (ty := (.array .byte)) (by decide))
 refine o_dup K X5 at_274 rfl rfl ?_
 refine o_aload K X5 at_275 rfl rfl rfl ?_
 have n6 := oLn q1.lt E1.1 (oLe g2)
 have m7 := ((((q1.ext E1).ext E2).keep u4_0 (ninS n6 nin0)).ext E5)
 refine o_special K X5 (y := (⟨z0, "<init>", "([C)V"⟩ : MethodName)) rfl (w15 hw) (w16 hw) (w14 hw) (w17 hw) (by decide) (rm_str_2 l Z a0 hw b5 ar2 kar2 cs da db h5 A5 F5_value F5_coder G5 m7 q24 q25 q11.2 q12.2) (by decide) rfl (argsL := [.ref ar2]) rfl (lenOf pd17 rfl) (W := 4) rfl (by decide) (by decide) (by decide) at_277 rfl ?_
 intro v8 T8 h8 X8 U8
 obtain ⟨vb_8, k_8, rfl, u8_0, u8_1, u8_2, u8_3, u8_4, u8_5⟩ := U8
 have G8_vb : Z.heap.size ≤ vb_8 := Nat.le_trans X5.ext0.1 u8_4
 show oGoes pp ee bb ss Z T8 (mkF mm 280 _ [.ref b5, .ref b2, .ref b1, .ref b1]) _ _ _
 have m9 := ((((A1.ext E2).keep u4_0).ext E5).keep u8_0)
 have n10 := oLz A1.lt (oLe g2)
 have n11 := oLn A1.lt (Nat.le_trans E2.1 u4_0.1) (oLe g5)
 have m12 := ((((F1_shelf.ext E2).keep u4_0 (ninS n10 nin0)).ext E5).keep u8_0 (ninS n11 nin0))
 have m13 := ((((F1_id.ext E2).keep u4_0 (ninS n10 nin0)).ext E5).keep u8_0 (ninS n11 nin0))
 have m14 := ((u4_1.ext E5).keep u8_0)
 have n15 := oLn A2.lt u4_0.1 (oLe g5)
 have m16 := ((u4_2.ext E5).keep u8_0 (ninS n15 nin0))
 have m17 := ((u4_3.ext E5).keep u8_0 (ninS n15 nin0))
 have n18 := oLz u4_5.lt (oLe g5)
 have m19 := ((u4_5.ext E5).keep u8_0 (ninS n18 nin0))
 refine o_special K X8 (y := (⟨z1, "<init>", z8⟩ : MethodName)) rfl (w41 hw) (w42 hw) (w11 hw) (w43 hw) (by decide) (rm_rk12 l Z a0 hw b1 b2 vb_4 k_4 b5 vb_8 k_8 ca da db fm cs h8 m9 G1 m12 m13 m14 m16 m17 m19 u8_1 u8_2 u8_3 u8_5 q4 q5 q6 q10 q11 q12 q22 q23 q24 q25) (by decide) rfl (argsL := [.ref b2, .ref b5]) rfl (lenOf pd18 rfl) (W := 1) rfl (by decide) (by decide) (by decide) at_280 rfl ?_
 intro v20 T20 h20 X20 U20
 obtain ⟨rfl, u20_0, u20_1, u20_2, u20_3⟩ := U20
 show oGoes pp ee bb ss Z T20 (mkF mm 283 _ [.ref b1]) _ _ _
 refine o_astore K X20 at_283 rfl rfl (L' := #[vI i0, vI i1, vI i2, vI i3, vI i4, vI i5, vI 1, vI 2, vI cp, vI cq, vI 1, vI 2, vR ar1, vR ar2, vR ar3, vR ar4, vR b1, uS, uS, uS, uS, uS]) rfl ?_
 refine o_new K X20 (w9 hw) (w10 hw) (w11 hw) at_285 rfl (by decide) (by decide) ?_
 intro T21 h21 b21 X21 g21 E21 A21 D21 G21
 have F21_shelf : Fld Z h21 b21 z1 "shelf" z2 .null := (D21 (Or.inr (w109 hw)) (ty := (.object z0)) (by decide))
 have F21_id : Fld Z h21 b21 z1 "id" z2 .null := (D21 (Or.inr (w111 hw)) (ty := (.object z0)) (by decide))
 refine o_dup K X21 at_288 rfl rfl ?_
 refine o_new K X21 (w12 hw) (w13 hw) (w14 hw) at_289 rfl (by decide) (by decide) ?_
 intro T22 h22 b22 X22 g22 E22 A22 D22 G22
 have F22_coder : Fld Z h22 b22 z0 "coder" "B" (.int 0) := (D22 (Or.inr (w38 hw)) (ty := .byte) (by decide))
 have F22_value : Fld Z h22 b22 z0 "value" "[B" .null := (D22 (Or.inr (w40 hw)) (ty := (.array .byte)) (by decide))
 refine o_dup K X22 at_292 rfl rfl ?_
 refine o_aload K X22 at_293 rfl rfl rfl ?_
 have n23 := oLn q2.lt E1.1 (oLe g2)
 have y0_3 := Nat.le_trans (Nat.le_trans E1.1 E2.1) u4_0.1
 have n24 := oLn q2.lt y0_3 (oLe g5)
 have n25 := oLz q2.lt (oLe g1)
 have m26 := ((((((((q2.ext E1).ext E2).keep u4_0 (ninS n23 nin0)).ext E5).keep u8_0 (ninS n24 nin0)).keep u20_0 (ninS n25 nin0)).ext E21).ext E22)
 refine o_special K X22 (y := (⟨z0, "<init>", "([C)V"⟩ : MethodName)) rfl (w15 hw) (w16 hw) (w14 hw) (w17 hw) (by decide) (rm_str_1 l Z a0 hw b22 ar3 kar3 cs ua h22 A22 F22_value F22_coder G22 m26 q24 q25 q13.2) (by decide) rfl (argsL := [.ref ar3]) rfl (lenOf pd17 rfl) (W := 3) rfl (by decide) (by decide) (by decide) at_295 rfl ?_
 intro v27 T27 h27 X27 U27
 obtain ⟨vb_27, k_27, rfl, u27_0, u27_1, u27_2, u27_3, u27_4, u27_5⟩ := U27
 have G27_vb : Z.heap.size ≤ vb_27 := Nat.le_trans X22.ext0.1 u27_4
 show oGoes pp ee bb ss Z T27 (mkF mm 298 _ [.ref b22, .ref b21, .ref b21]) _ _ _
 refine o_new K X27 (w12 hw) (w13 hw) (w14 hw) at_298 rfl (by decide) (by decide) ?_
 intro T28 h28 b28 X28 g28 E28 A28 D28 G28
 have F28_coder : Fld Z h28 b28 z0 "coder" "B" (.int 0) := (D28 (Or.inr (w38 hw)) (ty := .byte) (by decide))
 have F28_value : Fld Z h28 b28 z0 "value" "[B" .null := (D28 (Or.inr (w40 hw)) (ty := (.array .byte)) (by decide))
 refine o_dup K X28 at_301 rfl rfl ?_
 refine o_aload K X28 at_302 rfl rfl rfl ?_
 have n29 := oLn q3.lt E1.1 (oLe g2)
 have n30 := oLn q3.lt y0_3 (oLe g5)
 have n31 := oLz q3.lt (oLe g1)
 have y0_7 := Nat.le_trans (Nat.le_trans (Nat.le_trans (Nat.le_trans y0_3 E5.1) u8_0.1) u20_0.1) E21.1
 have n32 := oLn q3.lt y0_7 (oLe g22)
 have m33 := ((((((((((q3.ext E1).ext E2).keep u4_0 (ninS n29 nin0)).ext E5).keep u8_0 (ninS n30 nin0)).keep u20_0 (ninS n31 nin0)).ext E21).ext E22).keep u27_0 (ninS n32 nin0)).ext E28)
 refine o_special K X28 (y := (⟨z0, "<init>", "([C)V"⟩ : MethodName)) rfl (w15 hw) (w16 hw) (w14 hw) (w17 hw) (by decide) (rm_str_2 l Z a0 hw b28 ar4 kar4 cs ya yb h28 A28 F28_value F28_coder G28 m33 q24 q25 q14.2 q15.2) (by decide) rfl (argsL := [.ref ar4]) rfl (lenOf pd17 rfl) (W := 4) rfl (by decide) (by decide) (by decide) at_304 rfl ?_
 intro v34 T34 h34 X34 U34
 obtain ⟨vb_34, k_34, rfl, u34_0, u34_1, u34_2, u34_3, u34_4, u34_5⟩ := U34
 have G34_vb : Z.heap.size ≤ vb_34 := Nat.le_trans X28.ext0.1 u34_4
 show oGoes pp ee bb ss Z T34 (mkF mm 307 _ [.ref b28, .ref b22, .ref b21, .ref b21]) _ _ _
 have m35 := ((((A21.ext E22).keep u27_0).ext E28).keep u34_0)
 have n36 := oLz A21.lt (oLe g22)
 have n37 := oLn A21.lt (Nat.le_trans E22.1 u27_0.1) (oLe g28)
 have m38 := ((((F21_shelf.ext E22).keep u27_0 (ninS n36 nin0)).ext E28).keep u34_0 (ninS n37 nin0))
 have m39 := ((((F21_id.ext E22).keep u27_0 (ninS n36 nin0)).ext E28).keep u34_0 (ninS n37 nin0))
 have m40 := ((u27_1.ext E28).keep u34_0)
 have n41 := oLn A22.lt u27_0.1 (oLe g28)
 have m42 := ((u27_2.ext E28).keep u34_0 (ninS n41 nin0))
 have m43 := ((u27_3.ext E28).keep u34_0 (ninS n41 nin0))
 have n44 := oLz u27_5.lt (oLe g28)
 have m45 := ((u27_5.ext E28).keep u34_0 (ninS n44 nin0))
 refine o_special K X34 (y := (⟨z1, "<init>", z8⟩ : MethodName)) rfl (w41 hw) (w42 hw) (w11 hw) (w43 hw) (by decide) (rm_rk12 l Z a0 hw b21 b22 vb_27 k_27 b28 vb_34 k_34 ua ya yb fm cs h34 m35 G21 m38 m39 m40 m42 m43 m45 u34_1 u34_2 u34_3 u34_5 q7 q8 q9 q13 q14 q15 q22 q23 q24 q25) (by decide) rfl (argsL := [.ref b22, .ref b28]) rfl (lenOf pd18 rfl) (W := 1) rfl (by decide) (by decide) (by decide) at_307 rfl ?_
 intro v46 T46 h46 X46 U46
 obtain ⟨rfl, u46_0, u46_1, u46_2, u46_3⟩ := U46
 show oGoes pp ee bb ss Z T46 (mkF mm 310 _ [.ref b21]) _ _ _
 refine o_astore K X46 at_310 rfl rfl (L' := #[vI i0, vI i1, vI i2, vI i3, vI i4, vI i5, vI 1, vI 2, vI cp, vI cq, vI 1, vI 2, vR ar1, vR ar2, vR ar3, vR ar4, vR b1, vR b21, uS, uS, uS, uS]) rfl ?_
 have m47 := ((((((u20_1.ext E21).ext E22).keep u27_0).ext E28).keep u34_0).keep u46_0)
 have y1_7 := Nat.le_trans (Nat.le_trans (Nat.le_trans (Nat.le_trans (Nat.le_trans E2.1 u4_0.1) E5.1) u8_0.1) u20_0.1) E21.1
 have n48 := oLn A1.lt y1_7 (oLe g22)
 have y1_9 := Nat.le_trans (Nat.le_trans y1_7 E22.1) u27_0.1
 have n49 := oLn A1.lt y1_9 (oLe g28)
 have y1_6 := Nat.le_trans (Nat.le_trans (Nat.le_trans (Nat.le_trans E2.1 u4_0.1) E5.1) u8_0.1) u20_0.1
 have n50 := oLn A1.lt y1_6 (oLe g21)
 have m51 := ((((((u20_2.ext E21).ext E22).keep u27_0 (ninS n48 nin0)).ext E28).keep u34_0 (ninS n49 nin0)).keep u46_0 (ninS n50 nin0))
 have m52 := (((((((m14.keep u20_0).ext E21).ext E22).keep u27_0).ext E28).keep u34_0).keep u46_0)
 have y2_7 := Nat.le_trans (Nat.le_trans (Nat.le_trans (Nat.le_trans u4_0.1 E5.1) u8_0.1) u20_0.1) E21.1
 have n53 := oLn A2.lt y2_7 (oLe g22)
 have y2_9 := Nat.le_trans (Nat.le_trans y2_7 E22.1) u27_0.1
 have n54 := oLn A2.lt y2_9 (oLe g28)
 have y2_6 := Nat.le_trans (Nat.le_trans (Nat.le_trans u4_0.1 E5.1) u8_0.1) u20_0.1
 have n55 := oLn A2.lt y2_6 (oLe g21)
 have m56 := (((((((m16.keep u20_0 (ninS (Ne.symm n10) nin0)).ext E21).ext E22).keep u27_0 (ninS n53 nin0)).ext E28).keep u34_0 (ninS n54 nin0)).keep u46_0 (ninS n55 nin0))
 have m57 := (((((((m17.keep u20_0 (ninS (Ne.symm n10) nin0)).ext E21).ext E22).keep u27_0 (ninS n53 nin0)).ext E28).keep u34_0 (ninS n54 nin0)).keep u46_0 (ninS n55 nin0))
 have n59 := oLsn A1.lt E2.1 u4_4
 have y3_7 := Nat.le_trans (Nat.le_trans (Nat.le_trans E5.1 u8_0.1) u20_0.1) E21.1
 have n60 := oLn u4_5.lt y3_7 (oLe g22)
 have y3_9 := Nat.le_trans (Nat.le_trans y3_7 E22.1) u27_0.1
 have n61 := oLn u4_5.lt y3_9 (oLe g28)
 have y3_6 := Nat.le_trans (Nat.le_trans E5.1 u8_0.1) u20_0.1
 have n62 := oLn u4_5.lt y3_6 (oLe g21)
 have m63 := (((((((m19.keep u20_0 (ninS n59 nin0)).ext E21).ext E22).keep u27_0 (ninS n60 nin0)).ext E28).keep u34_0 (ninS n61 nin0)).keep u46_0 (ninS n62 nin0))
 have o58 := oByC (oBy1 ca ca) m63
 have m64 := ((((((u20_3.ext E21).ext E22).keep u27_0 (ninS n48 nin0)).ext E28).keep u34_0 (ninS n49 nin0)).keep u46_0 (ninS n50 nin0))
 have m65 := (((((((u8_1.keep u20_0).ext E21).ext E22).keep u27_0).ext E28).keep u34_0).keep u46_0)
 have y4_7 := Nat.le_trans (Nat.le_trans u8_0.1 u20_0.1) E21.1
 have n66 := oLn A5.lt y4_7 (oLe g22)
 have y4_9 := Nat.le_trans (Nat.le_trans y4_7 E22.1) u27_0.1
 have n67 := oLn A5.lt y4_9 (oLe g28)
 have n68 := oLn A5.lt (Nat.le_trans u8_0.1 u20_0.1) (oLe g21)
 have m69 := (((((((u8_2.keep u20_0 (ninS (Ne.symm n11) nin0)).ext E21).ext E22).keep u27_0 (ninS n66 nin0)).ext E28).keep u34_0 (ninS n67 nin0)).keep u46_0 (ninS n68 nin0))
 have m70 := (((((((u8_3.keep u20_0 (ninS (Ne.symm n11) nin0)).ext E21).ext E22).keep u27_0 (ninS n66 nin0)).ext E28).keep u34_0 (ninS n67 nin0)).keep u46_0 (ninS n68 nin0))
 have y1_4 := Nat.le_trans (Nat.le_trans E2.1 u4_0.1) E5.1
 have n72 := oLsn A1.lt y1_4 u8_4
 have n73 := oLn u8_5.lt (Nat.le_trans u20_0.1 E21.1) (oLe g22)
 have y5_9 := Nat.le_trans (Nat.le_trans (Nat.le_trans u20_0.1 E21.1) E22.1) u27_0.1
 have n74 := oLn u8_5.lt y5_9 (oLe g28)
 have n75 := oLn u8_5.lt u20_0.1 (oLe g21)
 have m76 := (((((((u8_5.keep u20_0 (ninS n72 nin0)).ext E21).ext E22).keep u27_0 (ninS n73 nin0)).ext E28).keep u34_0 (ninS n74 nin0)).keep u46_0 (ninS n75 nin0))
 have o71 := oByC (oBy2 da db) m76
 have m77 := (m40.keep u46_0)
 have m78 := (m42.keep u46_0 (ninS (Ne.symm n36) nin0))
 have m79 := (m43.keep u46_0 (ninS (Ne.symm n36) nin0))
 have n81 := oLsn A21.lt E22.1 u27_4
 have m82 := (m45.keep u46_0 (ninS n81 nin0))
 have o80 := oByC (oBy1 ua ua) m82
 have m83 := (u34_1.keep u46_0)
 have m84 := (u34_2.keep u46_0 (ninS (Ne.symm n37) nin0))
 have m85 := (u34_3.keep u46_0 (ninS (Ne.symm n37) nin0))
 have y7_10 := Nat.le_trans (Nat.le_trans E22.1 u27_0.1) E28.1
 have n87 := oLsn A21.lt y7_10 u34_4
 have m88 := (u34_5.keep u46_0 (ninS n87 nin0))
 have o86 := oByC (oBy2 ya yb) m88
 have n89 := oLn q0.lt E1.1 (oLe g2)
 have n90 := oLn q0.lt y0_3 (oLe g5)
 have n91 := oLz q0.lt (oLe g1)
 have n92 := oLn q0.lt y0_7 (oLe g22)
 have y0_9 := Nat.le_trans (Nat.le_trans y0_7 E22.1) u27_0.1
 have n93 := oLn q0.lt y0_9 (oLe g28)
 have y0_6 := Nat.le_trans (Nat.le_trans (Nat.le_trans y0_3 E5.1) u8_0.1) u20_0.1
 have n94 := oLn q0.lt y0_6 (oLe g21)
 have m95 := ((((((((((m3.keep u4_0 (ninS n89 nin0)).ext E5).keep u8_0 (ninS n90 nin0)).keep u20_0 (ninS n91 nin0)).ext E21).ext E22).keep u27_0 (ninS n92 nin0)).ext E28).keep u34_0 (ninS n93 nin0)).keep u46_0 (ninS n94 nin0))
 have n96 := oLn q1.lt y0_3 (oLe g5)
 have n97 := oLz q1.lt (oLe g1)
 have n98 := oLn q1.lt y0_7 (oLe g22)
 have n99 := oLn q1.lt y0_9 (oLe g28)
 have n100 := oLn q1.lt y0_6 (oLe g21)
 have m101 := ((((((((m7.keep u8_0 (ninS n96 nin0)).keep u20_0 (ninS n97 nin0)).ext E21).ext E22).keep u27_0 (ninS n98 nin0)).ext E28).keep u34_0 (ninS n99 nin0)).keep u46_0 (ninS n100 nin0))
 have n102 := oLn q2.lt y0_7 (oLe g22)
 have n103 := oLn q2.lt y0_9 (oLe g28)
 have n104 := oLn q2.lt y0_6 (oLe g21)
 have m105 := ((((m26.keep u27_0 (ninS n102 nin0)).ext E28).keep u34_0 (ninS n103 nin0)).keep u46_0 (ninS n104 nin0))
 have n106 := oLn q3.lt y0_9 (oLe g28)
 have n107 := oLn q3.lt y0_6 (oLe g21)
 have m108 := ((m33.keep u34_0 (ninS n106 nin0)).keep u46_0 (ninS n107 nin0))
 refine o_iload K X46 at_312 rfl rfl ?_
 refine o_iconst K X46 at_314 rfl (z := 2) rfl ?_
 refine o_iushr K X46 at_315 rfl (z := ((i5.toUInt32 >>> ((2 : Int32) &&& 31).toUInt32).toInt32)) rfl ?_
 refine o_bipush K X46 at_316 rfl (z := 7) rfl ?_
 refine o_iand K X46 at_318 rfl (z := (((i5.toUInt32 >>> ((2 : Int32) &&& 31).toUInt32).toInt32) &&& (7 : Int32))) rfl ?_
 refine o_istore K X46 at_319 rfl (L' := #[vI i0, vI i1, vI i2, vI i3, vI i4, vI i5, vI 1, vI 2, vI cp, vI cq, vI 1, vI 2, vR ar1, vR ar2, vR ar3, vR ar4, vR b1, vR b21, vI (((i5.toUInt32 >>> ((2 : Int32) &&& 31).toUInt32).toInt32) &&& (7 : Int32)), uS, uS, uS]) rfl ?_
 refine o_iload K X46 at_321 rfl rfl ?_
 refine o_iconst K X46 at_323 rfl (z := 5) rfl ?_
 by_cases c324_109 : (((i5.toUInt32 >>> ((2 : Int32) &&& 31).toUInt32).toInt32) &&& (7 : Int32)) = (5 : Int32)
 refine o_icmp_ne_f K X46 at_324 rfl c324_109 ?_
 refine o_aload K X46 at_327 rfl rfl rfl ?_
 refine o_aconst_null K X46 at_329 rfl ?_
 refine o_virtual K X46   (w112 hw) (w113 hw) (oNF (w115 hw)) (w115 hw) (w114 hw) (w11 hw) (w116 hw) (by decide) m47 (rm_eqnull l Z a0 hw b1 h46) (by decide) rfl (argsL := [.null]) rfl (lenOf pd16 rfl) (W := 0) rfl (by decide) (by decide) (by decide) at_330 rfl ?_
 intro v110 T110 h110 X110 U110
 obtain ⟨rfl, rfl⟩ := U110
 show oGoes pp ee bb ss Z T110 (mkF mm 333 _ [.int 0]) _ _ _
 refine o_if_ne_f K X110 at_333 rfl (by decide) ?_
 refine o_iconst K X110 at_336 rfl (z := 1) rfl ?_
 refine o_goto K X110 at_337 (by decide) (pc' := 341) (by decide) ?_
 refine o_ireturnN K X110 .boolean at_341 rfl (by simp) (z' := 1) (by decide) ?_ (by decide) (by decide)
 exact hQ _ _ rfl
 refine o_icmp_ne_t K X46 at_324 (by decide) (pc' := 342) (by decide) c324_109 ?_
 refine o_iload K X46 at_342 rfl rfl ?_
 refine o_bipush K X46 at_344 rfl (z := 6) rfl ?_
 by_cases c346_111 : (((i5.toUInt32 >>> ((2 : Int32) &&& 31).toUInt32).toInt32) &&& (7 : Int32)) = (6 : Int32)
 refine o_icmp_ne_f K X46 at_346 rfl c346_111 ?_
 refine o_aload K X46 at_349 rfl rfl rfl ?_
 refine o_new K X46 (w12 hw) (w13 hw) (w14 hw) at_351 rfl (by decide) (by decide) ?_
 intro T112 h112 b112 X112 g112 E112 A112 D112 G112
 have F112_coder : Fld Z h112 b112 z0 "coder" "B" (.int 0) := (D112 (Or.inr (w38 hw)) (ty := .byte) (by decide))
 have F112_value : Fld Z h112 b112 z0 "value" "[B" .null := (D112 (Or.inr (w40 hw)) (ty := (.array .byte)) (by decide))
 refine o_dup K X112 at_354 rfl rfl ?_
 refine o_aload K X112 at_355 rfl rfl rfl ?_
 have m113 := (m95.ext E112)
 refine o_special K X112 (y := (⟨z0, "<init>", "([C)V"⟩ : MethodName)) rfl (w15 hw) (w16 hw) (w14 hw) (w17 hw) (by decide) (rm_str_1 l Z a0 hw b112 ar1 kar1 cs ca h112 A112 F112_value F112_coder G112 m113 q24 q25 q10.2) (by decide) rfl (argsL := [.ref ar1]) rfl (lenOf pd17 rfl) (W := 2) rfl (by decide) (by decide) (by decide) at_357 rfl ?_
 intro v114 T114 h114 X114 U114
 obtain ⟨vb_114, k_114, rfl, u114_0, u114_1, u114_2, u114_3, u114_4, u114_5⟩ := U114
 have G114_vb : Z.heap.size ≤ vb_114 := Nat.le_trans X112.ext0.1 u114_4
 show oGoes pp ee bb ss Z T114 (mkF mm 360 _ [.ref b112, .ref b1]) _ _ _
 have m115 := ((m47.ext E112).keep u114_0)
 refine o_virtual K X114   (w112 hw) (w113 hw) (oNF (w115 hw)) (w115 hw) (w114 hw) (w11 hw) (w116 hw) (by decide) m115 (rm_eqstr l Z a0 hw b1 b112 h114 u114_1) (by decide) rfl (argsL := [.ref b112]) rfl (lenOf pd16 rfl) (W := 0) rfl (by decide) (by decide) (by decide) at_360 rfl ?_
 intro v116 T116 h116 X116 U116
 obtain ⟨rfl, rfl⟩ := U116
 show oGoes pp ee bb ss Z T116 (mkF mm 363 _ [.int 0]) _ _ _
 refine o_if_ne_f K X116 at_363 rfl (by decide) ?_
 refine o_iconst K X116 at_366 rfl (z := 1) rfl ?_
 refine o_goto K X116 at_367 (by decide) (pc' := 371) (by decide) ?_
 refine o_ireturnN K X116 .boolean at_371 rfl (by simp) (z' := 1) (by decide) ?_ (by decide) (by decide)
 exact hQ _ _ rfl
 refine o_icmp_ne_t K X46 at_346 (by decide) (pc' := 372) (by decide) c346_111 ?_
 refine o_iload K X46 at_372 rfl rfl ?_
 refine o_bipush K X46 at_374 rfl (z := 7) rfl ?_
 by_cases c376_117 : (((i5.toUInt32 >>> ((2 : Int32) &&& 31).toUInt32).toInt32) &&& (7 : Int32)) = (7 : Int32)
 refine o_icmp_ne_f K X46 at_376 rfl c376_117 ?_
 refine o_aload K X46 at_379 rfl rfl rfl ?_
 refine o_aload K X46 at_381 rfl rfl rfl ?_
 refine o_virtual K X46   (w112 hw) (w113 hw) (oNF (w115 hw)) (w115 hw) (w114 hw) (w11 hw) (w116 hw) (by decide) m47 (rm_eqself l Z a0 hw b1 b2 b5 h46 m47 m51 m64 m52 m65) (by decide) rfl (argsL := [.ref b1]) rfl (lenOf pd16 rfl) (W := 0) rfl (by decide) (by decide) (by decide) at_383 rfl ?_
 intro v118 T118 h118 X118 U118
 obtain ⟨rfl, rfl⟩ := U118
 show oGoes pp ee bb ss Z T118 (mkF mm 386 _ [.int 1]) _ _ _
 refine o_ireturnN K X118 .boolean at_386 rfl (by simp) (z' := 1) (by decide) ?_ (by decide) (by decide)
 exact hQ _ _ rfl
 refine o_icmp_ne_t K X46 at_376 (by decide) (pc' := 387) (by decide) c376_117 ?_
 refine o_iload K X46 at_387 rfl rfl ?_
 refine o_iload K X46 at_389 rfl rfl ?_
 refine o_icmp_ne_f K X46 at_391 rfl (by decide) ?_
 refine o_aload K X46 at_394 rfl rfl rfl ?_
 refine o_iconst K X46 at_396 rfl (z := 0) rfl ?_
 refine o_caload K X46 m95 (by decide) (v := (.int ca)) rfl at_397 rfl ?_
 refine o_aload K X46 at_398 rfl rfl rfl ?_
 refine o_iconst K X46 at_400 rfl (z := 0) rfl ?_
 refine o_caload K X46 m105 (by decide) (v := (.int ua)) rfl at_401 rfl ?_
 by_cases c402_119 : ca = ua
 refine o_icmp_ne_f K X46 at_402 rfl c402_119 ?_
 refine o_iload K X46 at_405 rfl rfl ?_
 refine o_iconst K X46 at_407 rfl (z := 1) rfl ?_
 refine o_icmp_eq_t K X46 at_408 (by decide) (pc' := 422) (by decide) (by decide) ?_
 refine o_iconst K X46 at_422 rfl (z := 1) rfl ?_
 refine o_goto K X46 at_423 (by decide) (pc' := 427) (by decide) ?_
 refine o_istore K X46 at_427 rfl (L' := #[vI i0, vI i1, vI i2, vI i3, vI i4, vI i5, vI 1, vI 2, vI cp, vI cq, vI 1, vI 2, vR ar1, vR ar2, vR ar3, vR ar4, vR b1, vR b21, vI (((i5.toUInt32 >>> ((2 : Int32) &&& 31).toUInt32).toInt32) &&& (7 : Int32)), vI 1, uS, uS]) rfl ?_
 refine o_iload K X46 at_429 rfl rfl ?_
 refine o_iload K X46 at_431 rfl rfl ?_
 refine o_icmp_ne_f K X46 at_433 rfl (by decide) ?_
 refine o_aload K X46 at_436 rfl rfl rfl ?_
 refine o_iconst K X46 at_438 rfl (z := 0) rfl ?_
 refine o_caload K X46 m101 (by decide) (v := (.int da)) rfl at_439 rfl ?_
 refine o_aload K X46 at_440 rfl rfl rfl ?_
 refine o_iconst K X46 at_442 rfl (z := 0) rfl ?_
 refine o_caload K X46 m108 (by decide) (v := (.int ya)) rfl at_443 rfl ?_
 by_cases c444_120 : da = ya
 refine o_icmp_ne_f K X46 at_444 rfl c444_120 ?_
 refine o_iload K X46 at_447 rfl rfl ?_
 refine o_iconst K X46 at_449 rfl (z := 1) rfl ?_
 refine o_icmp_eq_f K X46 at_450 rfl (by decide) ?_
 refine o_aload K X46 at_453 rfl rfl rfl ?_
 refine o_iconst K X46 at_455 rfl (z := 1) rfl ?_
 refine o_caload K X46 m101 (by decide) (v := (.int db)) rfl at_456 rfl ?_
 refine o_aload K X46 at_457 rfl rfl rfl ?_
 refine o_iconst K X46 at_459 rfl (z := 1) rfl ?_
 refine o_caload K X46 m108 (by decide) (v := (.int yb)) rfl at_460 rfl ?_
 by_cases c461_121 : db = yb
 refine o_icmp_ne_f K X46 at_461 rfl c461_121 ?_
 refine o_iconst K X46 at_464 rfl (z := 1) rfl ?_
 refine o_goto K X46 at_465 (by decide) (pc' := 469) (by decide) ?_
 refine o_istore K X46 at_469 rfl (L' := #[vI i0, vI i1, vI i2, vI i3, vI i4, vI i5, vI 1, vI 2, vI cp, vI cq, vI 1, vI 2, vR ar1, vR ar2, vR ar3, vR ar4, vR b1, vR b21, vI (((i5.toUInt32 >>> ((2 : Int32) &&& 31).toUInt32).toInt32) &&& (7 : Int32)), vI 1, vI 1, uS]) rfl ?_
 refine tl_lw3 l Z a0 hw i0 i1 i2 i3 i4 i5 cp cq (((i5.toUInt32 >>> ((2 : Int32) &&& 31).toUInt32).toInt32) &&& (7 : Int32)) 1 1 ar1 ar2 ar3 ar4 b1 b21 b2 vb_4 k_4 b5 vb_8 k_8 b22 vb_27 k_27 b28 vb_34 k_34 1 2 1 2 ca ca da db ua ua ya yb cs h46 (by simp +decide [oSm, c402_119, c444_120, c461_121]) (by simp +decide [oSm, c402_119, c444_120, c461_121]) m47 m51 m64 u46_1 u46_2 u46_3 m52 m56 m57 o58 m65 m69 m70 o71 m77 m78 m79 o80 m83 m84 m85 o86 (by decide) (by decide) (by decide) (by decide) q10 q10 q11 q12 q13 q13 q14 q15 n53 n67 q24 q25 (fun v122 h122 U122 => ?_) K (X46.mono (by decide) (by decide))
 obtain rfl : v122 = some (.int 1) := U122
 exact hQ _ _ rfl
 refine o_icmp_ne_t K X46 at_461 (by decide) (pc' := 468) (by decide) c461_121 ?_
 refine o_iconst K X46 at_468 rfl (z := 0) rfl ?_
 refine o_istore K X46 at_469 rfl (L' := #[vI i0, vI i1, vI i2, vI i3, vI i4, vI i5, vI 1, vI 2, vI cp, vI cq, vI 1, vI 2, vR ar1, vR ar2, vR ar3, vR ar4, vR b1, vR b21, vI (((i5.toUInt32 >>> ((2 : Int32) &&& 31).toUInt32).toInt32) &&& (7 : Int32)), vI 1, vI 0, uS]) rfl ?_
 refine tl_lw3 l Z a0 hw i0 i1 i2 i3 i4 i5 cp cq (((i5.toUInt32 >>> ((2 : Int32) &&& 31).toUInt32).toInt32) &&& (7 : Int32)) 1 0 ar1 ar2 ar3 ar4 b1 b21 b2 vb_4 k_4 b5 vb_8 k_8 b22 vb_27 k_27 b28 vb_34 k_34 1 2 1 2 ca ca da db ua ua ya yb cs h46 (by simp +decide [oSm, c402_119, c444_120, c461_121]) (by simp +decide [oSm, c402_119, c444_120, c461_121]) m47 m51 m64 u46_1 u46_2 u46_3 m52 m56 m57 o58 m65 m69 m70 o71 m77 m78 m79 o80 m83 m84 m85 o86 (by decide) (by decide) (by decide) (by decide) q10 q10 q11 q12 q13 q13 q14 q15 n53 n67 q24 q25 (fun v123 h123 U123 => ?_) K (X46.mono (by decide) (by decide))
 obtain rfl : v123 = some (.int 1) := U123
 exact hQ _ _ rfl
 refine o_icmp_ne_t K X46 at_444 (by decide) (pc' := 468) (by decide) c444_120 ?_
 refine o_iconst K X46 at_468 rfl (z := 0) rfl ?_
 refine o_istore K X46 at_469 rfl (L' := #[vI i0, vI i1, vI i2, vI i3, vI i4, vI i5, vI 1, vI 2, vI cp, vI cq, vI 1, vI 2, vR ar1, vR ar2, vR ar3, vR ar4, vR b1, vR b21, vI (((i5.toUInt32 >>> ((2 : Int32) &&& 31).toUInt32).toInt32) &&& (7 : Int32)), vI 1, vI 0, uS]) rfl ?_
 refine tl_lw3 l Z a0 hw i0 i1 i2 i3 i4 i5 cp cq (((i5.toUInt32 >>> ((2 : Int32) &&& 31).toUInt32).toInt32) &&& (7 : Int32)) 1 0 ar1 ar2 ar3 ar4 b1 b21 b2 vb_4 k_4 b5 vb_8 k_8 b22 vb_27 k_27 b28 vb_34 k_34 1 2 1 2 ca ca da db ua ua ya yb cs h46 (by simp +decide [oSm, c402_119, c444_120]) (by simp +decide [oSm, c402_119, c444_120]) m47 m51 m64 u46_1 u46_2 u46_3 m52 m56 m57 o58 m65 m69 m70 o71 m77 m78 m79 o80 m83 m84 m85 o86 (by decide) (by decide) (by decide) (by decide) q10 q10 q11 q12 q13 q13 q14 q15 n53 n67 q24 q25 (fun v124 h124 U124 => ?_) K (X46.mono (by decide) (by decide))
 obtain rfl : v124 = some (.int 1) := U124
 exact hQ _ _ rfl
 refine o_icmp_ne_t K X46 at_402 (by decide) (pc' := 426) (by decide) c402_119 ?_
 refine o_iconst K X46 at_426 rfl (z := 0) rfl ?_
 refine o_istore K X46 at_427 rfl (L' := #[vI i0, vI i1, vI i2, vI i3, vI i4, vI i5, vI 1, vI 2, vI cp, vI cq, vI 1, vI 2, vR ar1, vR ar2, vR ar3, vR ar4, vR b1, vR b21, vI (((i5.toUInt32 >>> ((2 : Int32) &&& 31).toUInt32).toInt32) &&& (7 : Int32)), vI 0, uS, uS]) rfl ?_
 refine o_iload K X46 at_429 rfl rfl ?_
 refine o_iload K X46 at_431 rfl rfl ?_
 refine o_icmp_ne_f K X46 at_433 rfl (by decide) ?_
 refine o_aload K X46 at_436 rfl rfl rfl ?_
 refine o_iconst K X46 at_438 rfl (z := 0) rfl ?_
 refine o_caload K X46 m101 (by decide) (v := (.int da)) rfl at_439 rfl ?_
 refine o_aload K X46 at_440 rfl rfl rfl ?_
 refine o_iconst K X46 at_442 rfl (z := 0) rfl ?_
 refine o_caload K X46 m108 (by decide) (v := (.int ya)) rfl at_443 rfl ?_
 by_cases c444_125 : da = ya
 refine o_icmp_ne_f K X46 at_444 rfl c444_125 ?_
 refine o_iload K X46 at_447 rfl rfl ?_
 refine o_iconst K X46 at_449 rfl (z := 1) rfl ?_
 refine o_icmp_eq_f K X46 at_450 rfl (by decide) ?_
 refine o_aload K X46 at_453 rfl rfl rfl ?_
 refine o_iconst K X46 at_455 rfl (z := 1) rfl ?_
 refine o_caload K X46 m101 (by decide) (v := (.int db)) rfl at_456 rfl ?_
 refine o_aload K X46 at_457 rfl rfl rfl ?_
 refine o_iconst K X46 at_459 rfl (z := 1) rfl ?_
 refine o_caload K X46 m108 (by decide) (v := (.int yb)) rfl at_460 rfl ?_
 by_cases c461_126 : db = yb
 refine o_icmp_ne_f K X46 at_461 rfl c461_126 ?_
 refine o_iconst K X46 at_464 rfl (z := 1) rfl ?_
 refine o_goto K X46 at_465 (by decide) (pc' := 469) (by decide) ?_
 refine o_istore K X46 at_469 rfl (L' := #[vI i0, vI i1, vI i2, vI i3, vI i4, vI i5, vI 1, vI 2, vI cp, vI cq, vI 1, vI 2, vR ar1, vR ar2, vR ar3, vR ar4, vR b1, vR b21, vI (((i5.toUInt32 >>> ((2 : Int32) &&& 31).toUInt32).toInt32) &&& (7 : Int32)), vI 0, vI 1, uS]) rfl ?_
 refine tl_lw3 l Z a0 hw i0 i1 i2 i3 i4 i5 cp cq (((i5.toUInt32 >>> ((2 : Int32) &&& 31).toUInt32).toInt32) &&& (7 : Int32)) 0 1 ar1 ar2 ar3 ar4 b1 b21 b2 vb_4 k_4 b5 vb_8 k_8 b22 vb_27 k_27 b28 vb_34 k_34 1 2 1 2 ca ca da db ua ua ya yb cs h46 (by simp +decide [oSm, c402_119, c444_125, c461_126]) (by simp +decide [oSm, c402_119, c444_125, c461_126]) m47 m51 m64 u46_1 u46_2 u46_3 m52 m56 m57 o58 m65 m69 m70 o71 m77 m78 m79 o80 m83 m84 m85 o86 (by decide) (by decide) (by decide) (by decide) q10 q10 q11 q12 q13 q13 q14 q15 n53 n67 q24 q25 (fun v127 h127 U127 => ?_) K (X46.mono (by decide) (by decide))
 obtain rfl : v127 = some (.int 1) := U127
 exact hQ _ _ rfl
 refine o_icmp_ne_t K X46 at_461 (by decide) (pc' := 468) (by decide) c461_126 ?_
 refine o_iconst K X46 at_468 rfl (z := 0) rfl ?_
 refine o_istore K X46 at_469 rfl (L' := #[vI i0, vI i1, vI i2, vI i3, vI i4, vI i5, vI 1, vI 2, vI cp, vI cq, vI 1, vI 2, vR ar1, vR ar2, vR ar3, vR ar4, vR b1, vR b21, vI (((i5.toUInt32 >>> ((2 : Int32) &&& 31).toUInt32).toInt32) &&& (7 : Int32)), vI 0, vI 0, uS]) rfl ?_
 refine tl_lw3 l Z a0 hw i0 i1 i2 i3 i4 i5 cp cq (((i5.toUInt32 >>> ((2 : Int32) &&& 31).toUInt32).toInt32) &&& (7 : Int32)) 0 0 ar1 ar2 ar3 ar4 b1 b21 b2 vb_4 k_4 b5 vb_8 k_8 b22 vb_27 k_27 b28 vb_34 k_34 1 2 1 2 ca ca da db ua ua ya yb cs h46 (by simp +decide [oSm, c402_119, c444_125, c461_126]) (by simp +decide [oSm, c402_119, c444_125, c461_126]) m47 m51 m64 u46_1 u46_2 u46_3 m52 m56 m57 o58 m65 m69 m70 o71 m77 m78 m79 o80 m83 m84 m85 o86 (by decide) (by decide) (by decide) (by decide) q10 q10 q11 q12 q13 q13 q14 q15 n53 n67 q24 q25 (fun v128 h128 U128 => ?_) K (X46.mono (by decide) (by decide))
 obtain rfl : v128 = some (.int 1) := U128
 exact hQ _ _ rfl
 refine o_icmp_ne_t K X46 at_444 (by decide) (pc' := 468) (by decide) c444_125 ?_
 refine o_iconst K X46 at_468 rfl (z := 0) rfl ?_
 refine o_istore K X46 at_469 rfl (L' := #[vI i0, vI i1, vI i2, vI i3, vI i4, vI i5, vI 1, vI 2, vI cp, vI cq, vI 1, vI 2, vR ar1, vR ar2, vR ar3, vR ar4, vR b1, vR b21, vI (((i5.toUInt32 >>> ((2 : Int32) &&& 31).toUInt32).toInt32) &&& (7 : Int32)), vI 0, vI 0, uS]) rfl ?_
 refine tl_lw3 l Z a0 hw i0 i1 i2 i3 i4 i5 cp cq (((i5.toUInt32 >>> ((2 : Int32) &&& 31).toUInt32).toInt32) &&& (7 : Int32)) 0 0 ar1 ar2 ar3 ar4 b1 b21 b2 vb_4 k_4 b5 vb_8 k_8 b22 vb_27 k_27 b28 vb_34 k_34 1 2 1 2 ca ca da db ua ua ya yb cs h46 (by simp +decide [oSm, c402_119, c444_125]) (by simp +decide [oSm, c402_119, c444_125]) m47 m51 m64 u46_1 u46_2 u46_3 m52 m56 m57 o58 m65 m69 m70 o71 m77 m78 m79 o80 m83 m84 m85 o86 (by decide) (by decide) (by decide) (by decide) q10 q10 q11 q12 q13 q13 q14 q15 n53 n67 q24 q25 (fun v129 h129 U129 => ?_) K (X46.mono (by decide) (by decide))
 obtain rfl : v129 = some (.int 1) := U129
 exact hQ _ _ rfl
def Q_t258_1221 (Z : State) (i0 i1 i2 i3 i4 i5 cp cq : Int32) (ar1 : Addr) (kar1 : ClassId) (ar2 : Addr) (kar2 : ClassId) (ar3 : Addr) (kar3 : ClassId) (ar4 : Addr) (kar4 : ClassId) (ca da db ua ub ya : Int32) (fm : Value) (cs : Int32) (h0 : Heap) (v : Option Value) (h : Heap) : Prop := v = some (.int 1)
theorem tl_t258_1221 (l : Launch) (Z : State) (a0 : Array Value) (hw : oHw Z a0) (i0 i1 i2 i3 i4 i5 cp cq : Int32) (ar1 : Addr) (kar1 : ClassId) (ar2 : Addr) (kar2 : ClassId) (ar3 : Addr) (kar3 : ClassId) (ar4 : Addr) (kar4 : ClassId) (ca da db ua ub ya : Int32) (fm : Value) (cs : Int32) (h0 : Heap) (q0 : oArr Z h0 ar1 kar1 .char [.int ca]) (q1 : oArr Z h0 ar2 kar2 .char [.int da, .int db]) (q2 : oArr Z h0 ar3 kar3 .char [.int ua, .int ub]) (q3 : oArr Z h0 ar4 kar4 .char [.int ya]) (q4 : oSh ca) (q5 : oId da) (q6 : oId db) (q7 : oSh ua) (q8 : oSh ub) (q9 : oId ya) (q10 : oCh ca) (q11 : oCh da) (q12 : oCh db) (q13 : oCh ua) (q14 : oCh ub) (q15 : oCh ya) (q16 : nar .char ca = ca) (q17 : nar .char da = da) (q18 : nar .char db = db) (q19 : nar .char ua = ua) (q20 : nar .char ub = ub) (q21 : nar .char ya = ya) (q22 : Sta Z Z.heap z3 z5 z6 fm) (q23 : fm.isRef = true) (q24 : Sta Z Z.heap z0 z4 "Z" (.int cs)) (q25 : ¬ (cs = (0 : Int32))) {Q : Option Value → Heap → Prop} (hQ : ∀ v h, Q_t258_1221 Z i0 i1 i2 i3 i4 i5 cp cq ar1 kar1 ar2 kar2 ar3 kar3 ar4 kar4 ca da db ua ub ya fm cs h0 v h → Q v h) {pp : Program} {ee : Env} {ss : State} {mm : MethodId} {bb : List Frame} {mtd : Method} {cc : Code} {A : Array Value} {T0 : State} (K : oCtx pp ss mm mtd cc Z z7 code maxLocals "law" ret x) (X0 : oSt pp l ee room_1 ss mm A bb mtd cc Z T0 h0 4 8) : oGoes pp ee bb ss Z T0 (mkF mm 258 #[vI i0, vI i1, vI i2, vI i3, vI i4, vI i5, vI 1, vI 2, vI cp, vI cq, vI 2, vI 1, vR ar1, vR ar2, vR ar3, vR ar4, uS, uS, uS, uS, uS, uS] []) Q room_1.cells room_1.slots := by
 have E0 := X0.ext0
 refine o_new K X0 (w9 hw) (w10 hw) (w11 hw) at_258 rfl (by decide) (by decide) ?_
 intro T1 h1 b1 X1 g1 E1 A1 D1 G1
 have F1_shelf : Fld Z h1 b1 z1 "shelf" z2 .null := (D1 (Or.inr (w109 hw)) (ty := (.object z0)) (by decide))
 have F1_id : Fld Z h1 b1 z1 "id" z2 .null := (D1 (Or.inr (w111 hw)) (ty := (.object z0)) (by decide))
 refine o_dup K X1 at_261 rfl rfl ?_
 refine o_new K X1 (w12 hw) (w13 hw) (w14 hw) at_262 rfl (by decide) (by decide) ?_
 intro T2 h2 b2 X2 g2 E2 A2 D2 G2
 have F2_coder : Fld Z h2 b2 z0 "coder" "B" (.int 0) := (D2 (Or.inr (w38 hw)) (ty := .byte) (by decide))
 have F2_value : Fld Z h2 b2 z0 "value" "[B" .null := (D2 (Or.inr (w40 hw)) (ty := (.array .byte)) (by decide))
 refine o_dup K X2 at_265 rfl rfl ?_
 refine o_aload K X2 at_266 rfl rfl rfl ?_
 have m3 := ((q0.ext E1).ext E2)
 refine o_special K X2 (y := (⟨z0, "<init>", "([C)V"⟩ : MethodName)) rfl (w15 hw) (w16 hw) (w14 hw) (w17 hw) (by decide) (rm_str_1 l Z a0 hw b2 ar1 kar1 cs ca h2 A2 F2_value F2_coder G2 m3 q24 q25 q10.2) (by decide) rfl (argsL := [.ref ar1]) rfl (lenOf pd17 rfl) (W := 3) rfl (by decide) (by decide) (by decide) at_268 rfl ?_
 intro v4 T4 h4 X4 U4
 obtain ⟨vb_4, k_4, rfl, u4_0, u4_1, u4_2, u4_3, u4_4, u4_5⟩ := U4
 have G4_vb : Z.heap.size ≤ vb_4 := Nat.le_trans X2.ext0.1 u4_4
 show oGoes pp ee bb ss Z T4 (mkF mm 271 _ [.ref b2, .ref b1, .ref b1]) _ _ _
 refine o_new K X4 (w12 hw) (w13 hw) (w14 hw) at_271 rfl (by decide) (by decide) ?_
 intro T5 h5 b5 X5 g5 E5 A5 D5 G5
 have F5_coder : Fld Z h5 b5 z0 "coder" "B" (.int 0) := (D5 (Or.inr (w38 hw)) (ty := .byte) (by decide))
 have F5_value : Fld Z h5 b5 z0 "value" "[B" .null := (D5 (Or.inr (w40 hw)) (ty := (.array .byte)) (by decide))
 refine o_dup K X5 at_274 rfl rfl ?_
 refine o_aload K X5 at_275 rfl rfl rfl ?_
 have n6 := oLn q1.lt E1.1 (oLe g2)
 have m7 := ((((q1.ext E1).ext E2).keep u4_0 (ninS n6 nin0)).ext E5)
 refine o_special K X5 (y := (⟨z0, "<init>", "([C)V"⟩ : MethodName)) rfl (w15 hw) (w16 hw) (w14 hw) (w17 hw) (by decide) (rm_str_2 l Z a0 hw b5 ar2 kar2 cs da db h5 A5 F5_value F5_coder G5 m7 q24 q25 q11.2 q12.2) (by decide) rfl (argsL := [.ref ar2]) rfl (lenOf pd17 rfl) (W := 4) rfl (by decide) (by decide) (by decide) at_277 rfl ?_
 intro v8 T8 h8 X8 U8
 obtain ⟨vb_8, k_8, rfl, u8_0, u8_1, u8_2, u8_3, u8_4, u8_5⟩ := U8
 have G8_vb : Z.heap.size ≤ vb_8 := Nat.le_trans X5.ext0.1 u8_4
 show oGoes pp ee bb ss Z T8 (mkF mm 280 _ [.ref b5, .ref b2, .ref b1, .ref b1]) _ _ _
 have m9 := ((((A1.ext E2).keep u4_0).ext E5).keep u8_0)
 have n10 := oLz A1.lt (oLe g2)
 have n11 := oLn A1.lt (Nat.le_trans E2.1 u4_0.1) (oLe g5)
 have m12 := ((((F1_shelf.ext E2).keep u4_0 (ninS n10 nin0)).ext E5).keep u8_0 (ninS n11 nin0))
 have m13 := ((((F1_id.ext E2).keep u4_0 (ninS n10 nin0)).ext E5).keep u8_0 (ninS n11 nin0))
 have m14 := ((u4_1.ext E5).keep u8_0)
 have n15 := oLn A2.lt u4_0.1 (oLe g5)
 have m16 := ((u4_2.ext E5).keep u8_0 (ninS n15 nin0))
 have m17 := ((u4_3.ext E5).keep u8_0 (ninS n15 nin0))
 have n18 := oLz u4_5.lt (oLe g5)
 have m19 := ((u4_5.ext E5).keep u8_0 (ninS n18 nin0))
 refine o_special K X8 (y := (⟨z1, "<init>", z8⟩ : MethodName)) rfl (w41 hw) (w42 hw) (w11 hw) (w43 hw) (by decide) (rm_rk12 l Z a0 hw b1 b2 vb_4 k_4 b5 vb_8 k_8 ca da db fm cs h8 m9 G1 m12 m13 m14 m16 m17 m19 u8_1 u8_2 u8_3 u8_5 q4 q5 q6 q10 q11 q12 q22 q23 q24 q25) (by decide) rfl (argsL := [.ref b2, .ref b5]) rfl (lenOf pd18 rfl) (W := 1) rfl (by decide) (by decide) (by decide) at_280 rfl ?_
 intro v20 T20 h20 X20 U20
 obtain ⟨rfl, u20_0, u20_1, u20_2, u20_3⟩ := U20
 show oGoes pp ee bb ss Z T20 (mkF mm 283 _ [.ref b1]) _ _ _
 refine o_astore K X20 at_283 rfl rfl (L' := #[vI i0, vI i1, vI i2, vI i3, vI i4, vI i5, vI 1, vI 2, vI cp, vI cq, vI 2, vI 1, vR ar1, vR ar2, vR ar3, vR ar4, vR b1, uS, uS, uS, uS, uS]) rfl ?_
 refine o_new K X20 (w9 hw) (w10 hw) (w11 hw) at_285 rfl (by decide) (by decide) ?_
 intro T21 h21 b21 X21 g21 E21 A21 D21 G21
 have F21_shelf : Fld Z h21 b21 z1 "shelf" z2 .null := (D21 (Or.inr (w109 hw)) (ty := (.object z0)) (by decide))
 have F21_id : Fld Z h21 b21 z1 "id" z2 .null := (D21 (Or.inr (w111 hw)) (ty := (.object z0)) (by decide))
 refine o_dup K X21 at_288 rfl rfl ?_
 refine o_new K X21 (w12 hw) (w13 hw) (w14 hw) at_289 rfl (by decide) (by decide) ?_
 intro T22 h22 b22 X22 g22 E22 A22 D22 G22
 have F22_coder : Fld Z h22 b22 z0 "coder" "B" (.int 0) := (D22 (Or.inr (w38 hw)) (ty := .byte) (by decide))
 have F22_value : Fld Z h22 b22 z0 "value" "[B" .null := (D22 (Or.inr (w40 hw)) (ty := (.array .byte)) (by decide))
 refine o_dup K X22 at_292 rfl rfl ?_
 refine o_aload K X22 at_293 rfl rfl rfl ?_
 have n23 := oLn q2.lt E1.1 (oLe g2)
 have y0_3 := Nat.le_trans (Nat.le_trans E1.1 E2.1) u4_0.1
 have n24 := oLn q2.lt y0_3 (oLe g5)
 have n25 := oLz q2.lt (oLe g1)
 have m26 := ((((((((q2.ext E1).ext E2).keep u4_0 (ninS n23 nin0)).ext E5).keep u8_0 (ninS n24 nin0)).keep u20_0 (ninS n25 nin0)).ext E21).ext E22)
 refine o_special K X22 (y := (⟨z0, "<init>", "([C)V"⟩ : MethodName)) rfl (w15 hw) (w16 hw) (w14 hw) (w17 hw) (by decide) (rm_str_2 l Z a0 hw b22 ar3 kar3 cs ua ub h22 A22 F22_value F22_coder G22 m26 q24 q25 q13.2 q14.2) (by decide) rfl (argsL := [.ref ar3]) rfl (lenOf pd17 rfl) (W := 3) rfl (by decide) (by decide) (by decide) at_295 rfl ?_
 intro v27 T27 h27 X27 U27
 obtain ⟨vb_27, k_27, rfl, u27_0, u27_1, u27_2, u27_3, u27_4, u27_5⟩ := U27
 have G27_vb : Z.heap.size ≤ vb_27 := Nat.le_trans X22.ext0.1 u27_4
 show oGoes pp ee bb ss Z T27 (mkF mm 298 _ [.ref b22, .ref b21, .ref b21]) _ _ _
 refine o_new K X27 (w12 hw) (w13 hw) (w14 hw) at_298 rfl (by decide) (by decide) ?_
 intro T28 h28 b28 X28 g28 E28 A28 D28 G28
 have F28_coder : Fld Z h28 b28 z0 "coder" "B" (.int 0) := (D28 (Or.inr (w38 hw)) (ty := .byte) (by decide))
 have F28_value : Fld Z h28 b28 z0 "value" "[B" .null := (D28 (Or.inr (w40 hw)) (ty := (.array .byte)) (by decide))
 refine o_dup K X28 at_301 rfl rfl ?_
 refine o_aload K X28 at_302 rfl rfl rfl ?_
 have n29 := oLn q3.lt E1.1 (oLe g2)
 have n30 := oLn q3.lt y0_3 (oLe g5)
 have n31 := oLz q3.lt (oLe g1)
 have y0_7 := Nat.le_trans (Nat.le_trans (Nat.le_trans (Nat.le_trans y0_3 E5.1) u8_0.1) u20_0.1) E21.1
 have n32 := oLn q3.lt y0_7 (oLe g22)
 have m33 := ((((((((((q3.ext E1).ext E2).keep u4_0 (ninS n29 nin0)).ext E5).keep u8_0 (ninS n30 nin0)).keep u20_0 (ninS n31 nin0)).ext E21).ext E22).keep u27_0 (ninS n32 nin0)).ext E28)
 refine o_special K X28 (y := (⟨z0, "<init>", "([C)V"⟩ : MethodName)) rfl (w15 hw) (w16 hw) (w14 hw) (w17 hw) (by decide) (rm_str_1 l Z a0 hw b28 ar4 kar4 cs ya h28 A28 F28_value F28_coder G28 m33 q24 q25 q15.2) (by decide) rfl (argsL := [.ref ar4]) rfl (lenOf pd17 rfl) (W := 4) rfl (by decide) (by decide) (by decide) at_304 rfl ?_
 intro v34 T34 h34 X34 U34
 obtain ⟨vb_34, k_34, rfl, u34_0, u34_1, u34_2, u34_3, u34_4, u34_5⟩ := U34
 have G34_vb : Z.heap.size ≤ vb_34 := Nat.le_trans X28.ext0.1 u34_4
 show oGoes pp ee bb ss Z T34 (mkF mm 307 _ [.ref b28, .ref b22, .ref b21, .ref b21]) _ _ _
 have m35 := ((((A21.ext E22).keep u27_0).ext E28).keep u34_0)
 have n36 := oLz A21.lt (oLe g22)
 have n37 := oLn A21.lt (Nat.le_trans E22.1 u27_0.1) (oLe g28)
 have m38 := ((((F21_shelf.ext E22).keep u27_0 (ninS n36 nin0)).ext E28).keep u34_0 (ninS n37 nin0))
 have m39 := ((((F21_id.ext E22).keep u27_0 (ninS n36 nin0)).ext E28).keep u34_0 (ninS n37 nin0))
 have m40 := ((u27_1.ext E28).keep u34_0)
 have n41 := oLn A22.lt u27_0.1 (oLe g28)
 have m42 := ((u27_2.ext E28).keep u34_0 (ninS n41 nin0))
 have m43 := ((u27_3.ext E28).keep u34_0 (ninS n41 nin0))
 have n44 := oLz u27_5.lt (oLe g28)
 have m45 := ((u27_5.ext E28).keep u34_0 (ninS n44 nin0))
 refine o_special K X34 (y := (⟨z1, "<init>", z8⟩ : MethodName)) rfl (w41 hw) (w42 hw) (w11 hw) (w43 hw) (by decide) (rm_rk21 l Z a0 hw b21 b22 vb_27 k_27 b28 vb_34 k_34 ua ub ya fm cs h34 m35 G21 m38 m39 m40 m42 m43 m45 u34_1 u34_2 u34_3 u34_5 q7 q8 q9 q13 q14 q15 q22 q23 q24 q25) (by decide) rfl (argsL := [.ref b22, .ref b28]) rfl (lenOf pd18 rfl) (W := 1) rfl (by decide) (by decide) (by decide) at_307 rfl ?_
 intro v46 T46 h46 X46 U46
 obtain ⟨rfl, u46_0, u46_1, u46_2, u46_3⟩ := U46
 show oGoes pp ee bb ss Z T46 (mkF mm 310 _ [.ref b21]) _ _ _
 refine o_astore K X46 at_310 rfl rfl (L' := #[vI i0, vI i1, vI i2, vI i3, vI i4, vI i5, vI 1, vI 2, vI cp, vI cq, vI 2, vI 1, vR ar1, vR ar2, vR ar3, vR ar4, vR b1, vR b21, uS, uS, uS, uS]) rfl ?_
 have m47 := ((((((u20_1.ext E21).ext E22).keep u27_0).ext E28).keep u34_0).keep u46_0)
 have y1_7 := Nat.le_trans (Nat.le_trans (Nat.le_trans (Nat.le_trans (Nat.le_trans E2.1 u4_0.1) E5.1) u8_0.1) u20_0.1) E21.1
 have n48 := oLn A1.lt y1_7 (oLe g22)
 have y1_9 := Nat.le_trans (Nat.le_trans y1_7 E22.1) u27_0.1
 have n49 := oLn A1.lt y1_9 (oLe g28)
 have y1_6 := Nat.le_trans (Nat.le_trans (Nat.le_trans (Nat.le_trans E2.1 u4_0.1) E5.1) u8_0.1) u20_0.1
 have n50 := oLn A1.lt y1_6 (oLe g21)
 have m51 := ((((((u20_2.ext E21).ext E22).keep u27_0 (ninS n48 nin0)).ext E28).keep u34_0 (ninS n49 nin0)).keep u46_0 (ninS n50 nin0))
 have m52 := (((((((m14.keep u20_0).ext E21).ext E22).keep u27_0).ext E28).keep u34_0).keep u46_0)
 have y2_7 := Nat.le_trans (Nat.le_trans (Nat.le_trans (Nat.le_trans u4_0.1 E5.1) u8_0.1) u20_0.1) E21.1
 have n53 := oLn A2.lt y2_7 (oLe g22)
 have y2_9 := Nat.le_trans (Nat.le_trans y2_7 E22.1) u27_0.1
 have n54 := oLn A2.lt y2_9 (oLe g28)
 have y2_6 := Nat.le_trans (Nat.le_trans (Nat.le_trans u4_0.1 E5.1) u8_0.1) u20_0.1
 have n55 := oLn A2.lt y2_6 (oLe g21)
 have m56 := (((((((m16.keep u20_0 (ninS (Ne.symm n10) nin0)).ext E21).ext E22).keep u27_0 (ninS n53 nin0)).ext E28).keep u34_0 (ninS n54 nin0)).keep u46_0 (ninS n55 nin0))
 have m57 := (((((((m17.keep u20_0 (ninS (Ne.symm n10) nin0)).ext E21).ext E22).keep u27_0 (ninS n53 nin0)).ext E28).keep u34_0 (ninS n54 nin0)).keep u46_0 (ninS n55 nin0))
 have n59 := oLsn A1.lt E2.1 u4_4
 have y3_7 := Nat.le_trans (Nat.le_trans (Nat.le_trans E5.1 u8_0.1) u20_0.1) E21.1
 have n60 := oLn u4_5.lt y3_7 (oLe g22)
 have y3_9 := Nat.le_trans (Nat.le_trans y3_7 E22.1) u27_0.1
 have n61 := oLn u4_5.lt y3_9 (oLe g28)
 have y3_6 := Nat.le_trans (Nat.le_trans E5.1 u8_0.1) u20_0.1
 have n62 := oLn u4_5.lt y3_6 (oLe g21)
 have m63 := (((((((m19.keep u20_0 (ninS n59 nin0)).ext E21).ext E22).keep u27_0 (ninS n60 nin0)).ext E28).keep u34_0 (ninS n61 nin0)).keep u46_0 (ninS n62 nin0))
 have o58 := oByC (oBy1 ca ca) m63
 have m64 := ((((((u20_3.ext E21).ext E22).keep u27_0 (ninS n48 nin0)).ext E28).keep u34_0 (ninS n49 nin0)).keep u46_0 (ninS n50 nin0))
 have m65 := (((((((u8_1.keep u20_0).ext E21).ext E22).keep u27_0).ext E28).keep u34_0).keep u46_0)
 have y4_7 := Nat.le_trans (Nat.le_trans u8_0.1 u20_0.1) E21.1
 have n66 := oLn A5.lt y4_7 (oLe g22)
 have y4_9 := Nat.le_trans (Nat.le_trans y4_7 E22.1) u27_0.1
 have n67 := oLn A5.lt y4_9 (oLe g28)
 have n68 := oLn A5.lt (Nat.le_trans u8_0.1 u20_0.1) (oLe g21)
 have m69 := (((((((u8_2.keep u20_0 (ninS (Ne.symm n11) nin0)).ext E21).ext E22).keep u27_0 (ninS n66 nin0)).ext E28).keep u34_0 (ninS n67 nin0)).keep u46_0 (ninS n68 nin0))
 have m70 := (((((((u8_3.keep u20_0 (ninS (Ne.symm n11) nin0)).ext E21).ext E22).keep u27_0 (ninS n66 nin0)).ext E28).keep u34_0 (ninS n67 nin0)).keep u46_0 (ninS n68 nin0))
 have y1_4 := Nat.le_trans (Nat.le_trans E2.1 u4_0.1) E5.1
 have n72 := oLsn A1.lt y1_4 u8_4
 have n73 := oLn u8_5.lt (Nat.le_trans u20_0.1 E21.1) (oLe g22)
 have y5_9 := Nat.le_trans (Nat.le_trans (Nat.le_trans u20_0.1 E21.1) E22.1) u27_0.1
 have n74 := oLn u8_5.lt y5_9 (oLe g28)
 have n75 := oLn u8_5.lt u20_0.1 (oLe g21)
 have m76 := (((((((u8_5.keep u20_0 (ninS n72 nin0)).ext E21).ext E22).keep u27_0 (ninS n73 nin0)).ext E28).keep u34_0 (ninS n74 nin0)).keep u46_0 (ninS n75 nin0))
 have o71 := oByC (oBy2 da db) m76
 have m77 := (m40.keep u46_0)
 have m78 := (m42.keep u46_0 (ninS (Ne.symm n36) nin0))
 have m79 := (m43.keep u46_0 (ninS (Ne.symm n36) nin0))
 have n81 := oLsn A21.lt E22.1 u27_4
 have m82 := (m45.keep u46_0 (ninS n81 nin0))
 have o80 := oByC (oBy2 ua ub) m82
 have m83 := (u34_1.keep u46_0)
 have m84 := (u34_2.keep u46_0 (ninS (Ne.symm n37) nin0))
 have m85 := (u34_3.keep u46_0 (ninS (Ne.symm n37) nin0))
 have y7_10 := Nat.le_trans (Nat.le_trans E22.1 u27_0.1) E28.1
 have n87 := oLsn A21.lt y7_10 u34_4
 have m88 := (u34_5.keep u46_0 (ninS n87 nin0))
 have o86 := oByC (oBy1 ya ya) m88
 have n89 := oLn q0.lt E1.1 (oLe g2)
 have n90 := oLn q0.lt y0_3 (oLe g5)
 have n91 := oLz q0.lt (oLe g1)
 have n92 := oLn q0.lt y0_7 (oLe g22)
 have y0_9 := Nat.le_trans (Nat.le_trans y0_7 E22.1) u27_0.1
 have n93 := oLn q0.lt y0_9 (oLe g28)
 have y0_6 := Nat.le_trans (Nat.le_trans (Nat.le_trans y0_3 E5.1) u8_0.1) u20_0.1
 have n94 := oLn q0.lt y0_6 (oLe g21)
 have m95 := ((((((((((m3.keep u4_0 (ninS n89 nin0)).ext E5).keep u8_0 (ninS n90 nin0)).keep u20_0 (ninS n91 nin0)).ext E21).ext E22).keep u27_0 (ninS n92 nin0)).ext E28).keep u34_0 (ninS n93 nin0)).keep u46_0 (ninS n94 nin0))
 have n96 := oLn q1.lt y0_3 (oLe g5)
 have n97 := oLz q1.lt (oLe g1)
 have n98 := oLn q1.lt y0_7 (oLe g22)
 have n99 := oLn q1.lt y0_9 (oLe g28)
 have n100 := oLn q1.lt y0_6 (oLe g21)
 have m101 := ((((((((m7.keep u8_0 (ninS n96 nin0)).keep u20_0 (ninS n97 nin0)).ext E21).ext E22).keep u27_0 (ninS n98 nin0)).ext E28).keep u34_0 (ninS n99 nin0)).keep u46_0 (ninS n100 nin0))
 have n102 := oLn q2.lt y0_7 (oLe g22)
 have n103 := oLn q2.lt y0_9 (oLe g28)
 have n104 := oLn q2.lt y0_6 (oLe g21)
 have m105 := ((((m26.keep u27_0 (ninS n102 nin0)).ext E28).keep u34_0 (ninS n103 nin0)).keep u46_0 (ninS n104 nin0))
 have n106 := oLn q3.lt y0_9 (oLe g28)
 have n107 := oLn q3.lt y0_6 (oLe g21)
 have m108 := ((m33.keep u34_0 (ninS n106 nin0)).keep u46_0 (ninS n107 nin0))
 refine o_iload K X46 at_312 rfl rfl ?_
 refine o_iconst K X46 at_314 rfl (z := 2) rfl ?_
 refine o_iushr K X46 at_315 rfl (z := ((i5.toUInt32 >>> ((2 : Int32) &&& 31).toUInt32).toInt32)) rfl ?_
 refine o_bipush K X46 at_316 rfl (z := 7) rfl ?_
 refine o_iand K X46 at_318 rfl (z := (((i5.toUInt32 >>> ((2 : Int32) &&& 31).toUInt32).toInt32) &&& (7 : Int32))) rfl ?_
 refine o_istore K X46 at_319 rfl (L' := #[vI i0, vI i1, vI i2, vI i3, vI i4, vI i5, vI 1, vI 2, vI cp, vI cq, vI 2, vI 1, vR ar1, vR ar2, vR ar3, vR ar4, vR b1, vR b21, vI (((i5.toUInt32 >>> ((2 : Int32) &&& 31).toUInt32).toInt32) &&& (7 : Int32)), uS, uS, uS]) rfl ?_
 refine o_iload K X46 at_321 rfl rfl ?_
 refine o_iconst K X46 at_323 rfl (z := 5) rfl ?_
 by_cases c324_109 : (((i5.toUInt32 >>> ((2 : Int32) &&& 31).toUInt32).toInt32) &&& (7 : Int32)) = (5 : Int32)
 refine o_icmp_ne_f K X46 at_324 rfl c324_109 ?_
 refine o_aload K X46 at_327 rfl rfl rfl ?_
 refine o_aconst_null K X46 at_329 rfl ?_
 refine o_virtual K X46   (w112 hw) (w113 hw) (oNF (w115 hw)) (w115 hw) (w114 hw) (w11 hw) (w116 hw) (by decide) m47 (rm_eqnull l Z a0 hw b1 h46) (by decide) rfl (argsL := [.null]) rfl (lenOf pd16 rfl) (W := 0) rfl (by decide) (by decide) (by decide) at_330 rfl ?_
 intro v110 T110 h110 X110 U110
 obtain ⟨rfl, rfl⟩ := U110
 show oGoes pp ee bb ss Z T110 (mkF mm 333 _ [.int 0]) _ _ _
 refine o_if_ne_f K X110 at_333 rfl (by decide) ?_
 refine o_iconst K X110 at_336 rfl (z := 1) rfl ?_
 refine o_goto K X110 at_337 (by decide) (pc' := 341) (by decide) ?_
 refine o_ireturnN K X110 .boolean at_341 rfl (by simp) (z' := 1) (by decide) ?_ (by decide) (by decide)
 exact hQ _ _ rfl
 refine o_icmp_ne_t K X46 at_324 (by decide) (pc' := 342) (by decide) c324_109 ?_
 refine o_iload K X46 at_342 rfl rfl ?_
 refine o_bipush K X46 at_344 rfl (z := 6) rfl ?_
 by_cases c346_111 : (((i5.toUInt32 >>> ((2 : Int32) &&& 31).toUInt32).toInt32) &&& (7 : Int32)) = (6 : Int32)
 refine o_icmp_ne_f K X46 at_346 rfl c346_111 ?_
 refine o_aload K X46 at_349 rfl rfl rfl ?_
 refine o_new K X46 (w12 hw) (w13 hw) (w14 hw) at_351 rfl (by decide) (by decide) ?_
 intro T112 h112 b112 X112 g112 E112 A112 D112 G112
 have F112_coder : Fld Z h112 b112 z0 "coder" "B" (.int 0) := (D112 (Or.inr (w38 hw)) (ty := .byte) (by decide))
 have F112_value : Fld Z h112 b112 z0 "value" "[B" .null := (D112 (Or.inr (w40 hw)) (ty := (.array .byte)) (by decide))
 refine o_dup K X112 at_354 rfl rfl ?_
 refine o_aload K X112 at_355 rfl rfl rfl ?_
 have m113 := (m95.ext E112)
 refine o_special K X112 (y := (⟨z0, "<init>", "([C)V"⟩ : MethodName)) rfl (w15 hw) (w16 hw) (w14 hw) (w17 hw) (by decide) (rm_str_1 l Z a0 hw b112 ar1 kar1 cs ca h112 A112 F112_value F112_coder G112 m113 q24 q25 q10.2) (by decide) rfl (argsL := [.ref ar1]) rfl (lenOf pd17 rfl) (W := 2) rfl (by decide) (by decide) (by decide) at_357 rfl ?_
 intro v114 T114 h114 X114 U114
 obtain ⟨vb_114, k_114, rfl, u114_0, u114_1, u114_2, u114_3, u114_4, u114_5⟩ := U114
 have G114_vb : Z.heap.size ≤ vb_114 := Nat.le_trans X112.ext0.1 u114_4
 show oGoes pp ee bb ss Z T114 (mkF mm 360 _ [.ref b112, .ref b1]) _ _ _
 have m115 := ((m47.ext E112).keep u114_0)
 refine o_virtual K X114   (w112 hw) (w113 hw) (oNF (w115 hw)) (w115 hw) (w114 hw) (w11 hw) (w116 hw) (by decide) m115 (rm_eqstr l Z a0 hw b1 b112 h114 u114_1) (by decide) rfl (argsL := [.ref b112]) rfl (lenOf pd16 rfl) (W := 0) rfl (by decide) (by decide) (by decide) at_360 rfl ?_
 intro v116 T116 h116 X116 U116
 obtain ⟨rfl, rfl⟩ := U116
 show oGoes pp ee bb ss Z T116 (mkF mm 363 _ [.int 0]) _ _ _
 refine o_if_ne_f K X116 at_363 rfl (by decide) ?_
 refine o_iconst K X116 at_366 rfl (z := 1) rfl ?_
 refine o_goto K X116 at_367 (by decide) (pc' := 371) (by decide) ?_
 refine o_ireturnN K X116 .boolean at_371 rfl (by simp) (z' := 1) (by decide) ?_ (by decide) (by decide)
 exact hQ _ _ rfl
 refine o_icmp_ne_t K X46 at_346 (by decide) (pc' := 372) (by decide) c346_111 ?_
 refine o_iload K X46 at_372 rfl rfl ?_
 refine o_bipush K X46 at_374 rfl (z := 7) rfl ?_
 by_cases c376_117 : (((i5.toUInt32 >>> ((2 : Int32) &&& 31).toUInt32).toInt32) &&& (7 : Int32)) = (7 : Int32)
 refine o_icmp_ne_f K X46 at_376 rfl c376_117 ?_
 refine o_aload K X46 at_379 rfl rfl rfl ?_
 refine o_aload K X46 at_381 rfl rfl rfl ?_
 refine o_virtual K X46   (w112 hw) (w113 hw) (oNF (w115 hw)) (w115 hw) (w114 hw) (w11 hw) (w116 hw) (by decide) m47 (rm_eqself l Z a0 hw b1 b2 b5 h46 m47 m51 m64 m52 m65) (by decide) rfl (argsL := [.ref b1]) rfl (lenOf pd16 rfl) (W := 0) rfl (by decide) (by decide) (by decide) at_383 rfl ?_
 intro v118 T118 h118 X118 U118
 obtain ⟨rfl, rfl⟩ := U118
 show oGoes pp ee bb ss Z T118 (mkF mm 386 _ [.int 1]) _ _ _
 refine o_ireturnN K X118 .boolean at_386 rfl (by simp) (z' := 1) (by decide) ?_ (by decide) (by decide)
 exact hQ _ _ rfl
 refine o_icmp_ne_t K X46 at_376 (by decide) (pc' := 387) (by decide) c376_117 ?_
 refine o_iload K X46 at_387 rfl rfl ?_
 refine o_iload K X46 at_389 rfl rfl ?_
 refine o_icmp_ne_t K X46 at_391 (by decide) (pc' := 426) (by decide) (by decide) ?_
 refine o_iconst K X46 at_426 rfl (z := 0) rfl ?_
 refine o_istore K X46 at_427 rfl (L' := #[vI i0, vI i1, vI i2, vI i3, vI i4, vI i5, vI 1, vI 2, vI cp, vI cq, vI 2, vI 1, vR ar1, vR ar2, vR ar3, vR ar4, vR b1, vR b21, vI (((i5.toUInt32 >>> ((2 : Int32) &&& 31).toUInt32).toInt32) &&& (7 : Int32)), vI 0, uS, uS]) rfl ?_
 refine o_iload K X46 at_429 rfl rfl ?_
 refine o_iload K X46 at_431 rfl rfl ?_
 refine o_icmp_ne_t K X46 at_433 (by decide) (pc' := 468) (by decide) (by decide) ?_
 refine o_iconst K X46 at_468 rfl (z := 0) rfl ?_
 refine o_istore K X46 at_469 rfl (L' := #[vI i0, vI i1, vI i2, vI i3, vI i4, vI i5, vI 1, vI 2, vI cp, vI cq, vI 2, vI 1, vR ar1, vR ar2, vR ar3, vR ar4, vR b1, vR b21, vI (((i5.toUInt32 >>> ((2 : Int32) &&& 31).toUInt32).toInt32) &&& (7 : Int32)), vI 0, vI 0, uS]) rfl ?_
 refine tl_lw3 l Z a0 hw i0 i1 i2 i3 i4 i5 cp cq (((i5.toUInt32 >>> ((2 : Int32) &&& 31).toUInt32).toInt32) &&& (7 : Int32)) 0 0 ar1 ar2 ar3 ar4 b1 b21 b2 vb_4 k_4 b5 vb_8 k_8 b22 vb_27 k_27 b28 vb_34 k_34 1 2 2 1 ca ca da db ua ub ya ya cs h46 (by simp +decide [oSm]) (by simp +decide [oSm]) m47 m51 m64 u46_1 u46_2 u46_3 m52 m56 m57 o58 m65 m69 m70 o71 m77 m78 m79 o80 m83 m84 m85 o86 (by decide) (by decide) (by decide) (by decide) q10 q10 q11 q12 q13 q14 q15 q15 n53 n67 q24 q25 (fun v119 h119 U119 => ?_) K (X46.mono (by decide) (by decide))
 obtain rfl : v119 = some (.int 1) := U119
 exact hQ _ _ rfl
def Q_t258_1222 (Z : State) (i0 i1 i2 i3 i4 i5 cp cq : Int32) (ar1 : Addr) (kar1 : ClassId) (ar2 : Addr) (kar2 : ClassId) (ar3 : Addr) (kar3 : ClassId) (ar4 : Addr) (kar4 : ClassId) (ca da db ua ub ya yb : Int32) (fm : Value) (cs : Int32) (h0 : Heap) (v : Option Value) (h : Heap) : Prop := v = some (.int 1)
theorem tl_t258_1222 (l : Launch) (Z : State) (a0 : Array Value) (hw : oHw Z a0) (i0 i1 i2 i3 i4 i5 cp cq : Int32) (ar1 : Addr) (kar1 : ClassId) (ar2 : Addr) (kar2 : ClassId) (ar3 : Addr) (kar3 : ClassId) (ar4 : Addr) (kar4 : ClassId) (ca da db ua ub ya yb : Int32) (fm : Value) (cs : Int32) (h0 : Heap) (q0 : oArr Z h0 ar1 kar1 .char [.int ca]) (q1 : oArr Z h0 ar2 kar2 .char [.int da, .int db]) (q2 : oArr Z h0 ar3 kar3 .char [.int ua, .int ub]) (q3 : oArr Z h0 ar4 kar4 .char [.int ya, .int yb]) (q4 : oSh ca) (q5 : oId da) (q6 : oId db) (q7 : oSh ua) (q8 : oSh ub) (q9 : oId ya) (q10 : oId yb) (q11 : oCh ca) (q12 : oCh da) (q13 : oCh db) (q14 : oCh ua) (q15 : oCh ub) (q16 : oCh ya) (q17 : oCh yb) (q18 : nar .char ca = ca) (q19 : nar .char da = da) (q20 : nar .char db = db) (q21 : nar .char ua = ua) (q22 : nar .char ub = ub) (q23 : nar .char ya = ya) (q24 : nar .char yb = yb) (q25 : Sta Z Z.heap z3 z5 z6 fm) (q26 : fm.isRef = true) (q27 : Sta Z Z.heap z0 z4 "Z" (.int cs)) (q28 : ¬ (cs = (0 : Int32))) {Q : Option Value → Heap → Prop} (hQ : ∀ v h, Q_t258_1222 Z i0 i1 i2 i3 i4 i5 cp cq ar1 kar1 ar2 kar2 ar3 kar3 ar4 kar4 ca da db ua ub ya yb fm cs h0 v h → Q v h) {pp : Program} {ee : Env} {ss : State} {mm : MethodId} {bb : List Frame} {mtd : Method} {cc : Code} {A : Array Value} {T0 : State} (K : oCtx pp ss mm mtd cc Z z7 code maxLocals "law" ret x) (X0 : oSt pp l ee room_1 ss mm A bb mtd cc Z T0 h0 4 8) : oGoes pp ee bb ss Z T0 (mkF mm 258 #[vI i0, vI i1, vI i2, vI i3, vI i4, vI i5, vI 1, vI 2, vI cp, vI cq, vI 2, vI 2, vR ar1, vR ar2, vR ar3, vR ar4, uS, uS, uS, uS, uS, uS] []) Q room_1.cells room_1.slots := by
 have E0 := X0.ext0
 refine o_new K X0 (w9 hw) (w10 hw) (w11 hw) at_258 rfl (by decide) (by decide) ?_
 intro T1 h1 b1 X1 g1 E1 A1 D1 G1
 have F1_shelf : Fld Z h1 b1 z1 "shelf" z2 .null := (D1 (Or.inr (w109 hw)) (ty := (.object z0)) (by decide))
 have F1_id : Fld Z h1 b1 z1 "id" z2 .null := (D1 (Or.inr (w111 hw)) (ty := (.object z0)) (by decide))
 refine o_dup K X1 at_261 rfl rfl ?_
 refine o_new K X1 (w12 hw) (w13 hw) (w14 hw) at_262 rfl (by decide) (by decide) ?_
 intro T2 h2 b2 X2 g2 E2 A2 D2 G2
 have F2_coder : Fld Z h2 b2 z0 "coder" "B" (.int 0) := (D2 (Or.inr (w38 hw)) (ty := .byte) (by decide))
 have F2_value : Fld Z h2 b2 z0 "value" "[B" .null := (D2 (Or.inr (w40 hw)) (ty := (.array .byte)) (by decide))
 refine o_dup K X2 at_265 rfl rfl ?_
 refine o_aload K X2 at_266 rfl rfl rfl ?_
 have m3 := ((q0.ext E1).ext E2)
 refine o_special K X2 (y := (⟨z0, "<init>", "([C)V"⟩ : MethodName)) rfl (w15 hw) (w16 hw) (w14 hw) (w17 hw) (by decide) (rm_str_1 l Z a0 hw b2 ar1 kar1 cs ca h2 A2 F2_value F2_coder G2 m3 q27 q28 q11.2) (by decide) rfl (argsL := [.ref ar1]) rfl (lenOf pd17 rfl) (W := 3) rfl (by decide) (by decide) (by decide) at_268 rfl ?_
 intro v4 T4 h4 X4 U4
 obtain ⟨vb_4, k_4, rfl, u4_0, u4_1, u4_2, u4_3, u4_4, u4_5⟩ := U4
 have G4_vb : Z.heap.size ≤ vb_4 := Nat.le_trans X2.ext0.1 u4_4
 show oGoes pp ee bb ss Z T4 (mkF mm 271 _ [.ref b2, .ref b1, .ref b1]) _ _ _
 refine o_new K X4 (w12 hw) (w13 hw) (w14 hw) at_271 rfl (by decide) (by decide) ?_
 intro T5 h5 b5 X5 g5 E5 A5 D5 G5
 have F5_coder : Fld Z h5 b5 z0 "coder" "B" (.int 0) := (D5 (Or.inr (w38 hw)) (ty := .byte) (by decide))
 have F5_value : Fld Z h5 b5 z0 "value" "[B" .null := (D5 (Or.inr (w40 hw)) (ty := (.array .byte)) (by decide))
 refine o_dup K X5 at_274 rfl rfl ?_
 refine o_aload K X5 at_275 rfl rfl rfl ?_
 have n6 := oLn q1.lt E1.1 (oLe g2)
 have m7 := ((((q1.ext E1).ext E2).keep u4_0 (ninS n6 nin0)).ext E5)
 refine o_special K X5 (y := (⟨z0, "<init>", "([C)V"⟩ : MethodName)) rfl (w15 hw) (w16 hw) (w14 hw) (w17 hw) (by decide) (rm_str_2 l Z a0 hw b5 ar2 kar2 cs da db h5 A5 F5_value F5_coder G5 m7 q27 q28 q12.2 q13.2) (by decide) rfl (argsL := [.ref ar2]) rfl (lenOf pd17 rfl) (W := 4) rfl (by decide) (by decide) (by decide) at_277 rfl ?_
 intro v8 T8 h8 X8 U8
 obtain ⟨vb_8, k_8, rfl, u8_0, u8_1, u8_2, u8_3, u8_4, u8_5⟩ := U8
 have G8_vb : Z.heap.size ≤ vb_8 := Nat.le_trans X5.ext0.1 u8_4
 show oGoes pp ee bb ss Z T8 (mkF mm 280 _ [.ref b5, .ref b2, .ref b1, .ref b1]) _ _ _
 have m9 := ((((A1.ext E2).keep u4_0).ext E5).keep u8_0)
 have n10 := oLz A1.lt (oLe g2)
 have n11 := oLn A1.lt (Nat.le_trans E2.1 u4_0.1) (oLe g5)
 have m12 := ((((F1_shelf.ext E2).keep u4_0 (ninS n10 nin0)).ext E5).keep u8_0 (ninS n11 nin0))
 have m13 := ((((F1_id.ext E2).keep u4_0 (ninS n10 nin0)).ext E5).keep u8_0 (ninS n11 nin0))
 have m14 := ((u4_1.ext E5).keep u8_0)
 have n15 := oLn A2.lt u4_0.1 (oLe g5)
 have m16 := ((u4_2.ext E5).keep u8_0 (ninS n15 nin0))
 have m17 := ((u4_3.ext E5).keep u8_0 (ninS n15 nin0))
 have n18 := oLz u4_5.lt (oLe g5)
 have m19 := ((u4_5.ext E5).keep u8_0 (ninS n18 nin0))
 refine o_special K X8 (y := (⟨z1, "<init>", z8⟩ : MethodName)) rfl (w41 hw) (w42 hw) (w11 hw) (w43 hw) (by decide) (rm_rk12 l Z a0 hw b1 b2 vb_4 k_4 b5 vb_8 k_8 ca da db fm cs h8 m9 G1 m12 m13 m14 m16 m17 m19 u8_1 u8_2 u8_3 u8_5 q4 q5 q6 q11 q12 q13 q25 q26 q27 q28) (by decide) rfl (argsL := [.ref b2, .ref b5]) rfl (lenOf pd18 rfl) (W := 1) rfl (by decide) (by decide) (by decide) at_280 rfl ?_
 intro v20 T20 h20 X20 U20
 obtain ⟨rfl, u20_0, u20_1, u20_2, u20_3⟩ := U20
 show oGoes pp ee bb ss Z T20 (mkF mm 283 _ [.ref b1]) _ _ _
 refine o_astore K X20 at_283 rfl rfl (L' := #[vI i0, vI i1, vI i2, vI i3, vI i4, vI i5, vI 1, vI 2, vI cp, vI cq, vI 2, vI 2, vR ar1, vR ar2, vR ar3, vR ar4, vR b1, uS, uS, uS, uS, uS]) rfl ?_
 refine o_new K X20 (w9 hw) (w10 hw) (w11 hw) at_285 rfl (by decide) (by decide) ?_
 intro T21 h21 b21 X21 g21 E21 A21 D21 G21
 have F21_shelf : Fld Z h21 b21 z1 "shelf" z2 .null := (D21 (Or.inr (w109 hw)) (ty := (.object z0)) (by decide))
 have F21_id : Fld Z h21 b21 z1 "id" z2 .null := (D21 (Or.inr (w111 hw)) (ty := (.object z0)) (by decide))
 refine o_dup K X21 at_288 rfl rfl ?_
 refine o_new K X21 (w12 hw) (w13 hw) (w14 hw) at_289 rfl (by decide) (by decide) ?_
 intro T22 h22 b22 X22 g22 E22 A22 D22 G22
 have F22_coder : Fld Z h22 b22 z0 "coder" "B" (.int 0) := (D22 (Or.inr (w38 hw)) (ty := .byte) (by decide))
 have F22_value : Fld Z h22 b22 z0 "value" "[B" .null := (D22 (Or.inr (w40 hw)) (ty := (.array .byte)) (by decide))
 refine o_dup K X22 at_292 rfl rfl ?_
 refine o_aload K X22 at_293 rfl rfl rfl ?_
 have n23 := oLn q2.lt E1.1 (oLe g2)
 have y0_3 := Nat.le_trans (Nat.le_trans E1.1 E2.1) u4_0.1
 have n24 := oLn q2.lt y0_3 (oLe g5)
 have n25 := oLz q2.lt (oLe g1)
 have m26 := ((((((((q2.ext E1).ext E2).keep u4_0 (ninS n23 nin0)).ext E5).keep u8_0 (ninS n24 nin0)).keep u20_0 (ninS n25 nin0)).ext E21).ext E22)
 refine o_special K X22 (y := (⟨z0, "<init>", "([C)V"⟩ : MethodName)) rfl (w15 hw) (w16 hw) (w14 hw) (w17 hw) (by decide) (rm_str_2 l Z a0 hw b22 ar3 kar3 cs ua ub h22 A22 F22_value F22_coder G22 m26 q27 q28 q14.2 q15.2) (by decide) rfl (argsL := [.ref ar3]) rfl (lenOf pd17 rfl) (W := 3) rfl (by decide) (by decide) (by decide) at_295 rfl ?_
 intro v27 T27 h27 X27 U27
 obtain ⟨vb_27, k_27, rfl, u27_0, u27_1, u27_2, u27_3, u27_4, u27_5⟩ := U27
 have G27_vb : Z.heap.size ≤ vb_27 := Nat.le_trans X22.ext0.1 u27_4
 show oGoes pp ee bb ss Z T27 (mkF mm 298 _ [.ref b22, .ref b21, .ref b21]) _ _ _
 refine o_new K X27 (w12 hw) (w13 hw) (w14 hw) at_298 rfl (by decide) (by decide) ?_
 intro T28 h28 b28 X28 g28 E28 A28 D28 G28
 have F28_coder : Fld Z h28 b28 z0 "coder" "B" (.int 0) := (D28 (Or.inr (w38 hw)) (ty := .byte) (by decide))
 have F28_value : Fld Z h28 b28 z0 "value" "[B" .null := (D28 (Or.inr (w40 hw)) (ty := (.array .byte)) (by decide))
 refine o_dup K X28 at_301 rfl rfl ?_
 refine o_aload K X28 at_302 rfl rfl rfl ?_
 have n29 := oLn q3.lt E1.1 (oLe g2)
 have n30 := oLn q3.lt y0_3 (oLe g5)
 have n31 := oLz q3.lt (oLe g1)
 have y0_7 := Nat.le_trans (Nat.le_trans (Nat.le_trans (Nat.le_trans y0_3 E5.1) u8_0.1) u20_0.1) E21.1
 have n32 := oLn q3.lt y0_7 (oLe g22)
 have m33 := ((((((((((q3.ext E1).ext E2).keep u4_0 (ninS n29 nin0)).ext E5).keep u8_0 (ninS n30 nin0)).keep u20_0 (ninS n31 nin0)).ext E21).ext E22).keep u27_0 (ninS n32 nin0)).ext E28)
 refine o_special K X28 (y := (⟨z0, "<init>", "([C)V"⟩ : MethodName)) rfl (w15 hw) (w16 hw) (w14 hw) (w17 hw) (by decide) (rm_str_2 l Z a0 hw b28 ar4 kar4 cs ya yb h28 A28 F28_value F28_coder G28 m33 q27 q28 q16.2 q17.2) (by decide) rfl (argsL := [.ref ar4]) rfl (lenOf pd17 rfl) (W := 4) rfl (by decide) (by decide) (by decide) at_304 rfl ?_
 intro v34 T34 h34 X34 U34
 obtain ⟨vb_34, k_34, rfl, u34_0, u34_1, u34_2, u34_3, u34_4, u34_5⟩ := U34
 have G34_vb : Z.heap.size ≤ vb_34 := Nat.le_trans X28.ext0.1 u34_4
 show oGoes pp ee bb ss Z T34 (mkF mm 307 _ [.ref b28, .ref b22, .ref b21, .ref b21]) _ _ _
 have m35 := ((((A21.ext E22).keep u27_0).ext E28).keep u34_0)
 have n36 := oLz A21.lt (oLe g22)
 have n37 := oLn A21.lt (Nat.le_trans E22.1 u27_0.1) (oLe g28)
 have m38 := ((((F21_shelf.ext E22).keep u27_0 (ninS n36 nin0)).ext E28).keep u34_0 (ninS n37 nin0))
 have m39 := ((((F21_id.ext E22).keep u27_0 (ninS n36 nin0)).ext E28).keep u34_0 (ninS n37 nin0))
 have m40 := ((u27_1.ext E28).keep u34_0)
 have n41 := oLn A22.lt u27_0.1 (oLe g28)
 have m42 := ((u27_2.ext E28).keep u34_0 (ninS n41 nin0))
 have m43 := ((u27_3.ext E28).keep u34_0 (ninS n41 nin0))
 have n44 := oLz u27_5.lt (oLe g28)
 have m45 := ((u27_5.ext E28).keep u34_0 (ninS n44 nin0))
 refine o_special K X34 (y := (⟨z1, "<init>", z8⟩ : MethodName)) rfl (w41 hw) (w42 hw) (w11 hw) (w43 hw) (by decide) (rm_rk22 l Z a0 hw b21 b22 vb_27 k_27 b28 vb_34 k_34 ua ub ya yb fm cs h34 m35 G21 m38 m39 m40 m42 m43 m45 u34_1 u34_2 u34_3 u34_5 q7 q8 q9 q10 q14 q15 q16 q17 q25 q26 q27 q28) (by decide) rfl (argsL := [.ref b22, .ref b28]) rfl (lenOf pd18 rfl) (W := 1) rfl (by decide) (by decide) (by decide) at_307 rfl ?_
 intro v46 T46 h46 X46 U46
 obtain ⟨rfl, u46_0, u46_1, u46_2, u46_3⟩ := U46
 show oGoes pp ee bb ss Z T46 (mkF mm 310 _ [.ref b21]) _ _ _
 refine o_astore K X46 at_310 rfl rfl (L' := #[vI i0, vI i1, vI i2, vI i3, vI i4, vI i5, vI 1, vI 2, vI cp, vI cq, vI 2, vI 2, vR ar1, vR ar2, vR ar3, vR ar4, vR b1, vR b21, uS, uS, uS, uS]) rfl ?_
 have m47 := ((((((u20_1.ext E21).ext E22).keep u27_0).ext E28).keep u34_0).keep u46_0)
 have y1_7 := Nat.le_trans (Nat.le_trans (Nat.le_trans (Nat.le_trans (Nat.le_trans E2.1 u4_0.1) E5.1) u8_0.1) u20_0.1) E21.1
 have n48 := oLn A1.lt y1_7 (oLe g22)
 have y1_9 := Nat.le_trans (Nat.le_trans y1_7 E22.1) u27_0.1
 have n49 := oLn A1.lt y1_9 (oLe g28)
 have y1_6 := Nat.le_trans (Nat.le_trans (Nat.le_trans (Nat.le_trans E2.1 u4_0.1) E5.1) u8_0.1) u20_0.1
 have n50 := oLn A1.lt y1_6 (oLe g21)
 have m51 := ((((((u20_2.ext E21).ext E22).keep u27_0 (ninS n48 nin0)).ext E28).keep u34_0 (ninS n49 nin0)).keep u46_0 (ninS n50 nin0))
 have m52 := (((((((m14.keep u20_0).ext E21).ext E22).keep u27_0).ext E28).keep u34_0).keep u46_0)
 have y2_7 := Nat.le_trans (Nat.le_trans (Nat.le_trans (Nat.le_trans u4_0.1 E5.1) u8_0.1) u20_0.1) E21.1
 have n53 := oLn A2.lt y2_7 (oLe g22)
 have y2_9 := Nat.le_trans (Nat.le_trans y2_7 E22.1) u27_0.1
 have n54 := oLn A2.lt y2_9 (oLe g28)
 have y2_6 := Nat.le_trans (Nat.le_trans (Nat.le_trans u4_0.1 E5.1) u8_0.1) u20_0.1
 have n55 := oLn A2.lt y2_6 (oLe g21)
 have m56 := (((((((m16.keep u20_0 (ninS (Ne.symm n10) nin0)).ext E21).ext E22).keep u27_0 (ninS n53 nin0)).ext E28).keep u34_0 (ninS n54 nin0)).keep u46_0 (ninS n55 nin0))
 have m57 := (((((((m17.keep u20_0 (ninS (Ne.symm n10) nin0)).ext E21).ext E22).keep u27_0 (ninS n53 nin0)).ext E28).keep u34_0 (ninS n54 nin0)).keep u46_0 (ninS n55 nin0))
 have n59 := oLsn A1.lt E2.1 u4_4
 have y3_7 := Nat.le_trans (Nat.le_trans (Nat.le_trans E5.1 u8_0.1) u20_0.1) E21.1
 have n60 := oLn u4_5.lt y3_7 (oLe g22)
 have y3_9 := Nat.le_trans (Nat.le_trans y3_7 E22.1) u27_0.1
 have n61 := oLn u4_5.lt y3_9 (oLe g28)
 have y3_6 := Nat.le_trans (Nat.le_trans E5.1 u8_0.1) u20_0.1
 have n62 := oLn u4_5.lt y3_6 (oLe g21)
 have m63 := (((((((m19.keep u20_0 (ninS n59 nin0)).ext E21).ext E22).keep u27_0 (ninS n60 nin0)).ext E28).keep u34_0 (ninS n61 nin0)).keep u46_0 (ninS n62 nin0))
 have o58 := oByC (oBy1 ca ca) m63
 have m64 := ((((((u20_3.ext E21).ext E22).keep u27_0 (ninS n48 nin0)).ext E28).keep u34_0 (ninS n49 nin0)).keep u46_0 (ninS n50 nin0))
 have m65 := (((((((u8_1.keep u20_0).ext E21).ext E22).keep u27_0).ext E28).keep u34_0).keep u46_0)
 have y4_7 := Nat.le_trans (Nat.le_trans u8_0.1 u20_0.1) E21.1
 have n66 := oLn A5.lt y4_7 (oLe g22)
 have y4_9 := Nat.le_trans (Nat.le_trans y4_7 E22.1) u27_0.1
 have n67 := oLn A5.lt y4_9 (oLe g28)
 have n68 := oLn A5.lt (Nat.le_trans u8_0.1 u20_0.1) (oLe g21)
 have m69 := (((((((u8_2.keep u20_0 (ninS (Ne.symm n11) nin0)).ext E21).ext E22).keep u27_0 (ninS n66 nin0)).ext E28).keep u34_0 (ninS n67 nin0)).keep u46_0 (ninS n68 nin0))
 have m70 := (((((((u8_3.keep u20_0 (ninS (Ne.symm n11) nin0)).ext E21).ext E22).keep u27_0 (ninS n66 nin0)).ext E28).keep u34_0 (ninS n67 nin0)).keep u46_0 (ninS n68 nin0))
 have y1_4 := Nat.le_trans (Nat.le_trans E2.1 u4_0.1) E5.1
 have n72 := oLsn A1.lt y1_4 u8_4
 have n73 := oLn u8_5.lt (Nat.le_trans u20_0.1 E21.1) (oLe g22)
 have y5_9 := Nat.le_trans (Nat.le_trans (Nat.le_trans u20_0.1 E21.1) E22.1) u27_0.1
 have n74 := oLn u8_5.lt y5_9 (oLe g28)
 have n75 := oLn u8_5.lt u20_0.1 (oLe g21)
 have m76 := (((((((u8_5.keep u20_0 (ninS n72 nin0)).ext E21).ext E22).keep u27_0 (ninS n73 nin0)).ext E28).keep u34_0 (ninS n74 nin0)).keep u46_0 (ninS n75 nin0))
 have o71 := oByC (oBy2 da db) m76
 have m77 := (m40.keep u46_0)
 have m78 := (m42.keep u46_0 (ninS (Ne.symm n36) nin0))
 have m79 := (m43.keep u46_0 (ninS (Ne.symm n36) nin0))
 have n81 := oLsn A21.lt E22.1 u27_4
 have m82 := (m45.keep u46_0 (ninS n81 nin0))
 have o80 := oByC (oBy2 ua ub) m82
 have m83 := (u34_1.keep u46_0)
 have m84 := (u34_2.keep u46_0 (ninS (Ne.symm n37) nin0))
 have m85 := (u34_3.keep u46_0 (ninS (Ne.symm n37) nin0))
 have y7_10 := Nat.le_trans (Nat.le_trans E22.1 u27_0.1) E28.1
 have n87 := oLsn A21.lt y7_10 u34_4
 have m88 := (u34_5.keep u46_0 (ninS n87 nin0))
 have o86 := oByC (oBy2 ya yb) m88
 have n89 := oLn q0.lt E1.1 (oLe g2)
 have n90 := oLn q0.lt y0_3 (oLe g5)
 have n91 := oLz q0.lt (oLe g1)
 have n92 := oLn q0.lt y0_7 (oLe g22)
 have y0_9 := Nat.le_trans (Nat.le_trans y0_7 E22.1) u27_0.1
 have n93 := oLn q0.lt y0_9 (oLe g28)
 have y0_6 := Nat.le_trans (Nat.le_trans (Nat.le_trans y0_3 E5.1) u8_0.1) u20_0.1
 have n94 := oLn q0.lt y0_6 (oLe g21)
 have m95 := ((((((((((m3.keep u4_0 (ninS n89 nin0)).ext E5).keep u8_0 (ninS n90 nin0)).keep u20_0 (ninS n91 nin0)).ext E21).ext E22).keep u27_0 (ninS n92 nin0)).ext E28).keep u34_0 (ninS n93 nin0)).keep u46_0 (ninS n94 nin0))
 have n96 := oLn q1.lt y0_3 (oLe g5)
 have n97 := oLz q1.lt (oLe g1)
 have n98 := oLn q1.lt y0_7 (oLe g22)
 have n99 := oLn q1.lt y0_9 (oLe g28)
 have n100 := oLn q1.lt y0_6 (oLe g21)
 have m101 := ((((((((m7.keep u8_0 (ninS n96 nin0)).keep u20_0 (ninS n97 nin0)).ext E21).ext E22).keep u27_0 (ninS n98 nin0)).ext E28).keep u34_0 (ninS n99 nin0)).keep u46_0 (ninS n100 nin0))
 have n102 := oLn q2.lt y0_7 (oLe g22)
 have n103 := oLn q2.lt y0_9 (oLe g28)
 have n104 := oLn q2.lt y0_6 (oLe g21)
 have m105 := ((((m26.keep u27_0 (ninS n102 nin0)).ext E28).keep u34_0 (ninS n103 nin0)).keep u46_0 (ninS n104 nin0))
 have n106 := oLn q3.lt y0_9 (oLe g28)
 have n107 := oLn q3.lt y0_6 (oLe g21)
 have m108 := ((m33.keep u34_0 (ninS n106 nin0)).keep u46_0 (ninS n107 nin0))
 refine o_iload K X46 at_312 rfl rfl ?_
 refine o_iconst K X46 at_314 rfl (z := 2) rfl ?_
 refine o_iushr K X46 at_315 rfl (z := ((i5.toUInt32 >>> ((2 : Int32) &&& 31).toUInt32).toInt32)) rfl ?_
 refine o_bipush K X46 at_316 rfl (z := 7) rfl ?_
 refine o_iand K X46 at_318 rfl (z := (((i5.toUInt32 >>> ((2 : Int32) &&& 31).toUInt32).toInt32) &&& (7 : Int32))) rfl ?_
 refine o_istore K X46 at_319 rfl (L' := #[vI i0, vI i1, vI i2, vI i3, vI i4, vI i5, vI 1, vI 2, vI cp, vI cq, vI 2, vI 2, vR ar1, vR ar2, vR ar3, vR ar4, vR b1, vR b21, vI (((i5.toUInt32 >>> ((2 : Int32) &&& 31).toUInt32).toInt32) &&& (7 : Int32)), uS, uS, uS]) rfl ?_
 refine o_iload K X46 at_321 rfl rfl ?_
 refine o_iconst K X46 at_323 rfl (z := 5) rfl ?_
 by_cases c324_109 : (((i5.toUInt32 >>> ((2 : Int32) &&& 31).toUInt32).toInt32) &&& (7 : Int32)) = (5 : Int32)
 refine o_icmp_ne_f K X46 at_324 rfl c324_109 ?_
 refine o_aload K X46 at_327 rfl rfl rfl ?_
 refine o_aconst_null K X46 at_329 rfl ?_
 refine o_virtual K X46   (w112 hw) (w113 hw) (oNF (w115 hw)) (w115 hw) (w114 hw) (w11 hw) (w116 hw) (by decide) m47 (rm_eqnull l Z a0 hw b1 h46) (by decide) rfl (argsL := [.null]) rfl (lenOf pd16 rfl) (W := 0) rfl (by decide) (by decide) (by decide) at_330 rfl ?_
 intro v110 T110 h110 X110 U110
 obtain ⟨rfl, rfl⟩ := U110
 show oGoes pp ee bb ss Z T110 (mkF mm 333 _ [.int 0]) _ _ _
 refine o_if_ne_f K X110 at_333 rfl (by decide) ?_
 refine o_iconst K X110 at_336 rfl (z := 1) rfl ?_
 refine o_goto K X110 at_337 (by decide) (pc' := 341) (by decide) ?_
 refine o_ireturnN K X110 .boolean at_341 rfl (by simp) (z' := 1) (by decide) ?_ (by decide) (by decide)
 exact hQ _ _ rfl
 refine o_icmp_ne_t K X46 at_324 (by decide) (pc' := 342) (by decide) c324_109 ?_
 refine o_iload K X46 at_342 rfl rfl ?_
 refine o_bipush K X46 at_344 rfl (z := 6) rfl ?_
 by_cases c346_111 : (((i5.toUInt32 >>> ((2 : Int32) &&& 31).toUInt32).toInt32) &&& (7 : Int32)) = (6 : Int32)
 refine o_icmp_ne_f K X46 at_346 rfl c346_111 ?_
 refine o_aload K X46 at_349 rfl rfl rfl ?_
 refine o_new K X46 (w12 hw) (w13 hw) (w14 hw) at_351 rfl (by decide) (by decide) ?_
 intro T112 h112 b112 X112 g112 E112 A112 D112 G112
 have F112_coder : Fld Z h112 b112 z0 "coder" "B" (.int 0) := (D112 (Or.inr (w38 hw)) (ty := .byte) (by decide))
 have F112_value : Fld Z h112 b112 z0 "value" "[B" .null := (D112 (Or.inr (w40 hw)) (ty := (.array .byte)) (by decide))
 refine o_dup K X112 at_354 rfl rfl ?_
 refine o_aload K X112 at_355 rfl rfl rfl ?_
 have m113 := (m95.ext E112)
 refine o_special K X112 (y := (⟨z0, "<init>", "([C)V"⟩ : MethodName)) rfl (w15 hw) (w16 hw) (w14 hw) (w17 hw) (by decide) (rm_str_1 l Z a0 hw b112 ar1 kar1 cs ca h112 A112 F112_value F112_coder G112 m113 q27 q28 q11.2) (by decide) rfl (argsL := [.ref ar1]) rfl (lenOf pd17 rfl) (W := 2) rfl (by decide) (by decide) (by decide) at_357 rfl ?_
 intro v114 T114 h114 X114 U114
 obtain ⟨vb_114, k_114, rfl, u114_0, u114_1, u114_2, u114_3, u114_4, u114_5⟩ := U114
 have G114_vb : Z.heap.size ≤ vb_114 := Nat.le_trans X112.ext0.1 u114_4
 show oGoes pp ee bb ss Z T114 (mkF mm 360 _ [.ref b112, .ref b1]) _ _ _
 have m115 := ((m47.ext E112).keep u114_0)
 refine o_virtual K X114   (w112 hw) (w113 hw) (oNF (w115 hw)) (w115 hw) (w114 hw) (w11 hw) (w116 hw) (by decide) m115 (rm_eqstr l Z a0 hw b1 b112 h114 u114_1) (by decide) rfl (argsL := [.ref b112]) rfl (lenOf pd16 rfl) (W := 0) rfl (by decide) (by decide) (by decide) at_360 rfl ?_
 intro v116 T116 h116 X116 U116
 obtain ⟨rfl, rfl⟩ := U116
 show oGoes pp ee bb ss Z T116 (mkF mm 363 _ [.int 0]) _ _ _
 refine o_if_ne_f K X116 at_363 rfl (by decide) ?_
 refine o_iconst K X116 at_366 rfl (z := 1) rfl ?_
 refine o_goto K X116 at_367 (by decide) (pc' := 371) (by decide) ?_
 refine o_ireturnN K X116 .boolean at_371 rfl (by simp) (z' := 1) (by decide) ?_ (by decide) (by decide)
 exact hQ _ _ rfl
 refine o_icmp_ne_t K X46 at_346 (by decide) (pc' := 372) (by decide) c346_111 ?_
 refine o_iload K X46 at_372 rfl rfl ?_
 refine o_bipush K X46 at_374 rfl (z := 7) rfl ?_
 by_cases c376_117 : (((i5.toUInt32 >>> ((2 : Int32) &&& 31).toUInt32).toInt32) &&& (7 : Int32)) = (7 : Int32)
 refine o_icmp_ne_f K X46 at_376 rfl c376_117 ?_
 refine o_aload K X46 at_379 rfl rfl rfl ?_
 refine o_aload K X46 at_381 rfl rfl rfl ?_
 refine o_virtual K X46   (w112 hw) (w113 hw) (oNF (w115 hw)) (w115 hw) (w114 hw) (w11 hw) (w116 hw) (by decide) m47 (rm_eqself l Z a0 hw b1 b2 b5 h46 m47 m51 m64 m52 m65) (by decide) rfl (argsL := [.ref b1]) rfl (lenOf pd16 rfl) (W := 0) rfl (by decide) (by decide) (by decide) at_383 rfl ?_
 intro v118 T118 h118 X118 U118
 obtain ⟨rfl, rfl⟩ := U118
 show oGoes pp ee bb ss Z T118 (mkF mm 386 _ [.int 1]) _ _ _
 refine o_ireturnN K X118 .boolean at_386 rfl (by simp) (z' := 1) (by decide) ?_ (by decide) (by decide)
 exact hQ _ _ rfl
 refine o_icmp_ne_t K X46 at_376 (by decide) (pc' := 387) (by decide) c376_117 ?_
 refine o_iload K X46 at_387 rfl rfl ?_
 refine o_iload K X46 at_389 rfl rfl ?_
 refine o_icmp_ne_t K X46 at_391 (by decide) (pc' := 426) (by decide) (by decide) ?_
 refine o_iconst K X46 at_426 rfl (z := 0) rfl ?_
 refine o_istore K X46 at_427 rfl (L' := #[vI i0, vI i1, vI i2, vI i3, vI i4, vI i5, vI 1, vI 2, vI cp, vI cq, vI 2, vI 2, vR ar1, vR ar2, vR ar3, vR ar4, vR b1, vR b21, vI (((i5.toUInt32 >>> ((2 : Int32) &&& 31).toUInt32).toInt32) &&& (7 : Int32)), vI 0, uS, uS]) rfl ?_
 refine o_iload K X46 at_429 rfl rfl ?_
 refine o_iload K X46 at_431 rfl rfl ?_
 refine o_icmp_ne_f K X46 at_433 rfl (by decide) ?_
 refine o_aload K X46 at_436 rfl rfl rfl ?_
 refine o_iconst K X46 at_438 rfl (z := 0) rfl ?_
 refine o_caload K X46 m101 (by decide) (v := (.int da)) rfl at_439 rfl ?_
 refine o_aload K X46 at_440 rfl rfl rfl ?_
 refine o_iconst K X46 at_442 rfl (z := 0) rfl ?_
 refine o_caload K X46 m108 (by decide) (v := (.int ya)) rfl at_443 rfl ?_
 by_cases c444_119 : da = ya
 refine o_icmp_ne_f K X46 at_444 rfl c444_119 ?_
 refine o_iload K X46 at_447 rfl rfl ?_
 refine o_iconst K X46 at_449 rfl (z := 1) rfl ?_
 refine o_icmp_eq_f K X46 at_450 rfl (by decide) ?_
 refine o_aload K X46 at_453 rfl rfl rfl ?_
 refine o_iconst K X46 at_455 rfl (z := 1) rfl ?_
 refine o_caload K X46 m101 (by decide) (v := (.int db)) rfl at_456 rfl ?_
 refine o_aload K X46 at_457 rfl rfl rfl ?_
 refine o_iconst K X46 at_459 rfl (z := 1) rfl ?_
 refine o_caload K X46 m108 (by decide) (v := (.int yb)) rfl at_460 rfl ?_
 by_cases c461_120 : db = yb
 refine o_icmp_ne_f K X46 at_461 rfl c461_120 ?_
 refine o_iconst K X46 at_464 rfl (z := 1) rfl ?_
 refine o_goto K X46 at_465 (by decide) (pc' := 469) (by decide) ?_
 refine o_istore K X46 at_469 rfl (L' := #[vI i0, vI i1, vI i2, vI i3, vI i4, vI i5, vI 1, vI 2, vI cp, vI cq, vI 2, vI 2, vR ar1, vR ar2, vR ar3, vR ar4, vR b1, vR b21, vI (((i5.toUInt32 >>> ((2 : Int32) &&& 31).toUInt32).toInt32) &&& (7 : Int32)), vI 0, vI 1, uS]) rfl ?_
 refine tl_lw3 l Z a0 hw i0 i1 i2 i3 i4 i5 cp cq (((i5.toUInt32 >>> ((2 : Int32) &&& 31).toUInt32).toInt32) &&& (7 : Int32)) 0 1 ar1 ar2 ar3 ar4 b1 b21 b2 vb_4 k_4 b5 vb_8 k_8 b22 vb_27 k_27 b28 vb_34 k_34 1 2 2 2 ca ca da db ua ub ya yb cs h46 (by simp +decide [oSm, c444_119, c461_120]) (by simp +decide [oSm, c444_119, c461_120]) m47 m51 m64 u46_1 u46_2 u46_3 m52 m56 m57 o58 m65 m69 m70 o71 m77 m78 m79 o80 m83 m84 m85 o86 (by decide) (by decide) (by decide) (by decide) q11 q11 q12 q13 q14 q15 q16 q17 n53 n67 q27 q28 (fun v121 h121 U121 => ?_) K (X46.mono (by decide) (by decide))
 obtain rfl : v121 = some (.int 1) := U121
 exact hQ _ _ rfl
 refine o_icmp_ne_t K X46 at_461 (by decide) (pc' := 468) (by decide) c461_120 ?_
 refine o_iconst K X46 at_468 rfl (z := 0) rfl ?_
 refine o_istore K X46 at_469 rfl (L' := #[vI i0, vI i1, vI i2, vI i3, vI i4, vI i5, vI 1, vI 2, vI cp, vI cq, vI 2, vI 2, vR ar1, vR ar2, vR ar3, vR ar4, vR b1, vR b21, vI (((i5.toUInt32 >>> ((2 : Int32) &&& 31).toUInt32).toInt32) &&& (7 : Int32)), vI 0, vI 0, uS]) rfl ?_
 refine tl_lw3 l Z a0 hw i0 i1 i2 i3 i4 i5 cp cq (((i5.toUInt32 >>> ((2 : Int32) &&& 31).toUInt32).toInt32) &&& (7 : Int32)) 0 0 ar1 ar2 ar3 ar4 b1 b21 b2 vb_4 k_4 b5 vb_8 k_8 b22 vb_27 k_27 b28 vb_34 k_34 1 2 2 2 ca ca da db ua ub ya yb cs h46 (by simp +decide [oSm, c444_119, c461_120]) (by simp +decide [oSm, c444_119, c461_120]) m47 m51 m64 u46_1 u46_2 u46_3 m52 m56 m57 o58 m65 m69 m70 o71 m77 m78 m79 o80 m83 m84 m85 o86 (by decide) (by decide) (by decide) (by decide) q11 q11 q12 q13 q14 q15 q16 q17 n53 n67 q27 q28 (fun v122 h122 U122 => ?_) K (X46.mono (by decide) (by decide))
 obtain rfl : v122 = some (.int 1) := U122
 exact hQ _ _ rfl
 refine o_icmp_ne_t K X46 at_444 (by decide) (pc' := 468) (by decide) c444_119 ?_
 refine o_iconst K X46 at_468 rfl (z := 0) rfl ?_
 refine o_istore K X46 at_469 rfl (L' := #[vI i0, vI i1, vI i2, vI i3, vI i4, vI i5, vI 1, vI 2, vI cp, vI cq, vI 2, vI 2, vR ar1, vR ar2, vR ar3, vR ar4, vR b1, vR b21, vI (((i5.toUInt32 >>> ((2 : Int32) &&& 31).toUInt32).toInt32) &&& (7 : Int32)), vI 0, vI 0, uS]) rfl ?_
 refine tl_lw3 l Z a0 hw i0 i1 i2 i3 i4 i5 cp cq (((i5.toUInt32 >>> ((2 : Int32) &&& 31).toUInt32).toInt32) &&& (7 : Int32)) 0 0 ar1 ar2 ar3 ar4 b1 b21 b2 vb_4 k_4 b5 vb_8 k_8 b22 vb_27 k_27 b28 vb_34 k_34 1 2 2 2 ca ca da db ua ub ya yb cs h46 (by simp +decide [oSm, c444_119]) (by simp +decide [oSm, c444_119]) m47 m51 m64 u46_1 u46_2 u46_3 m52 m56 m57 o58 m65 m69 m70 o71 m77 m78 m79 o80 m83 m84 m85 o86 (by decide) (by decide) (by decide) (by decide) q11 q11 q12 q13 q14 q15 q16 q17 n53 n67 q27 q28 (fun v123 h123 U123 => ?_) K (X46.mono (by decide) (by decide))
 obtain rfl : v123 = some (.int 1) := U123
 exact hQ _ _ rfl
def Q_t258_2111 (Z : State) (i0 i1 i2 i3 i4 i5 cp cq : Int32) (ar1 : Addr) (kar1 : ClassId) (ar2 : Addr) (kar2 : ClassId) (ar3 : Addr) (kar3 : ClassId) (ar4 : Addr) (kar4 : ClassId) (ca cb da ua ya : Int32) (fm : Value) (cs : Int32) (h0 : Heap) (v : Option Value) (h : Heap) : Prop := v = some (.int 1)
theorem tl_t258_2111 (l : Launch) (Z : State) (a0 : Array Value) (hw : oHw Z a0) (i0 i1 i2 i3 i4 i5 cp cq : Int32) (ar1 : Addr) (kar1 : ClassId) (ar2 : Addr) (kar2 : ClassId) (ar3 : Addr) (kar3 : ClassId) (ar4 : Addr) (kar4 : ClassId) (ca cb da ua ya : Int32) (fm : Value) (cs : Int32) (h0 : Heap) (q0 : oArr Z h0 ar1 kar1 .char [.int ca, .int cb]) (q1 : oArr Z h0 ar2 kar2 .char [.int da]) (q2 : oArr Z h0 ar3 kar3 .char [.int ua]) (q3 : oArr Z h0 ar4 kar4 .char [.int ya]) (q4 : oSh ca) (q5 : oSh cb) (q6 : oId da) (q7 : oSh ua) (q8 : oId ya) (q9 : oCh ca) (q10 : oCh cb) (q11 : oCh da) (q12 : oCh ua) (q13 : oCh ya) (q14 : nar .char ca = ca) (q15 : nar .char cb = cb) (q16 : nar .char da = da) (q17 : nar .char ua = ua) (q18 : nar .char ya = ya) (q19 : Sta Z Z.heap z3 z5 z6 fm) (q20 : fm.isRef = true) (q21 : Sta Z Z.heap z0 z4 "Z" (.int cs)) (q22 : ¬ (cs = (0 : Int32))) {Q : Option Value → Heap → Prop} (hQ : ∀ v h, Q_t258_2111 Z i0 i1 i2 i3 i4 i5 cp cq ar1 kar1 ar2 kar2 ar3 kar3 ar4 kar4 ca cb da ua ya fm cs h0 v h → Q v h) {pp : Program} {ee : Env} {ss : State} {mm : MethodId} {bb : List Frame} {mtd : Method} {cc : Code} {A : Array Value} {T0 : State} (K : oCtx pp ss mm mtd cc Z z7 code maxLocals "law" ret x) (X0 : oSt pp l ee room_1 ss mm A bb mtd cc Z T0 h0 4 8) : oGoes pp ee bb ss Z T0 (mkF mm 258 #[vI i0, vI i1, vI i2, vI i3, vI i4, vI i5, vI 2, vI 1, vI cp, vI cq, vI 1, vI 1, vR ar1, vR ar2, vR ar3, vR ar4, uS, uS, uS, uS, uS, uS] []) Q room_1.cells room_1.slots := by
 have E0 := X0.ext0
 refine o_new K X0 (w9 hw) (w10 hw) (w11 hw) at_258 rfl (by decide) (by decide) ?_
 intro T1 h1 b1 X1 g1 E1 A1 D1 G1
 have F1_shelf : Fld Z h1 b1 z1 "shelf" z2 .null := (D1 (Or.inr (w109 hw)) (ty := (.object z0)) (by decide))
 have F1_id : Fld Z h1 b1 z1 "id" z2 .null := (D1 (Or.inr (w111 hw)) (ty := (.object z0)) (by decide))
 refine o_dup K X1 at_261 rfl rfl ?_
 refine o_new K X1 (w12 hw) (w13 hw) (w14 hw) at_262 rfl (by decide) (by decide) ?_
 intro T2 h2 b2 X2 g2 E2 A2 D2 G2
 have F2_coder : Fld Z h2 b2 z0 "coder" "B" (.int 0) := (D2 (Or.inr (w38 hw)) (ty := .byte) (by decide))
 have F2_value : Fld Z h2 b2 z0 "value" "[B" .null := (D2 (Or.inr (w40 hw)) (ty := (.array .byte)) (by decide))
 refine o_dup K X2 at_265 rfl rfl ?_
 refine o_aload K X2 at_266 rfl rfl rfl ?_
 have m3 := ((q0.ext E1).ext E2)
 refine o_special K X2 (y := (⟨z0, "<init>", "([C)V"⟩ : MethodName)) rfl (w15 hw) (w16 hw) (w14 hw) (w17 hw) (by decide) (rm_str_2 l Z a0 hw b2 ar1 kar1 cs ca cb h2 A2 F2_value F2_coder G2 m3 q21 q22 q9.2 q10.2) (by decide) rfl (argsL := [.ref ar1]) rfl (lenOf pd17 rfl) (W := 3) rfl (by decide) (by decide) (by decide) at_268 rfl ?_
 intro v4 T4 h4 X4 U4
 obtain ⟨vb_4, k_4, rfl, u4_0, u4_1, u4_2, u4_3, u4_4, u4_5⟩ := U4
 have G4_vb : Z.heap.size ≤ vb_4 := Nat.le_trans X2.ext0.1 u4_4
 show oGoes pp ee bb ss Z T4 (mkF mm 271 _ [.ref b2, .ref b1, .ref b1]) _ _ _
 refine o_new K X4 (w12 hw) (w13 hw) (w14 hw) at_271 rfl (by decide) (by decide) ?_
 intro T5 h5 b5 X5 g5 E5 A5 D5 G5
 have F5_coder : Fld Z h5 b5 z0 "coder" "B" (.int 0) := (D5 (Or.inr (w38 hw)) (ty := .byte) (by decide))
 have F5_value : Fld Z h5 b5 z0 "value" "[B" .null := (D5 (Or.inr (w40 hw)) (ty := (.array .byte)) (by decide))
 refine o_dup K X5 at_274 rfl rfl ?_
 refine o_aload K X5 at_275 rfl rfl rfl ?_
 have n6 := oLn q1.lt E1.1 (oLe g2)
 have m7 := ((((q1.ext E1).ext E2).keep u4_0 (ninS n6 nin0)).ext E5)
 refine o_special K X5 (y := (⟨z0, "<init>", "([C)V"⟩ : MethodName)) rfl (w15 hw) (w16 hw) (w14 hw) (w17 hw) (by decide) (rm_str_1 l Z a0 hw b5 ar2 kar2 cs da h5 A5 F5_value F5_coder G5 m7 q21 q22 q11.2) (by decide) rfl (argsL := [.ref ar2]) rfl (lenOf pd17 rfl) (W := 4) rfl (by decide) (by decide) (by decide) at_277 rfl ?_
 intro v8 T8 h8 X8 U8
 obtain ⟨vb_8, k_8, rfl, u8_0, u8_1, u8_2, u8_3, u8_4, u8_5⟩ := U8
 have G8_vb : Z.heap.size ≤ vb_8 := Nat.le_trans X5.ext0.1 u8_4
 show oGoes pp ee bb ss Z T8 (mkF mm 280 _ [.ref b5, .ref b2, .ref b1, .ref b1]) _ _ _
 have m9 := ((((A1.ext E2).keep u4_0).ext E5).keep u8_0)
 have n10 := oLz A1.lt (oLe g2)
 have n11 := oLn A1.lt (Nat.le_trans E2.1 u4_0.1) (oLe g5)
 have m12 := ((((F1_shelf.ext E2).keep u4_0 (ninS n10 nin0)).ext E5).keep u8_0 (ninS n11 nin0))
 have m13 := ((((F1_id.ext E2).keep u4_0 (ninS n10 nin0)).ext E5).keep u8_0 (ninS n11 nin0))
 have m14 := ((u4_1.ext E5).keep u8_0)
 have n15 := oLn A2.lt u4_0.1 (oLe g5)
 have m16 := ((u4_2.ext E5).keep u8_0 (ninS n15 nin0))
 have m17 := ((u4_3.ext E5).keep u8_0 (ninS n15 nin0))
 have n18 := oLz u4_5.lt (oLe g5)
 have m19 := ((u4_5.ext E5).keep u8_0 (ninS n18 nin0))
 refine o_special K X8 (y := (⟨z1, "<init>", z8⟩ : MethodName)) rfl (w41 hw) (w42 hw) (w11 hw) (w43 hw) (by decide) (rm_rk21 l Z a0 hw b1 b2 vb_4 k_4 b5 vb_8 k_8 ca cb da fm cs h8 m9 G1 m12 m13 m14 m16 m17 m19 u8_1 u8_2 u8_3 u8_5 q4 q5 q6 q9 q10 q11 q19 q20 q21 q22) (by decide) rfl (argsL := [.ref b2, .ref b5]) rfl (lenOf pd18 rfl) (W := 1) rfl (by decide) (by decide) (by decide) at_280 rfl ?_
 intro v20 T20 h20 X20 U20
 obtain ⟨rfl, u20_0, u20_1, u20_2, u20_3⟩ := U20
 show oGoes pp ee bb ss Z T20 (mkF mm 283 _ [.ref b1]) _ _ _
 refine o_astore K X20 at_283 rfl rfl (L' := #[vI i0, vI i1, vI i2, vI i3, vI i4, vI i5, vI 2, vI 1, vI cp, vI cq, vI 1, vI 1, vR ar1, vR ar2, vR ar3, vR ar4, vR b1, uS, uS, uS, uS, uS]) rfl ?_
 refine o_new K X20 (w9 hw) (w10 hw) (w11 hw) at_285 rfl (by decide) (by decide) ?_
 intro T21 h21 b21 X21 g21 E21 A21 D21 G21
 have F21_shelf : Fld Z h21 b21 z1 "shelf" z2 .null := (D21 (Or.inr (w109 hw)) (ty := (.object z0)) (by decide))
 have F21_id : Fld Z h21 b21 z1 "id" z2 .null := (D21 (Or.inr (w111 hw)) (ty := (.object z0)) (by decide))
 refine o_dup K X21 at_288 rfl rfl ?_
 refine o_new K X21 (w12 hw) (w13 hw) (w14 hw) at_289 rfl (by decide) (by decide) ?_
 intro T22 h22 b22 X22 g22 E22 A22 D22 G22
 have F22_coder : Fld Z h22 b22 z0 "coder" "B" (.int 0) := (D22 (Or.inr (w38 hw)) (ty := .byte) (by decide))
 have F22_value : Fld Z h22 b22 z0 "value" "[B" .null := (D22 (Or.inr (w40 hw)) (ty := (.array .byte)) (by decide))
 refine o_dup K X22 at_292 rfl rfl ?_
 refine o_aload K X22 at_293 rfl rfl rfl ?_
 have n23 := oLn q2.lt E1.1 (oLe g2)
 have y0_3 := Nat.le_trans (Nat.le_trans E1.1 E2.1) u4_0.1
 have n24 := oLn q2.lt y0_3 (oLe g5)
 have n25 := oLz q2.lt (oLe g1)
 have m26 := ((((((((q2.ext E1).ext E2).keep u4_0 (ninS n23 nin0)).ext E5).keep u8_0 (ninS n24 nin0)).keep u20_0 (ninS n25 nin0)).ext E21).ext E22)
 refine o_special K X22 (y := (⟨z0, "<init>", "([C)V"⟩ : MethodName)) rfl (w15 hw) (w16 hw) (w14 hw) (w17 hw) (by decide) (rm_str_1 l Z a0 hw b22 ar3 kar3 cs ua h22 A22 F22_value F22_coder G22 m26 q21 q22 q12.2) (by decide) rfl (argsL := [.ref ar3]) rfl (lenOf pd17 rfl) (W := 3) rfl (by decide) (by decide) (by decide) at_295 rfl ?_
 intro v27 T27 h27 X27 U27
 obtain ⟨vb_27, k_27, rfl, u27_0, u27_1, u27_2, u27_3, u27_4, u27_5⟩ := U27
 have G27_vb : Z.heap.size ≤ vb_27 := Nat.le_trans X22.ext0.1 u27_4
 show oGoes pp ee bb ss Z T27 (mkF mm 298 _ [.ref b22, .ref b21, .ref b21]) _ _ _
 refine o_new K X27 (w12 hw) (w13 hw) (w14 hw) at_298 rfl (by decide) (by decide) ?_
 intro T28 h28 b28 X28 g28 E28 A28 D28 G28
 have F28_coder : Fld Z h28 b28 z0 "coder" "B" (.int 0) := (D28 (Or.inr (w38 hw)) (ty := .byte) (by decide))
 have F28_value : Fld Z h28 b28 z0 "value" "[B" .null := (D28 (Or.inr (w40 hw)) (ty := (.array .byte)) (by decide))
 refine o_dup K X28 at_301 rfl rfl ?_
 refine o_aload K X28 at_302 rfl rfl rfl ?_
 have n29 := oLn q3.lt E1.1 (oLe g2)
 have n30 := oLn q3.lt y0_3 (oLe g5)
 have n31 := oLz q3.lt (oLe g1)
 have y0_7 := Nat.le_trans (Nat.le_trans (Nat.le_trans (Nat.le_trans y0_3 E5.1) u8_0.1) u20_0.1) E21.1
 have n32 := oLn q3.lt y0_7 (oLe g22)
 have m33 := ((((((((((q3.ext E1).ext E2).keep u4_0 (ninS n29 nin0)).ext E5).keep u8_0 (ninS n30 nin0)).keep u20_0 (ninS n31 nin0)).ext E21).ext E22).keep u27_0 (ninS n32 nin0)).ext E28)
 refine o_special K X28 (y := (⟨z0, "<init>", "([C)V"⟩ : MethodName)) rfl (w15 hw) (w16 hw) (w14 hw) (w17 hw) (by decide) (rm_str_1 l Z a0 hw b28 ar4 kar4 cs ya h28 A28 F28_value F28_coder G28 m33 q21 q22 q13.2) (by decide) rfl (argsL := [.ref ar4]) rfl (lenOf pd17 rfl) (W := 4) rfl (by decide) (by decide) (by decide) at_304 rfl ?_
 intro v34 T34 h34 X34 U34
 obtain ⟨vb_34, k_34, rfl, u34_0, u34_1, u34_2, u34_3, u34_4, u34_5⟩ := U34
 have G34_vb : Z.heap.size ≤ vb_34 := Nat.le_trans X28.ext0.1 u34_4
 show oGoes pp ee bb ss Z T34 (mkF mm 307 _ [.ref b28, .ref b22, .ref b21, .ref b21]) _ _ _
 have m35 := ((((A21.ext E22).keep u27_0).ext E28).keep u34_0)
 have n36 := oLz A21.lt (oLe g22)
 have n37 := oLn A21.lt (Nat.le_trans E22.1 u27_0.1) (oLe g28)
 have m38 := ((((F21_shelf.ext E22).keep u27_0 (ninS n36 nin0)).ext E28).keep u34_0 (ninS n37 nin0))
 have m39 := ((((F21_id.ext E22).keep u27_0 (ninS n36 nin0)).ext E28).keep u34_0 (ninS n37 nin0))
 have m40 := ((u27_1.ext E28).keep u34_0)
 have n41 := oLn A22.lt u27_0.1 (oLe g28)
 have m42 := ((u27_2.ext E28).keep u34_0 (ninS n41 nin0))
 have m43 := ((u27_3.ext E28).keep u34_0 (ninS n41 nin0))
 have n44 := oLz u27_5.lt (oLe g28)
 have m45 := ((u27_5.ext E28).keep u34_0 (ninS n44 nin0))
 refine o_special K X34 (y := (⟨z1, "<init>", z8⟩ : MethodName)) rfl (w41 hw) (w42 hw) (w11 hw) (w43 hw) (by decide) (rm_rk11 l Z a0 hw b21 b22 vb_27 k_27 b28 vb_34 k_34 ua ya fm cs h34 m35 G21 m38 m39 m40 m42 m43 m45 u34_1 u34_2 u34_3 u34_5 q7 q8 q12 q13 q19 q20 q21 q22) (by decide) rfl (argsL := [.ref b22, .ref b28]) rfl (lenOf pd18 rfl) (W := 1) rfl (by decide) (by decide) (by decide) at_307 rfl ?_
 intro v46 T46 h46 X46 U46
 obtain ⟨rfl, u46_0, u46_1, u46_2, u46_3⟩ := U46
 show oGoes pp ee bb ss Z T46 (mkF mm 310 _ [.ref b21]) _ _ _
 refine o_astore K X46 at_310 rfl rfl (L' := #[vI i0, vI i1, vI i2, vI i3, vI i4, vI i5, vI 2, vI 1, vI cp, vI cq, vI 1, vI 1, vR ar1, vR ar2, vR ar3, vR ar4, vR b1, vR b21, uS, uS, uS, uS]) rfl ?_
 have m47 := ((((((u20_1.ext E21).ext E22).keep u27_0).ext E28).keep u34_0).keep u46_0)
 have y1_7 := Nat.le_trans (Nat.le_trans (Nat.le_trans (Nat.le_trans (Nat.le_trans E2.1 u4_0.1) E5.1) u8_0.1) u20_0.1) E21.1
 have n48 := oLn A1.lt y1_7 (oLe g22)
 have y1_9 := Nat.le_trans (Nat.le_trans y1_7 E22.1) u27_0.1
 have n49 := oLn A1.lt y1_9 (oLe g28)
 have y1_6 := Nat.le_trans (Nat.le_trans (Nat.le_trans (Nat.le_trans E2.1 u4_0.1) E5.1) u8_0.1) u20_0.1
 have n50 := oLn A1.lt y1_6 (oLe g21)
 have m51 := ((((((u20_2.ext E21).ext E22).keep u27_0 (ninS n48 nin0)).ext E28).keep u34_0 (ninS n49 nin0)).keep u46_0 (ninS n50 nin0))
 have m52 := (((((((m14.keep u20_0).ext E21).ext E22).keep u27_0).ext E28).keep u34_0).keep u46_0)
 have y2_7 := Nat.le_trans (Nat.le_trans (Nat.le_trans (Nat.le_trans u4_0.1 E5.1) u8_0.1) u20_0.1) E21.1
 have n53 := oLn A2.lt y2_7 (oLe g22)
 have y2_9 := Nat.le_trans (Nat.le_trans y2_7 E22.1) u27_0.1
 have n54 := oLn A2.lt y2_9 (oLe g28)
 have y2_6 := Nat.le_trans (Nat.le_trans (Nat.le_trans u4_0.1 E5.1) u8_0.1) u20_0.1
 have n55 := oLn A2.lt y2_6 (oLe g21)
 have m56 := (((((((m16.keep u20_0 (ninS (Ne.symm n10) nin0)).ext E21).ext E22).keep u27_0 (ninS n53 nin0)).ext E28).keep u34_0 (ninS n54 nin0)).keep u46_0 (ninS n55 nin0))
 have m57 := (((((((m17.keep u20_0 (ninS (Ne.symm n10) nin0)).ext E21).ext E22).keep u27_0 (ninS n53 nin0)).ext E28).keep u34_0 (ninS n54 nin0)).keep u46_0 (ninS n55 nin0))
 have n59 := oLsn A1.lt E2.1 u4_4
 have y3_7 := Nat.le_trans (Nat.le_trans (Nat.le_trans E5.1 u8_0.1) u20_0.1) E21.1
 have n60 := oLn u4_5.lt y3_7 (oLe g22)
 have y3_9 := Nat.le_trans (Nat.le_trans y3_7 E22.1) u27_0.1
 have n61 := oLn u4_5.lt y3_9 (oLe g28)
 have y3_6 := Nat.le_trans (Nat.le_trans E5.1 u8_0.1) u20_0.1
 have n62 := oLn u4_5.lt y3_6 (oLe g21)
 have m63 := (((((((m19.keep u20_0 (ninS n59 nin0)).ext E21).ext E22).keep u27_0 (ninS n60 nin0)).ext E28).keep u34_0 (ninS n61 nin0)).keep u46_0 (ninS n62 nin0))
 have o58 := oByC (oBy2 ca cb) m63
 have m64 := ((((((u20_3.ext E21).ext E22).keep u27_0 (ninS n48 nin0)).ext E28).keep u34_0 (ninS n49 nin0)).keep u46_0 (ninS n50 nin0))
 have m65 := (((((((u8_1.keep u20_0).ext E21).ext E22).keep u27_0).ext E28).keep u34_0).keep u46_0)
 have y4_7 := Nat.le_trans (Nat.le_trans u8_0.1 u20_0.1) E21.1
 have n66 := oLn A5.lt y4_7 (oLe g22)
 have y4_9 := Nat.le_trans (Nat.le_trans y4_7 E22.1) u27_0.1
 have n67 := oLn A5.lt y4_9 (oLe g28)
 have n68 := oLn A5.lt (Nat.le_trans u8_0.1 u20_0.1) (oLe g21)
 have m69 := (((((((u8_2.keep u20_0 (ninS (Ne.symm n11) nin0)).ext E21).ext E22).keep u27_0 (ninS n66 nin0)).ext E28).keep u34_0 (ninS n67 nin0)).keep u46_0 (ninS n68 nin0))
 have m70 := (((((((u8_3.keep u20_0 (ninS (Ne.symm n11) nin0)).ext E21).ext E22).keep u27_0 (ninS n66 nin0)).ext E28).keep u34_0 (ninS n67 nin0)).keep u46_0 (ninS n68 nin0))
 have y1_4 := Nat.le_trans (Nat.le_trans E2.1 u4_0.1) E5.1
 have n72 := oLsn A1.lt y1_4 u8_4
 have n73 := oLn u8_5.lt (Nat.le_trans u20_0.1 E21.1) (oLe g22)
 have y5_9 := Nat.le_trans (Nat.le_trans (Nat.le_trans u20_0.1 E21.1) E22.1) u27_0.1
 have n74 := oLn u8_5.lt y5_9 (oLe g28)
 have n75 := oLn u8_5.lt u20_0.1 (oLe g21)
 have m76 := (((((((u8_5.keep u20_0 (ninS n72 nin0)).ext E21).ext E22).keep u27_0 (ninS n73 nin0)).ext E28).keep u34_0 (ninS n74 nin0)).keep u46_0 (ninS n75 nin0))
 have o71 := oByC (oBy1 da da) m76
 have m77 := (m40.keep u46_0)
 have m78 := (m42.keep u46_0 (ninS (Ne.symm n36) nin0))
 have m79 := (m43.keep u46_0 (ninS (Ne.symm n36) nin0))
 have n81 := oLsn A21.lt E22.1 u27_4
 have m82 := (m45.keep u46_0 (ninS n81 nin0))
 have o80 := oByC (oBy1 ua ua) m82
 have m83 := (u34_1.keep u46_0)
 have m84 := (u34_2.keep u46_0 (ninS (Ne.symm n37) nin0))
 have m85 := (u34_3.keep u46_0 (ninS (Ne.symm n37) nin0))
 have y7_10 := Nat.le_trans (Nat.le_trans E22.1 u27_0.1) E28.1
 have n87 := oLsn A21.lt y7_10 u34_4
 have m88 := (u34_5.keep u46_0 (ninS n87 nin0))
 have o86 := oByC (oBy1 ya ya) m88
 have n89 := oLn q0.lt E1.1 (oLe g2)
 have n90 := oLn q0.lt y0_3 (oLe g5)
 have n91 := oLz q0.lt (oLe g1)
 have n92 := oLn q0.lt y0_7 (oLe g22)
 have y0_9 := Nat.le_trans (Nat.le_trans y0_7 E22.1) u27_0.1
 have n93 := oLn q0.lt y0_9 (oLe g28)
 have y0_6 := Nat.le_trans (Nat.le_trans (Nat.le_trans y0_3 E5.1) u8_0.1) u20_0.1
 have n94 := oLn q0.lt y0_6 (oLe g21)
 have m95 := ((((((((((m3.keep u4_0 (ninS n89 nin0)).ext E5).keep u8_0 (ninS n90 nin0)).keep u20_0 (ninS n91 nin0)).ext E21).ext E22).keep u27_0 (ninS n92 nin0)).ext E28).keep u34_0 (ninS n93 nin0)).keep u46_0 (ninS n94 nin0))
 have n96 := oLn q1.lt y0_3 (oLe g5)
 have n97 := oLz q1.lt (oLe g1)
 have n98 := oLn q1.lt y0_7 (oLe g22)
 have n99 := oLn q1.lt y0_9 (oLe g28)
 have n100 := oLn q1.lt y0_6 (oLe g21)
 have m101 := ((((((((m7.keep u8_0 (ninS n96 nin0)).keep u20_0 (ninS n97 nin0)).ext E21).ext E22).keep u27_0 (ninS n98 nin0)).ext E28).keep u34_0 (ninS n99 nin0)).keep u46_0 (ninS n100 nin0))
 have n102 := oLn q2.lt y0_7 (oLe g22)
 have n103 := oLn q2.lt y0_9 (oLe g28)
 have n104 := oLn q2.lt y0_6 (oLe g21)
 have m105 := ((((m26.keep u27_0 (ninS n102 nin0)).ext E28).keep u34_0 (ninS n103 nin0)).keep u46_0 (ninS n104 nin0))
 have n106 := oLn q3.lt y0_9 (oLe g28)
 have n107 := oLn q3.lt y0_6 (oLe g21)
 have m108 := ((m33.keep u34_0 (ninS n106 nin0)).keep u46_0 (ninS n107 nin0))
 refine o_iload K X46 at_312 rfl rfl ?_
 refine o_iconst K X46 at_314 rfl (z := 2) rfl ?_
 refine o_iushr K X46 at_315 rfl (z := ((i5.toUInt32 >>> ((2 : Int32) &&& 31).toUInt32).toInt32)) rfl ?_
 refine o_bipush K X46 at_316 rfl (z := 7) rfl ?_
 refine o_iand K X46 at_318 rfl (z := (((i5.toUInt32 >>> ((2 : Int32) &&& 31).toUInt32).toInt32) &&& (7 : Int32))) rfl ?_
 refine o_istore K X46 at_319 rfl (L' := #[vI i0, vI i1, vI i2, vI i3, vI i4, vI i5, vI 2, vI 1, vI cp, vI cq, vI 1, vI 1, vR ar1, vR ar2, vR ar3, vR ar4, vR b1, vR b21, vI (((i5.toUInt32 >>> ((2 : Int32) &&& 31).toUInt32).toInt32) &&& (7 : Int32)), uS, uS, uS]) rfl ?_
 refine o_iload K X46 at_321 rfl rfl ?_
 refine o_iconst K X46 at_323 rfl (z := 5) rfl ?_
 by_cases c324_109 : (((i5.toUInt32 >>> ((2 : Int32) &&& 31).toUInt32).toInt32) &&& (7 : Int32)) = (5 : Int32)
 refine o_icmp_ne_f K X46 at_324 rfl c324_109 ?_
 refine o_aload K X46 at_327 rfl rfl rfl ?_
 refine o_aconst_null K X46 at_329 rfl ?_
 refine o_virtual K X46   (w112 hw) (w113 hw) (oNF (w115 hw)) (w115 hw) (w114 hw) (w11 hw) (w116 hw) (by decide) m47 (rm_eqnull l Z a0 hw b1 h46) (by decide) rfl (argsL := [.null]) rfl (lenOf pd16 rfl) (W := 0) rfl (by decide) (by decide) (by decide) at_330 rfl ?_
 intro v110 T110 h110 X110 U110
 obtain ⟨rfl, rfl⟩ := U110
 show oGoes pp ee bb ss Z T110 (mkF mm 333 _ [.int 0]) _ _ _
 refine o_if_ne_f K X110 at_333 rfl (by decide) ?_
 refine o_iconst K X110 at_336 rfl (z := 1) rfl ?_
 refine o_goto K X110 at_337 (by decide) (pc' := 341) (by decide) ?_
 refine o_ireturnN K X110 .boolean at_341 rfl (by simp) (z' := 1) (by decide) ?_ (by decide) (by decide)
 exact hQ _ _ rfl
 refine o_icmp_ne_t K X46 at_324 (by decide) (pc' := 342) (by decide) c324_109 ?_
 refine o_iload K X46 at_342 rfl rfl ?_
 refine o_bipush K X46 at_344 rfl (z := 6) rfl ?_
 by_cases c346_111 : (((i5.toUInt32 >>> ((2 : Int32) &&& 31).toUInt32).toInt32) &&& (7 : Int32)) = (6 : Int32)
 refine o_icmp_ne_f K X46 at_346 rfl c346_111 ?_
 refine o_aload K X46 at_349 rfl rfl rfl ?_
 refine o_new K X46 (w12 hw) (w13 hw) (w14 hw) at_351 rfl (by decide) (by decide) ?_
 intro T112 h112 b112 X112 g112 E112 A112 D112 G112
 have F112_coder : Fld Z h112 b112 z0 "coder" "B" (.int 0) := (D112 (Or.inr (w38 hw)) (ty := .byte) (by decide))
 have F112_value : Fld Z h112 b112 z0 "value" "[B" .null := (D112 (Or.inr (w40 hw)) (ty := (.array .byte)) (by decide))
 refine o_dup K X112 at_354 rfl rfl ?_
 refine o_aload K X112 at_355 rfl rfl rfl ?_
 have m113 := (m95.ext E112)
 refine o_special K X112 (y := (⟨z0, "<init>", "([C)V"⟩ : MethodName)) rfl (w15 hw) (w16 hw) (w14 hw) (w17 hw) (by decide) (rm_str_2 l Z a0 hw b112 ar1 kar1 cs ca cb h112 A112 F112_value F112_coder G112 m113 q21 q22 q9.2 q10.2) (by decide) rfl (argsL := [.ref ar1]) rfl (lenOf pd17 rfl) (W := 2) rfl (by decide) (by decide) (by decide) at_357 rfl ?_
 intro v114 T114 h114 X114 U114
 obtain ⟨vb_114, k_114, rfl, u114_0, u114_1, u114_2, u114_3, u114_4, u114_5⟩ := U114
 have G114_vb : Z.heap.size ≤ vb_114 := Nat.le_trans X112.ext0.1 u114_4
 show oGoes pp ee bb ss Z T114 (mkF mm 360 _ [.ref b112, .ref b1]) _ _ _
 have m115 := ((m47.ext E112).keep u114_0)
 refine o_virtual K X114   (w112 hw) (w113 hw) (oNF (w115 hw)) (w115 hw) (w114 hw) (w11 hw) (w116 hw) (by decide) m115 (rm_eqstr l Z a0 hw b1 b112 h114 u114_1) (by decide) rfl (argsL := [.ref b112]) rfl (lenOf pd16 rfl) (W := 0) rfl (by decide) (by decide) (by decide) at_360 rfl ?_
 intro v116 T116 h116 X116 U116
 obtain ⟨rfl, rfl⟩ := U116
 show oGoes pp ee bb ss Z T116 (mkF mm 363 _ [.int 0]) _ _ _
 refine o_if_ne_f K X116 at_363 rfl (by decide) ?_
 refine o_iconst K X116 at_366 rfl (z := 1) rfl ?_
 refine o_goto K X116 at_367 (by decide) (pc' := 371) (by decide) ?_
 refine o_ireturnN K X116 .boolean at_371 rfl (by simp) (z' := 1) (by decide) ?_ (by decide) (by decide)
 exact hQ _ _ rfl
 refine o_icmp_ne_t K X46 at_346 (by decide) (pc' := 372) (by decide) c346_111 ?_
 refine o_iload K X46 at_372 rfl rfl ?_
 refine o_bipush K X46 at_374 rfl (z := 7) rfl ?_
 by_cases c376_117 : (((i5.toUInt32 >>> ((2 : Int32) &&& 31).toUInt32).toInt32) &&& (7 : Int32)) = (7 : Int32)
 refine o_icmp_ne_f K X46 at_376 rfl c376_117 ?_
 refine o_aload K X46 at_379 rfl rfl rfl ?_
 refine o_aload K X46 at_381 rfl rfl rfl ?_
 refine o_virtual K X46   (w112 hw) (w113 hw) (oNF (w115 hw)) (w115 hw) (w114 hw) (w11 hw) (w116 hw) (by decide) m47 (rm_eqself l Z a0 hw b1 b2 b5 h46 m47 m51 m64 m52 m65) (by decide) rfl (argsL := [.ref b1]) rfl (lenOf pd16 rfl) (W := 0) rfl (by decide) (by decide) (by decide) at_383 rfl ?_
 intro v118 T118 h118 X118 U118
 obtain ⟨rfl, rfl⟩ := U118
 show oGoes pp ee bb ss Z T118 (mkF mm 386 _ [.int 1]) _ _ _
 refine o_ireturnN K X118 .boolean at_386 rfl (by simp) (z' := 1) (by decide) ?_ (by decide) (by decide)
 exact hQ _ _ rfl
 refine o_icmp_ne_t K X46 at_376 (by decide) (pc' := 387) (by decide) c376_117 ?_
 refine o_iload K X46 at_387 rfl rfl ?_
 refine o_iload K X46 at_389 rfl rfl ?_
 refine o_icmp_ne_t K X46 at_391 (by decide) (pc' := 426) (by decide) (by decide) ?_
 refine o_iconst K X46 at_426 rfl (z := 0) rfl ?_
 refine o_istore K X46 at_427 rfl (L' := #[vI i0, vI i1, vI i2, vI i3, vI i4, vI i5, vI 2, vI 1, vI cp, vI cq, vI 1, vI 1, vR ar1, vR ar2, vR ar3, vR ar4, vR b1, vR b21, vI (((i5.toUInt32 >>> ((2 : Int32) &&& 31).toUInt32).toInt32) &&& (7 : Int32)), vI 0, uS, uS]) rfl ?_
 refine o_iload K X46 at_429 rfl rfl ?_
 refine o_iload K X46 at_431 rfl rfl ?_
 refine o_icmp_ne_f K X46 at_433 rfl (by decide) ?_
 refine o_aload K X46 at_436 rfl rfl rfl ?_
 refine o_iconst K X46 at_438 rfl (z := 0) rfl ?_
 refine o_caload K X46 m101 (by decide) (v := (.int da)) rfl at_439 rfl ?_
 refine o_aload K X46 at_440 rfl rfl rfl ?_
 refine o_iconst K X46 at_442 rfl (z := 0) rfl ?_
 refine o_caload K X46 m108 (by decide) (v := (.int ya)) rfl at_443 rfl ?_
 by_cases c444_119 : da = ya
 refine o_icmp_ne_f K X46 at_444 rfl c444_119 ?_
 refine o_iload K X46 at_447 rfl rfl ?_
 refine o_iconst K X46 at_449 rfl (z := 1) rfl ?_
 refine o_icmp_eq_t K X46 at_450 (by decide) (pc' := 464) (by decide) (by decide) ?_
 refine o_iconst K X46 at_464 rfl (z := 1) rfl ?_
 refine o_goto K X46 at_465 (by decide) (pc' := 469) (by decide) ?_
 refine o_istore K X46 at_469 rfl (L' := #[vI i0, vI i1, vI i2, vI i3, vI i4, vI i5, vI 2, vI 1, vI cp, vI cq, vI 1, vI 1, vR ar1, vR ar2, vR ar3, vR ar4, vR b1, vR b21, vI (((i5.toUInt32 >>> ((2 : Int32) &&& 31).toUInt32).toInt32) &&& (7 : Int32)), vI 0, vI 1, uS]) rfl ?_
 refine tl_lw3 l Z a0 hw i0 i1 i2 i3 i4 i5 cp cq (((i5.toUInt32 >>> ((2 : Int32) &&& 31).toUInt32).toInt32) &&& (7 : Int32)) 0 1 ar1 ar2 ar3 ar4 b1 b21 b2 vb_4 k_4 b5 vb_8 k_8 b22 vb_27 k_27 b28 vb_34 k_34 2 1 1 1 ca cb da da ua ua ya ya cs h46 (by simp +decide [oSm, c444_119]) (by simp +decide [oSm, c444_119]) m47 m51 m64 u46_1 u46_2 u46_3 m52 m56 m57 o58 m65 m69 m70 o71 m77 m78 m79 o80 m83 m84 m85 o86 (by decide) (by decide) (by decide) (by decide) q9 q10 q11 q11 q12 q12 q13 q13 n53 n67 q21 q22 (fun v120 h120 U120 => ?_) K (X46.mono (by decide) (by decide))
 obtain rfl : v120 = some (.int 1) := U120
 exact hQ _ _ rfl
 refine o_icmp_ne_t K X46 at_444 (by decide) (pc' := 468) (by decide) c444_119 ?_
 refine o_iconst K X46 at_468 rfl (z := 0) rfl ?_
 refine o_istore K X46 at_469 rfl (L' := #[vI i0, vI i1, vI i2, vI i3, vI i4, vI i5, vI 2, vI 1, vI cp, vI cq, vI 1, vI 1, vR ar1, vR ar2, vR ar3, vR ar4, vR b1, vR b21, vI (((i5.toUInt32 >>> ((2 : Int32) &&& 31).toUInt32).toInt32) &&& (7 : Int32)), vI 0, vI 0, uS]) rfl ?_
 refine tl_lw3 l Z a0 hw i0 i1 i2 i3 i4 i5 cp cq (((i5.toUInt32 >>> ((2 : Int32) &&& 31).toUInt32).toInt32) &&& (7 : Int32)) 0 0 ar1 ar2 ar3 ar4 b1 b21 b2 vb_4 k_4 b5 vb_8 k_8 b22 vb_27 k_27 b28 vb_34 k_34 2 1 1 1 ca cb da da ua ua ya ya cs h46 (by simp +decide [oSm, c444_119]) (by simp +decide [oSm, c444_119]) m47 m51 m64 u46_1 u46_2 u46_3 m52 m56 m57 o58 m65 m69 m70 o71 m77 m78 m79 o80 m83 m84 m85 o86 (by decide) (by decide) (by decide) (by decide) q9 q10 q11 q11 q12 q12 q13 q13 n53 n67 q21 q22 (fun v121 h121 U121 => ?_) K (X46.mono (by decide) (by decide))
 obtain rfl : v121 = some (.int 1) := U121
 exact hQ _ _ rfl
def Q_t258_2112 (Z : State) (i0 i1 i2 i3 i4 i5 cp cq : Int32) (ar1 : Addr) (kar1 : ClassId) (ar2 : Addr) (kar2 : ClassId) (ar3 : Addr) (kar3 : ClassId) (ar4 : Addr) (kar4 : ClassId) (ca cb da ua ya yb : Int32) (fm : Value) (cs : Int32) (h0 : Heap) (v : Option Value) (h : Heap) : Prop := v = some (.int 1)
theorem tl_t258_2112 (l : Launch) (Z : State) (a0 : Array Value) (hw : oHw Z a0) (i0 i1 i2 i3 i4 i5 cp cq : Int32) (ar1 : Addr) (kar1 : ClassId) (ar2 : Addr) (kar2 : ClassId) (ar3 : Addr) (kar3 : ClassId) (ar4 : Addr) (kar4 : ClassId) (ca cb da ua ya yb : Int32) (fm : Value) (cs : Int32) (h0 : Heap) (q0 : oArr Z h0 ar1 kar1 .char [.int ca, .int cb]) (q1 : oArr Z h0 ar2 kar2 .char [.int da]) (q2 : oArr Z h0 ar3 kar3 .char [.int ua]) (q3 : oArr Z h0 ar4 kar4 .char [.int ya, .int yb]) (q4 : oSh ca) (q5 : oSh cb) (q6 : oId da) (q7 : oSh ua) (q8 : oId ya) (q9 : oId yb) (q10 : oCh ca) (q11 : oCh cb) (q12 : oCh da) (q13 : oCh ua) (q14 : oCh ya) (q15 : oCh yb) (q16 : nar .char ca = ca) (q17 : nar .char cb = cb) (q18 : nar .char da = da) (q19 : nar .char ua = ua) (q20 : nar .char ya = ya) (q21 : nar .char yb = yb) (q22 : Sta Z Z.heap z3 z5 z6 fm) (q23 : fm.isRef = true) (q24 : Sta Z Z.heap z0 z4 "Z" (.int cs)) (q25 : ¬ (cs = (0 : Int32))) {Q : Option Value → Heap → Prop} (hQ : ∀ v h, Q_t258_2112 Z i0 i1 i2 i3 i4 i5 cp cq ar1 kar1 ar2 kar2 ar3 kar3 ar4 kar4 ca cb da ua ya yb fm cs h0 v h → Q v h) {pp : Program} {ee : Env} {ss : State} {mm : MethodId} {bb : List Frame} {mtd : Method} {cc : Code} {A : Array Value} {T0 : State} (K : oCtx pp ss mm mtd cc Z z7 code maxLocals "law" ret x) (X0 : oSt pp l ee room_1 ss mm A bb mtd cc Z T0 h0 4 8) : oGoes pp ee bb ss Z T0 (mkF mm 258 #[vI i0, vI i1, vI i2, vI i3, vI i4, vI i5, vI 2, vI 1, vI cp, vI cq, vI 1, vI 2, vR ar1, vR ar2, vR ar3, vR ar4, uS, uS, uS, uS, uS, uS] []) Q room_1.cells room_1.slots := by
 have E0 := X0.ext0
 refine o_new K X0 (w9 hw) (w10 hw) (w11 hw) at_258 rfl (by decide) (by decide) ?_
 intro T1 h1 b1 X1 g1 E1 A1 D1 G1
 have F1_shelf : Fld Z h1 b1 z1 "shelf" z2 .null := (D1 (Or.inr (w109 hw)) (ty := (.object z0)) (by decide))
 have F1_id : Fld Z h1 b1 z1 "id" z2 .null := (D1 (Or.inr (w111 hw)) (ty := (.object z0)) (by decide))
 refine o_dup K X1 at_261 rfl rfl ?_
 refine o_new K X1 (w12 hw) (w13 hw) (w14 hw) at_262 rfl (by decide) (by decide) ?_
 intro T2 h2 b2 X2 g2 E2 A2 D2 G2
 have F2_coder : Fld Z h2 b2 z0 "coder" "B" (.int 0) := (D2 (Or.inr (w38 hw)) (ty := .byte) (by decide))
 have F2_value : Fld Z h2 b2 z0 "value" "[B" .null := (D2 (Or.inr (w40 hw)) (ty := (.array .byte)) (by decide))
 refine o_dup K X2 at_265 rfl rfl ?_
 refine o_aload K X2 at_266 rfl rfl rfl ?_
 have m3 := ((q0.ext E1).ext E2)
 refine o_special K X2 (y := (⟨z0, "<init>", "([C)V"⟩ : MethodName)) rfl (w15 hw) (w16 hw) (w14 hw) (w17 hw) (by decide) (rm_str_2 l Z a0 hw b2 ar1 kar1 cs ca cb h2 A2 F2_value F2_coder G2 m3 q24 q25 q10.2 q11.2) (by decide) rfl (argsL := [.ref ar1]) rfl (lenOf pd17 rfl) (W := 3) rfl (by decide) (by decide) (by decide) at_268 rfl ?_
 intro v4 T4 h4 X4 U4
 obtain ⟨vb_4, k_4, rfl, u4_0, u4_1, u4_2, u4_3, u4_4, u4_5⟩ := U4
 have G4_vb : Z.heap.size ≤ vb_4 := Nat.le_trans X2.ext0.1 u4_4
 show oGoes pp ee bb ss Z T4 (mkF mm 271 _ [.ref b2, .ref b1, .ref b1]) _ _ _
 refine o_new K X4 (w12 hw) (w13 hw) (w14 hw) at_271 rfl (by decide) (by decide) ?_
 intro T5 h5 b5 X5 g5 E5 A5 D5 G5
 have F5_coder : Fld Z h5 b5 z0 "coder" "B" (.int 0) := (D5 (Or.inr (w38 hw)) (ty := .byte) (by decide))
 have F5_value : Fld Z h5 b5 z0 "value" "[B" .null := (D5 (Or.inr (w40 hw)) (ty := (.array .byte)) (by decide))
 refine o_dup K X5 at_274 rfl rfl ?_
 refine o_aload K X5 at_275 rfl rfl rfl ?_
 have n6 := oLn q1.lt E1.1 (oLe g2)
 have m7 := ((((q1.ext E1).ext E2).keep u4_0 (ninS n6 nin0)).ext E5)
 refine o_special K X5 (y := (⟨z0, "<init>", "([C)V"⟩ : MethodName)) rfl (w15 hw) (w16 hw) (w14 hw) (w17 hw) (by decide) (rm_str_1 l Z a0 hw b5 ar2 kar2 cs da h5 A5 F5_value F5_coder G5 m7 q24 q25 q12.2) (by decide) rfl (argsL := [.ref ar2]) rfl (lenOf pd17 rfl) (W := 4) rfl (by decide) (by decide) (by decide) at_277 rfl ?_
 intro v8 T8 h8 X8 U8
 obtain ⟨vb_8, k_8, rfl, u8_0, u8_1, u8_2, u8_3, u8_4, u8_5⟩ := U8
 have G8_vb : Z.heap.size ≤ vb_8 := Nat.le_trans X5.ext0.1 u8_4
 show oGoes pp ee bb ss Z T8 (mkF mm 280 _ [.ref b5, .ref b2, .ref b1, .ref b1]) _ _ _
 have m9 := ((((A1.ext E2).keep u4_0).ext E5).keep u8_0)
 have n10 := oLz A1.lt (oLe g2)
 have n11 := oLn A1.lt (Nat.le_trans E2.1 u4_0.1) (oLe g5)
 have m12 := ((((F1_shelf.ext E2).keep u4_0 (ninS n10 nin0)).ext E5).keep u8_0 (ninS n11 nin0))
 have m13 := ((((F1_id.ext E2).keep u4_0 (ninS n10 nin0)).ext E5).keep u8_0 (ninS n11 nin0))
 have m14 := ((u4_1.ext E5).keep u8_0)
 have n15 := oLn A2.lt u4_0.1 (oLe g5)
 have m16 := ((u4_2.ext E5).keep u8_0 (ninS n15 nin0))
 have m17 := ((u4_3.ext E5).keep u8_0 (ninS n15 nin0))
 have n18 := oLz u4_5.lt (oLe g5)
 have m19 := ((u4_5.ext E5).keep u8_0 (ninS n18 nin0))
 refine o_special K X8 (y := (⟨z1, "<init>", z8⟩ : MethodName)) rfl (w41 hw) (w42 hw) (w11 hw) (w43 hw) (by decide) (rm_rk21 l Z a0 hw b1 b2 vb_4 k_4 b5 vb_8 k_8 ca cb da fm cs h8 m9 G1 m12 m13 m14 m16 m17 m19 u8_1 u8_2 u8_3 u8_5 q4 q5 q6 q10 q11 q12 q22 q23 q24 q25) (by decide) rfl (argsL := [.ref b2, .ref b5]) rfl (lenOf pd18 rfl) (W := 1) rfl (by decide) (by decide) (by decide) at_280 rfl ?_
 intro v20 T20 h20 X20 U20
 obtain ⟨rfl, u20_0, u20_1, u20_2, u20_3⟩ := U20
 show oGoes pp ee bb ss Z T20 (mkF mm 283 _ [.ref b1]) _ _ _
 refine o_astore K X20 at_283 rfl rfl (L' := #[vI i0, vI i1, vI i2, vI i3, vI i4, vI i5, vI 2, vI 1, vI cp, vI cq, vI 1, vI 2, vR ar1, vR ar2, vR ar3, vR ar4, vR b1, uS, uS, uS, uS, uS]) rfl ?_
 refine o_new K X20 (w9 hw) (w10 hw) (w11 hw) at_285 rfl (by decide) (by decide) ?_
 intro T21 h21 b21 X21 g21 E21 A21 D21 G21
 have F21_shelf : Fld Z h21 b21 z1 "shelf" z2 .null := (D21 (Or.inr (w109 hw)) (ty := (.object z0)) (by decide))
 have F21_id : Fld Z h21 b21 z1 "id" z2 .null := (D21 (Or.inr (w111 hw)) (ty := (.object z0)) (by decide))
 refine o_dup K X21 at_288 rfl rfl ?_
 refine o_new K X21 (w12 hw) (w13 hw) (w14 hw) at_289 rfl (by decide) (by decide) ?_
 intro T22 h22 b22 X22 g22 E22 A22 D22 G22
 have F22_coder : Fld Z h22 b22 z0 "coder" "B" (.int 0) := (D22 (Or.inr (w38 hw)) (ty := .byte) (by decide))
 have F22_value : Fld Z h22 b22 z0 "value" "[B" .null := (D22 (Or.inr (w40 hw)) (ty := (.array .byte)) (by decide))
 refine o_dup K X22 at_292 rfl rfl ?_
 refine o_aload K X22 at_293 rfl rfl rfl ?_
 have n23 := oLn q2.lt E1.1 (oLe g2)
 have y0_3 := Nat.le_trans (Nat.le_trans E1.1 E2.1) u4_0.1
 have n24 := oLn q2.lt y0_3 (oLe g5)
 have n25 := oLz q2.lt (oLe g1)
 have m26 := ((((((((q2.ext E1).ext E2).keep u4_0 (ninS n23 nin0)).ext E5).keep u8_0 (ninS n24 nin0)).keep u20_0 (ninS n25 nin0)).ext E21).ext E22)
 refine o_special K X22 (y := (⟨z0, "<init>", "([C)V"⟩ : MethodName)) rfl (w15 hw) (w16 hw) (w14 hw) (w17 hw) (by decide) (rm_str_1 l Z a0 hw b22 ar3 kar3 cs ua h22 A22 F22_value F22_coder G22 m26 q24 q25 q13.2) (by decide) rfl (argsL := [.ref ar3]) rfl (lenOf pd17 rfl) (W := 3) rfl (by decide) (by decide) (by decide) at_295 rfl ?_
 intro v27 T27 h27 X27 U27
 obtain ⟨vb_27, k_27, rfl, u27_0, u27_1, u27_2, u27_3, u27_4, u27_5⟩ := U27
 have G27_vb : Z.heap.size ≤ vb_27 := Nat.le_trans X22.ext0.1 u27_4
 show oGoes pp ee bb ss Z T27 (mkF mm 298 _ [.ref b22, .ref b21, .ref b21]) _ _ _
 refine o_new K X27 (w12 hw) (w13 hw) (w14 hw) at_298 rfl (by decide) (by decide) ?_
 intro T28 h28 b28 X28 g28 E28 A28 D28 G28
 have F28_coder : Fld Z h28 b28 z0 "coder" "B" (.int 0) := (D28 (Or.inr (w38 hw)) (ty := .byte) (by decide))
 have F28_value : Fld Z h28 b28 z0 "value" "[B" .null := (D28 (Or.inr (w40 hw)) (ty := (.array .byte)) (by decide))
 refine o_dup K X28 at_301 rfl rfl ?_
 refine o_aload K X28 at_302 rfl rfl rfl ?_
 have n29 := oLn q3.lt E1.1 (oLe g2)
 have n30 := oLn q3.lt y0_3 (oLe g5)
 have n31 := oLz q3.lt (oLe g1)
 have y0_7 := Nat.le_trans (Nat.le_trans (Nat.le_trans (Nat.le_trans y0_3 E5.1) u8_0.1) u20_0.1) E21.1
 have n32 := oLn q3.lt y0_7 (oLe g22)
 have m33 := ((((((((((q3.ext E1).ext E2).keep u4_0 (ninS n29 nin0)).ext E5).keep u8_0 (ninS n30 nin0)).keep u20_0 (ninS n31 nin0)).ext E21).ext E22).keep u27_0 (ninS n32 nin0)).ext E28)
 refine o_special K X28 (y := (⟨z0, "<init>", "([C)V"⟩ : MethodName)) rfl (w15 hw) (w16 hw) (w14 hw) (w17 hw) (by decide) (rm_str_2 l Z a0 hw b28 ar4 kar4 cs ya yb h28 A28 F28_value F28_coder G28 m33 q24 q25 q14.2 q15.2) (by decide) rfl (argsL := [.ref ar4]) rfl (lenOf pd17 rfl) (W := 4) rfl (by decide) (by decide) (by decide) at_304 rfl ?_
 intro v34 T34 h34 X34 U34
 obtain ⟨vb_34, k_34, rfl, u34_0, u34_1, u34_2, u34_3, u34_4, u34_5⟩ := U34
 have G34_vb : Z.heap.size ≤ vb_34 := Nat.le_trans X28.ext0.1 u34_4
 show oGoes pp ee bb ss Z T34 (mkF mm 307 _ [.ref b28, .ref b22, .ref b21, .ref b21]) _ _ _
 have m35 := ((((A21.ext E22).keep u27_0).ext E28).keep u34_0)
 have n36 := oLz A21.lt (oLe g22)
 have n37 := oLn A21.lt (Nat.le_trans E22.1 u27_0.1) (oLe g28)
 have m38 := ((((F21_shelf.ext E22).keep u27_0 (ninS n36 nin0)).ext E28).keep u34_0 (ninS n37 nin0))
 have m39 := ((((F21_id.ext E22).keep u27_0 (ninS n36 nin0)).ext E28).keep u34_0 (ninS n37 nin0))
 have m40 := ((u27_1.ext E28).keep u34_0)
 have n41 := oLn A22.lt u27_0.1 (oLe g28)
 have m42 := ((u27_2.ext E28).keep u34_0 (ninS n41 nin0))
 have m43 := ((u27_3.ext E28).keep u34_0 (ninS n41 nin0))
 have n44 := oLz u27_5.lt (oLe g28)
 have m45 := ((u27_5.ext E28).keep u34_0 (ninS n44 nin0))
 refine o_special K X34 (y := (⟨z1, "<init>", z8⟩ : MethodName)) rfl (w41 hw) (w42 hw) (w11 hw) (w43 hw) (by decide) (rm_rk12 l Z a0 hw b21 b22 vb_27 k_27 b28 vb_34 k_34 ua ya yb fm cs h34 m35 G21 m38 m39 m40 m42 m43 m45 u34_1 u34_2 u34_3 u34_5 q7 q8 q9 q13 q14 q15 q22 q23 q24 q25) (by decide) rfl (argsL := [.ref b22, .ref b28]) rfl (lenOf pd18 rfl) (W := 1) rfl (by decide) (by decide) (by decide) at_307 rfl ?_
 intro v46 T46 h46 X46 U46
 obtain ⟨rfl, u46_0, u46_1, u46_2, u46_3⟩ := U46
 show oGoes pp ee bb ss Z T46 (mkF mm 310 _ [.ref b21]) _ _ _
 refine o_astore K X46 at_310 rfl rfl (L' := #[vI i0, vI i1, vI i2, vI i3, vI i4, vI i5, vI 2, vI 1, vI cp, vI cq, vI 1, vI 2, vR ar1, vR ar2, vR ar3, vR ar4, vR b1, vR b21, uS, uS, uS, uS]) rfl ?_
 have m47 := ((((((u20_1.ext E21).ext E22).keep u27_0).ext E28).keep u34_0).keep u46_0)
 have y1_7 := Nat.le_trans (Nat.le_trans (Nat.le_trans (Nat.le_trans (Nat.le_trans E2.1 u4_0.1) E5.1) u8_0.1) u20_0.1) E21.1
 have n48 := oLn A1.lt y1_7 (oLe g22)
 have y1_9 := Nat.le_trans (Nat.le_trans y1_7 E22.1) u27_0.1
 have n49 := oLn A1.lt y1_9 (oLe g28)
 have y1_6 := Nat.le_trans (Nat.le_trans (Nat.le_trans (Nat.le_trans E2.1 u4_0.1) E5.1) u8_0.1) u20_0.1
 have n50 := oLn A1.lt y1_6 (oLe g21)
 have m51 := ((((((u20_2.ext E21).ext E22).keep u27_0 (ninS n48 nin0)).ext E28).keep u34_0 (ninS n49 nin0)).keep u46_0 (ninS n50 nin0))
 have m52 := (((((((m14.keep u20_0).ext E21).ext E22).keep u27_0).ext E28).keep u34_0).keep u46_0)
 have y2_7 := Nat.le_trans (Nat.le_trans (Nat.le_trans (Nat.le_trans u4_0.1 E5.1) u8_0.1) u20_0.1) E21.1
 have n53 := oLn A2.lt y2_7 (oLe g22)
 have y2_9 := Nat.le_trans (Nat.le_trans y2_7 E22.1) u27_0.1
 have n54 := oLn A2.lt y2_9 (oLe g28)
 have y2_6 := Nat.le_trans (Nat.le_trans (Nat.le_trans u4_0.1 E5.1) u8_0.1) u20_0.1
 have n55 := oLn A2.lt y2_6 (oLe g21)
 have m56 := (((((((m16.keep u20_0 (ninS (Ne.symm n10) nin0)).ext E21).ext E22).keep u27_0 (ninS n53 nin0)).ext E28).keep u34_0 (ninS n54 nin0)).keep u46_0 (ninS n55 nin0))
 have m57 := (((((((m17.keep u20_0 (ninS (Ne.symm n10) nin0)).ext E21).ext E22).keep u27_0 (ninS n53 nin0)).ext E28).keep u34_0 (ninS n54 nin0)).keep u46_0 (ninS n55 nin0))
 have n59 := oLsn A1.lt E2.1 u4_4
 have y3_7 := Nat.le_trans (Nat.le_trans (Nat.le_trans E5.1 u8_0.1) u20_0.1) E21.1
 have n60 := oLn u4_5.lt y3_7 (oLe g22)
 have y3_9 := Nat.le_trans (Nat.le_trans y3_7 E22.1) u27_0.1
 have n61 := oLn u4_5.lt y3_9 (oLe g28)
 have y3_6 := Nat.le_trans (Nat.le_trans E5.1 u8_0.1) u20_0.1
 have n62 := oLn u4_5.lt y3_6 (oLe g21)
 have m63 := (((((((m19.keep u20_0 (ninS n59 nin0)).ext E21).ext E22).keep u27_0 (ninS n60 nin0)).ext E28).keep u34_0 (ninS n61 nin0)).keep u46_0 (ninS n62 nin0))
 have o58 := oByC (oBy2 ca cb) m63
 have m64 := ((((((u20_3.ext E21).ext E22).keep u27_0 (ninS n48 nin0)).ext E28).keep u34_0 (ninS n49 nin0)).keep u46_0 (ninS n50 nin0))
 have m65 := (((((((u8_1.keep u20_0).ext E21).ext E22).keep u27_0).ext E28).keep u34_0).keep u46_0)
 have y4_7 := Nat.le_trans (Nat.le_trans u8_0.1 u20_0.1) E21.1
 have n66 := oLn A5.lt y4_7 (oLe g22)
 have y4_9 := Nat.le_trans (Nat.le_trans y4_7 E22.1) u27_0.1
 have n67 := oLn A5.lt y4_9 (oLe g28)
 have n68 := oLn A5.lt (Nat.le_trans u8_0.1 u20_0.1) (oLe g21)
 have m69 := (((((((u8_2.keep u20_0 (ninS (Ne.symm n11) nin0)).ext E21).ext E22).keep u27_0 (ninS n66 nin0)).ext E28).keep u34_0 (ninS n67 nin0)).keep u46_0 (ninS n68 nin0))
 have m70 := (((((((u8_3.keep u20_0 (ninS (Ne.symm n11) nin0)).ext E21).ext E22).keep u27_0 (ninS n66 nin0)).ext E28).keep u34_0 (ninS n67 nin0)).keep u46_0 (ninS n68 nin0))
 have y1_4 := Nat.le_trans (Nat.le_trans E2.1 u4_0.1) E5.1
 have n72 := oLsn A1.lt y1_4 u8_4
 have n73 := oLn u8_5.lt (Nat.le_trans u20_0.1 E21.1) (oLe g22)
 have y5_9 := Nat.le_trans (Nat.le_trans (Nat.le_trans u20_0.1 E21.1) E22.1) u27_0.1
 have n74 := oLn u8_5.lt y5_9 (oLe g28)
 have n75 := oLn u8_5.lt u20_0.1 (oLe g21)
 have m76 := (((((((u8_5.keep u20_0 (ninS n72 nin0)).ext E21).ext E22).keep u27_0 (ninS n73 nin0)).ext E28).keep u34_0 (ninS n74 nin0)).keep u46_0 (ninS n75 nin0))
 have o71 := oByC (oBy1 da da) m76
 have m77 := (m40.keep u46_0)
 have m78 := (m42.keep u46_0 (ninS (Ne.symm n36) nin0))
 have m79 := (m43.keep u46_0 (ninS (Ne.symm n36) nin0))
 have n81 := oLsn A21.lt E22.1 u27_4
 have m82 := (m45.keep u46_0 (ninS n81 nin0))
 have o80 := oByC (oBy1 ua ua) m82
 have m83 := (u34_1.keep u46_0)
 have m84 := (u34_2.keep u46_0 (ninS (Ne.symm n37) nin0))
 have m85 := (u34_3.keep u46_0 (ninS (Ne.symm n37) nin0))
 have y7_10 := Nat.le_trans (Nat.le_trans E22.1 u27_0.1) E28.1
 have n87 := oLsn A21.lt y7_10 u34_4
 have m88 := (u34_5.keep u46_0 (ninS n87 nin0))
 have o86 := oByC (oBy2 ya yb) m88
 have n89 := oLn q0.lt E1.1 (oLe g2)
 have n90 := oLn q0.lt y0_3 (oLe g5)
 have n91 := oLz q0.lt (oLe g1)
 have n92 := oLn q0.lt y0_7 (oLe g22)
 have y0_9 := Nat.le_trans (Nat.le_trans y0_7 E22.1) u27_0.1
 have n93 := oLn q0.lt y0_9 (oLe g28)
 have y0_6 := Nat.le_trans (Nat.le_trans (Nat.le_trans y0_3 E5.1) u8_0.1) u20_0.1
 have n94 := oLn q0.lt y0_6 (oLe g21)
 have m95 := ((((((((((m3.keep u4_0 (ninS n89 nin0)).ext E5).keep u8_0 (ninS n90 nin0)).keep u20_0 (ninS n91 nin0)).ext E21).ext E22).keep u27_0 (ninS n92 nin0)).ext E28).keep u34_0 (ninS n93 nin0)).keep u46_0 (ninS n94 nin0))
 have n96 := oLn q1.lt y0_3 (oLe g5)
 have n97 := oLz q1.lt (oLe g1)
 have n98 := oLn q1.lt y0_7 (oLe g22)
 have n99 := oLn q1.lt y0_9 (oLe g28)
 have n100 := oLn q1.lt y0_6 (oLe g21)
 have m101 := ((((((((m7.keep u8_0 (ninS n96 nin0)).keep u20_0 (ninS n97 nin0)).ext E21).ext E22).keep u27_0 (ninS n98 nin0)).ext E28).keep u34_0 (ninS n99 nin0)).keep u46_0 (ninS n100 nin0))
 have n102 := oLn q2.lt y0_7 (oLe g22)
 have n103 := oLn q2.lt y0_9 (oLe g28)
 have n104 := oLn q2.lt y0_6 (oLe g21)
 have m105 := ((((m26.keep u27_0 (ninS n102 nin0)).ext E28).keep u34_0 (ninS n103 nin0)).keep u46_0 (ninS n104 nin0))
 have n106 := oLn q3.lt y0_9 (oLe g28)
 have n107 := oLn q3.lt y0_6 (oLe g21)
 have m108 := ((m33.keep u34_0 (ninS n106 nin0)).keep u46_0 (ninS n107 nin0))
 refine o_iload K X46 at_312 rfl rfl ?_
 refine o_iconst K X46 at_314 rfl (z := 2) rfl ?_
 refine o_iushr K X46 at_315 rfl (z := ((i5.toUInt32 >>> ((2 : Int32) &&& 31).toUInt32).toInt32)) rfl ?_
 refine o_bipush K X46 at_316 rfl (z := 7) rfl ?_
 refine o_iand K X46 at_318 rfl (z := (((i5.toUInt32 >>> ((2 : Int32) &&& 31).toUInt32).toInt32) &&& (7 : Int32))) rfl ?_
 refine o_istore K X46 at_319 rfl (L' := #[vI i0, vI i1, vI i2, vI i3, vI i4, vI i5, vI 2, vI 1, vI cp, vI cq, vI 1, vI 2, vR ar1, vR ar2, vR ar3, vR ar4, vR b1, vR b21, vI (((i5.toUInt32 >>> ((2 : Int32) &&& 31).toUInt32).toInt32) &&& (7 : Int32)), uS, uS, uS]) rfl ?_
 refine o_iload K X46 at_321 rfl rfl ?_
 refine o_iconst K X46 at_323 rfl (z := 5) rfl ?_
 by_cases c324_109 : (((i5.toUInt32 >>> ((2 : Int32) &&& 31).toUInt32).toInt32) &&& (7 : Int32)) = (5 : Int32)
 refine o_icmp_ne_f K X46 at_324 rfl c324_109 ?_
 refine o_aload K X46 at_327 rfl rfl rfl ?_
 refine o_aconst_null K X46 at_329 rfl ?_
 refine o_virtual K X46   (w112 hw) (w113 hw) (oNF (w115 hw)) (w115 hw) (w114 hw) (w11 hw) (w116 hw) (by decide) m47 (rm_eqnull l Z a0 hw b1 h46) (by decide) rfl (argsL := [.null]) rfl (lenOf pd16 rfl) (W := 0) rfl (by decide) (by decide) (by decide) at_330 rfl ?_
 intro v110 T110 h110 X110 U110
 obtain ⟨rfl, rfl⟩ := U110
 show oGoes pp ee bb ss Z T110 (mkF mm 333 _ [.int 0]) _ _ _
 refine o_if_ne_f K X110 at_333 rfl (by decide) ?_
 refine o_iconst K X110 at_336 rfl (z := 1) rfl ?_
 refine o_goto K X110 at_337 (by decide) (pc' := 341) (by decide) ?_
 refine o_ireturnN K X110 .boolean at_341 rfl (by simp) (z' := 1) (by decide) ?_ (by decide) (by decide)
 exact hQ _ _ rfl
 refine o_icmp_ne_t K X46 at_324 (by decide) (pc' := 342) (by decide) c324_109 ?_
 refine o_iload K X46 at_342 rfl rfl ?_
 refine o_bipush K X46 at_344 rfl (z := 6) rfl ?_
 by_cases c346_111 : (((i5.toUInt32 >>> ((2 : Int32) &&& 31).toUInt32).toInt32) &&& (7 : Int32)) = (6 : Int32)
 refine o_icmp_ne_f K X46 at_346 rfl c346_111 ?_
 refine o_aload K X46 at_349 rfl rfl rfl ?_
 refine o_new K X46 (w12 hw) (w13 hw) (w14 hw) at_351 rfl (by decide) (by decide) ?_
 intro T112 h112 b112 X112 g112 E112 A112 D112 G112
 have F112_coder : Fld Z h112 b112 z0 "coder" "B" (.int 0) := (D112 (Or.inr (w38 hw)) (ty := .byte) (by decide))
 have F112_value : Fld Z h112 b112 z0 "value" "[B" .null := (D112 (Or.inr (w40 hw)) (ty := (.array .byte)) (by decide))
 refine o_dup K X112 at_354 rfl rfl ?_
 refine o_aload K X112 at_355 rfl rfl rfl ?_
 have m113 := (m95.ext E112)
 refine o_special K X112 (y := (⟨z0, "<init>", "([C)V"⟩ : MethodName)) rfl (w15 hw) (w16 hw) (w14 hw) (w17 hw) (by decide) (rm_str_2 l Z a0 hw b112 ar1 kar1 cs ca cb h112 A112 F112_value F112_coder G112 m113 q24 q25 q10.2 q11.2) (by decide) rfl (argsL := [.ref ar1]) rfl (lenOf pd17 rfl) (W := 2) rfl (by decide) (by decide) (by decide) at_357 rfl ?_
 intro v114 T114 h114 X114 U114
 obtain ⟨vb_114, k_114, rfl, u114_0, u114_1, u114_2, u114_3, u114_4, u114_5⟩ := U114
 have G114_vb : Z.heap.size ≤ vb_114 := Nat.le_trans X112.ext0.1 u114_4
 show oGoes pp ee bb ss Z T114 (mkF mm 360 _ [.ref b112, .ref b1]) _ _ _
 have m115 := ((m47.ext E112).keep u114_0)
 refine o_virtual K X114   (w112 hw) (w113 hw) (oNF (w115 hw)) (w115 hw) (w114 hw) (w11 hw) (w116 hw) (by decide) m115 (rm_eqstr l Z a0 hw b1 b112 h114 u114_1) (by decide) rfl (argsL := [.ref b112]) rfl (lenOf pd16 rfl) (W := 0) rfl (by decide) (by decide) (by decide) at_360 rfl ?_
 intro v116 T116 h116 X116 U116
 obtain ⟨rfl, rfl⟩ := U116
 show oGoes pp ee bb ss Z T116 (mkF mm 363 _ [.int 0]) _ _ _
 refine o_if_ne_f K X116 at_363 rfl (by decide) ?_
 refine o_iconst K X116 at_366 rfl (z := 1) rfl ?_
 refine o_goto K X116 at_367 (by decide) (pc' := 371) (by decide) ?_
 refine o_ireturnN K X116 .boolean at_371 rfl (by simp) (z' := 1) (by decide) ?_ (by decide) (by decide)
 exact hQ _ _ rfl
 refine o_icmp_ne_t K X46 at_346 (by decide) (pc' := 372) (by decide) c346_111 ?_
 refine o_iload K X46 at_372 rfl rfl ?_
 refine o_bipush K X46 at_374 rfl (z := 7) rfl ?_
 by_cases c376_117 : (((i5.toUInt32 >>> ((2 : Int32) &&& 31).toUInt32).toInt32) &&& (7 : Int32)) = (7 : Int32)
 refine o_icmp_ne_f K X46 at_376 rfl c376_117 ?_
 refine o_aload K X46 at_379 rfl rfl rfl ?_
 refine o_aload K X46 at_381 rfl rfl rfl ?_
 refine o_virtual K X46   (w112 hw) (w113 hw) (oNF (w115 hw)) (w115 hw) (w114 hw) (w11 hw) (w116 hw) (by decide) m47 (rm_eqself l Z a0 hw b1 b2 b5 h46 m47 m51 m64 m52 m65) (by decide) rfl (argsL := [.ref b1]) rfl (lenOf pd16 rfl) (W := 0) rfl (by decide) (by decide) (by decide) at_383 rfl ?_
 intro v118 T118 h118 X118 U118
 obtain ⟨rfl, rfl⟩ := U118
 show oGoes pp ee bb ss Z T118 (mkF mm 386 _ [.int 1]) _ _ _
 refine o_ireturnN K X118 .boolean at_386 rfl (by simp) (z' := 1) (by decide) ?_ (by decide) (by decide)
 exact hQ _ _ rfl
 refine o_icmp_ne_t K X46 at_376 (by decide) (pc' := 387) (by decide) c376_117 ?_
 refine o_iload K X46 at_387 rfl rfl ?_
 refine o_iload K X46 at_389 rfl rfl ?_
 refine o_icmp_ne_t K X46 at_391 (by decide) (pc' := 426) (by decide) (by decide) ?_
 refine o_iconst K X46 at_426 rfl (z := 0) rfl ?_
 refine o_istore K X46 at_427 rfl (L' := #[vI i0, vI i1, vI i2, vI i3, vI i4, vI i5, vI 2, vI 1, vI cp, vI cq, vI 1, vI 2, vR ar1, vR ar2, vR ar3, vR ar4, vR b1, vR b21, vI (((i5.toUInt32 >>> ((2 : Int32) &&& 31).toUInt32).toInt32) &&& (7 : Int32)), vI 0, uS, uS]) rfl ?_
 refine o_iload K X46 at_429 rfl rfl ?_
 refine o_iload K X46 at_431 rfl rfl ?_
 refine o_icmp_ne_t K X46 at_433 (by decide) (pc' := 468) (by decide) (by decide) ?_
 refine o_iconst K X46 at_468 rfl (z := 0) rfl ?_
 refine o_istore K X46 at_469 rfl (L' := #[vI i0, vI i1, vI i2, vI i3, vI i4, vI i5, vI 2, vI 1, vI cp, vI cq, vI 1, vI 2, vR ar1, vR ar2, vR ar3, vR ar4, vR b1, vR b21, vI (((i5.toUInt32 >>> ((2 : Int32) &&& 31).toUInt32).toInt32) &&& (7 : Int32)), vI 0, vI 0, uS]) rfl ?_
 refine tl_lw3 l Z a0 hw i0 i1 i2 i3 i4 i5 cp cq (((i5.toUInt32 >>> ((2 : Int32) &&& 31).toUInt32).toInt32) &&& (7 : Int32)) 0 0 ar1 ar2 ar3 ar4 b1 b21 b2 vb_4 k_4 b5 vb_8 k_8 b22 vb_27 k_27 b28 vb_34 k_34 2 1 1 2 ca cb da da ua ua ya yb cs h46 (by simp +decide [oSm]) (by simp +decide [oSm]) m47 m51 m64 u46_1 u46_2 u46_3 m52 m56 m57 o58 m65 m69 m70 o71 m77 m78 m79 o80 m83 m84 m85 o86 (by decide) (by decide) (by decide) (by decide) q10 q11 q12 q12 q13 q13 q14 q15 n53 n67 q24 q25 (fun v119 h119 U119 => ?_) K (X46.mono (by decide) (by decide))
 obtain rfl : v119 = some (.int 1) := U119
 exact hQ _ _ rfl
def Q_t258_2121 (Z : State) (i0 i1 i2 i3 i4 i5 cp cq : Int32) (ar1 : Addr) (kar1 : ClassId) (ar2 : Addr) (kar2 : ClassId) (ar3 : Addr) (kar3 : ClassId) (ar4 : Addr) (kar4 : ClassId) (ca cb da ua ub ya : Int32) (fm : Value) (cs : Int32) (h0 : Heap) (v : Option Value) (h : Heap) : Prop := v = some (.int 1)
theorem tl_t258_2121 (l : Launch) (Z : State) (a0 : Array Value) (hw : oHw Z a0) (i0 i1 i2 i3 i4 i5 cp cq : Int32) (ar1 : Addr) (kar1 : ClassId) (ar2 : Addr) (kar2 : ClassId) (ar3 : Addr) (kar3 : ClassId) (ar4 : Addr) (kar4 : ClassId) (ca cb da ua ub ya : Int32) (fm : Value) (cs : Int32) (h0 : Heap) (q0 : oArr Z h0 ar1 kar1 .char [.int ca, .int cb]) (q1 : oArr Z h0 ar2 kar2 .char [.int da]) (q2 : oArr Z h0 ar3 kar3 .char [.int ua, .int ub]) (q3 : oArr Z h0 ar4 kar4 .char [.int ya]) (q4 : oSh ca) (q5 : oSh cb) (q6 : oId da) (q7 : oSh ua) (q8 : oSh ub) (q9 : oId ya) (q10 : oCh ca) (q11 : oCh cb) (q12 : oCh da) (q13 : oCh ua) (q14 : oCh ub) (q15 : oCh ya) (q16 : nar .char ca = ca) (q17 : nar .char cb = cb) (q18 : nar .char da = da) (q19 : nar .char ua = ua) (q20 : nar .char ub = ub) (q21 : nar .char ya = ya) (q22 : Sta Z Z.heap z3 z5 z6 fm) (q23 : fm.isRef = true) (q24 : Sta Z Z.heap z0 z4 "Z" (.int cs)) (q25 : ¬ (cs = (0 : Int32))) {Q : Option Value → Heap → Prop} (hQ : ∀ v h, Q_t258_2121 Z i0 i1 i2 i3 i4 i5 cp cq ar1 kar1 ar2 kar2 ar3 kar3 ar4 kar4 ca cb da ua ub ya fm cs h0 v h → Q v h) {pp : Program} {ee : Env} {ss : State} {mm : MethodId} {bb : List Frame} {mtd : Method} {cc : Code} {A : Array Value} {T0 : State} (K : oCtx pp ss mm mtd cc Z z7 code maxLocals "law" ret x) (X0 : oSt pp l ee room_1 ss mm A bb mtd cc Z T0 h0 4 8) : oGoes pp ee bb ss Z T0 (mkF mm 258 #[vI i0, vI i1, vI i2, vI i3, vI i4, vI i5, vI 2, vI 1, vI cp, vI cq, vI 2, vI 1, vR ar1, vR ar2, vR ar3, vR ar4, uS, uS, uS, uS, uS, uS] []) Q room_1.cells room_1.slots := by
 have E0 := X0.ext0
 refine o_new K X0 (w9 hw) (w10 hw) (w11 hw) at_258 rfl (by decide) (by decide) ?_
 intro T1 h1 b1 X1 g1 E1 A1 D1 G1
 have F1_shelf : Fld Z h1 b1 z1 "shelf" z2 .null := (D1 (Or.inr (w109 hw)) (ty := (.object z0)) (by decide))
 have F1_id : Fld Z h1 b1 z1 "id" z2 .null := (D1 (Or.inr (w111 hw)) (ty := (.object z0)) (by decide))
 refine o_dup K X1 at_261 rfl rfl ?_
 refine o_new K X1 (w12 hw) (w13 hw) (w14 hw) at_262 rfl (by decide) (by decide) ?_
 intro T2 h2 b2 X2 g2 E2 A2 D2 G2
 have F2_coder : Fld Z h2 b2 z0 "coder" "B" (.int 0) := (D2 (Or.inr (w38 hw)) (ty := .byte) (by decide))
 have F2_value : Fld Z h2 b2 z0 "value" "[B" .null := (D2 (Or.inr (w40 hw)) (ty := (.array .byte)) (by decide))
 refine o_dup K X2 at_265 rfl rfl ?_
 refine o_aload K X2 at_266 rfl rfl rfl ?_
 have m3 := ((q0.ext E1).ext E2)
 refine o_special K X2 (y := (⟨z0, "<init>", "([C)V"⟩ : MethodName)) rfl (w15 hw) (w16 hw) (w14 hw) (w17 hw) (by decide) (rm_str_2 l Z a0 hw b2 ar1 kar1 cs ca cb h2 A2 F2_value F2_coder G2 m3 q24 q25 q10.2 q11.2) (by decide) rfl (argsL := [.ref ar1]) rfl (lenOf pd17 rfl) (W := 3) rfl (by decide) (by decide) (by decide) at_268 rfl ?_
 intro v4 T4 h4 X4 U4
 obtain ⟨vb_4, k_4, rfl, u4_0, u4_1, u4_2, u4_3, u4_4, u4_5⟩ := U4
 have G4_vb : Z.heap.size ≤ vb_4 := Nat.le_trans X2.ext0.1 u4_4
 show oGoes pp ee bb ss Z T4 (mkF mm 271 _ [.ref b2, .ref b1, .ref b1]) _ _ _
 refine o_new K X4 (w12 hw) (w13 hw) (w14 hw) at_271 rfl (by decide) (by decide) ?_
 intro T5 h5 b5 X5 g5 E5 A5 D5 G5
 have F5_coder : Fld Z h5 b5 z0 "coder" "B" (.int 0) := (D5 (Or.inr (w38 hw)) (ty := .byte) (by decide))
 have F5_value : Fld Z h5 b5 z0 "value" "[B" .null := (D5 (Or.inr (w40 hw)) (ty := (.array .byte)) (by decide))
 refine o_dup K X5 at_274 rfl rfl ?_
 refine o_aload K X5 at_275 rfl rfl rfl ?_
 have n6 := oLn q1.lt E1.1 (oLe g2)
 have m7 := ((((q1.ext E1).ext E2).keep u4_0 (ninS n6 nin0)).ext E5)
 refine o_special K X5 (y := (⟨z0, "<init>", "([C)V"⟩ : MethodName)) rfl (w15 hw) (w16 hw) (w14 hw) (w17 hw) (by decide) (rm_str_1 l Z a0 hw b5 ar2 kar2 cs da h5 A5 F5_value F5_coder G5 m7 q24 q25 q12.2) (by decide) rfl (argsL := [.ref ar2]) rfl (lenOf pd17 rfl) (W := 4) rfl (by decide) (by decide) (by decide) at_277 rfl ?_
 intro v8 T8 h8 X8 U8
 obtain ⟨vb_8, k_8, rfl, u8_0, u8_1, u8_2, u8_3, u8_4, u8_5⟩ := U8
 have G8_vb : Z.heap.size ≤ vb_8 := Nat.le_trans X5.ext0.1 u8_4
 show oGoes pp ee bb ss Z T8 (mkF mm 280 _ [.ref b5, .ref b2, .ref b1, .ref b1]) _ _ _
 have m9 := ((((A1.ext E2).keep u4_0).ext E5).keep u8_0)
 have n10 := oLz A1.lt (oLe g2)
 have n11 := oLn A1.lt (Nat.le_trans E2.1 u4_0.1) (oLe g5)
 have m12 := ((((F1_shelf.ext E2).keep u4_0 (ninS n10 nin0)).ext E5).keep u8_0 (ninS n11 nin0))
 have m13 := ((((F1_id.ext E2).keep u4_0 (ninS n10 nin0)).ext E5).keep u8_0 (ninS n11 nin0))
 have m14 := ((u4_1.ext E5).keep u8_0)
 have n15 := oLn A2.lt u4_0.1 (oLe g5)
 have m16 := ((u4_2.ext E5).keep u8_0 (ninS n15 nin0))
 have m17 := ((u4_3.ext E5).keep u8_0 (ninS n15 nin0))
 have n18 := oLz u4_5.lt (oLe g5)
 have m19 := ((u4_5.ext E5).keep u8_0 (ninS n18 nin0))
 refine o_special K X8 (y := (⟨z1, "<init>", z8⟩ : MethodName)) rfl (w41 hw) (w42 hw) (w11 hw) (w43 hw) (by decide) (rm_rk21 l Z a0 hw b1 b2 vb_4 k_4 b5 vb_8 k_8 ca cb da fm cs h8 m9 G1 m12 m13 m14 m16 m17 m19 u8_1 u8_2 u8_3 u8_5 q4 q5 q6 q10 q11 q12 q22 q23 q24 q25) (by decide) rfl (argsL := [.ref b2, .ref b5]) rfl (lenOf pd18 rfl) (W := 1) rfl (by decide) (by decide) (by decide) at_280 rfl ?_
 intro v20 T20 h20 X20 U20
 obtain ⟨rfl, u20_0, u20_1, u20_2, u20_3⟩ := U20
 show oGoes pp ee bb ss Z T20 (mkF mm 283 _ [.ref b1]) _ _ _
 refine o_astore K X20 at_283 rfl rfl (L' := #[vI i0, vI i1, vI i2, vI i3, vI i4, vI i5, vI 2, vI 1, vI cp, vI cq, vI 2, vI 1, vR ar1, vR ar2, vR ar3, vR ar4, vR b1, uS, uS, uS, uS, uS]) rfl ?_
 refine o_new K X20 (w9 hw) (w10 hw) (w11 hw) at_285 rfl (by decide) (by decide) ?_
 intro T21 h21 b21 X21 g21 E21 A21 D21 G21
 have F21_shelf : Fld Z h21 b21 z1 "shelf" z2 .null := (D21 (Or.inr (w109 hw)) (ty := (.object z0)) (by decide))
 have F21_id : Fld Z h21 b21 z1 "id" z2 .null := (D21 (Or.inr (w111 hw)) (ty := (.object z0)) (by decide))
 refine o_dup K X21 at_288 rfl rfl ?_
 refine o_new K X21 (w12 hw) (w13 hw) (w14 hw) at_289 rfl (by decide) (by decide) ?_
 intro T22 h22 b22 X22 g22 E22 A22 D22 G22
 have F22_coder : Fld Z h22 b22 z0 "coder" "B" (.int 0) := (D22 (Or.inr (w38 hw)) (ty := .byte) (by decide))
 have F22_value : Fld Z h22 b22 z0 "value" "[B" .null := (D22 (Or.inr (w40 hw)) (ty := (.array .byte)) (by decide))
 refine o_dup K X22 at_292 rfl rfl ?_
 refine o_aload K X22 at_293 rfl rfl rfl ?_
 have n23 := oLn q2.lt E1.1 (oLe g2)
 have y0_3 := Nat.le_trans (Nat.le_trans E1.1 E2.1) u4_0.1
 have n24 := oLn q2.lt y0_3 (oLe g5)
 have n25 := oLz q2.lt (oLe g1)
 have m26 := ((((((((q2.ext E1).ext E2).keep u4_0 (ninS n23 nin0)).ext E5).keep u8_0 (ninS n24 nin0)).keep u20_0 (ninS n25 nin0)).ext E21).ext E22)
 refine o_special K X22 (y := (⟨z0, "<init>", "([C)V"⟩ : MethodName)) rfl (w15 hw) (w16 hw) (w14 hw) (w17 hw) (by decide) (rm_str_2 l Z a0 hw b22 ar3 kar3 cs ua ub h22 A22 F22_value F22_coder G22 m26 q24 q25 q13.2 q14.2) (by decide) rfl (argsL := [.ref ar3]) rfl (lenOf pd17 rfl) (W := 3) rfl (by decide) (by decide) (by decide) at_295 rfl ?_
 intro v27 T27 h27 X27 U27
 obtain ⟨vb_27, k_27, rfl, u27_0, u27_1, u27_2, u27_3, u27_4, u27_5⟩ := U27
 have G27_vb : Z.heap.size ≤ vb_27 := Nat.le_trans X22.ext0.1 u27_4
 show oGoes pp ee bb ss Z T27 (mkF mm 298 _ [.ref b22, .ref b21, .ref b21]) _ _ _
 refine o_new K X27 (w12 hw) (w13 hw) (w14 hw) at_298 rfl (by decide) (by decide) ?_
 intro T28 h28 b28 X28 g28 E28 A28 D28 G28
 have F28_coder : Fld Z h28 b28 z0 "coder" "B" (.int 0) := (D28 (Or.inr (w38 hw)) (ty := .byte) (by decide))
 have F28_value : Fld Z h28 b28 z0 "value" "[B" .null := (D28 (Or.inr (w40 hw)) (ty := (.array .byte)) (by decide))
 refine o_dup K X28 at_301 rfl rfl ?_
 refine o_aload K X28 at_302 rfl rfl rfl ?_
 have n29 := oLn q3.lt E1.1 (oLe g2)
 have n30 := oLn q3.lt y0_3 (oLe g5)
 have n31 := oLz q3.lt (oLe g1)
 have y0_7 := Nat.le_trans (Nat.le_trans (Nat.le_trans (Nat.le_trans y0_3 E5.1) u8_0.1) u20_0.1) E21.1
 have n32 := oLn q3.lt y0_7 (oLe g22)
 have m33 := ((((((((((q3.ext E1).ext E2).keep u4_0 (ninS n29 nin0)).ext E5).keep u8_0 (ninS n30 nin0)).keep u20_0 (ninS n31 nin0)).ext E21).ext E22).keep u27_0 (ninS n32 nin0)).ext E28)
 refine o_special K X28 (y := (⟨z0, "<init>", "([C)V"⟩ : MethodName)) rfl (w15 hw) (w16 hw) (w14 hw) (w17 hw) (by decide) (rm_str_1 l Z a0 hw b28 ar4 kar4 cs ya h28 A28 F28_value F28_coder G28 m33 q24 q25 q15.2) (by decide) rfl (argsL := [.ref ar4]) rfl (lenOf pd17 rfl) (W := 4) rfl (by decide) (by decide) (by decide) at_304 rfl ?_
 intro v34 T34 h34 X34 U34
 obtain ⟨vb_34, k_34, rfl, u34_0, u34_1, u34_2, u34_3, u34_4, u34_5⟩ := U34
 have G34_vb : Z.heap.size ≤ vb_34 := Nat.le_trans X28.ext0.1 u34_4
 show oGoes pp ee bb ss Z T34 (mkF mm 307 _ [.ref b28, .ref b22, .ref b21, .ref b21]) _ _ _
 have m35 := ((((A21.ext E22).keep u27_0).ext E28).keep u34_0)
 have n36 := oLz A21.lt (oLe g22)
 have n37 := oLn A21.lt (Nat.le_trans E22.1 u27_0.1) (oLe g28)
 have m38 := ((((F21_shelf.ext E22).keep u27_0 (ninS n36 nin0)).ext E28).keep u34_0 (ninS n37 nin0))
 have m39 := ((((F21_id.ext E22).keep u27_0 (ninS n36 nin0)).ext E28).keep u34_0 (ninS n37 nin0))
 have m40 := ((u27_1.ext E28).keep u34_0)
 have n41 := oLn A22.lt u27_0.1 (oLe g28)
 have m42 := ((u27_2.ext E28).keep u34_0 (ninS n41 nin0))
 have m43 := ((u27_3.ext E28).keep u34_0 (ninS n41 nin0))
 have n44 := oLz u27_5.lt (oLe g28)
 have m45 := ((u27_5.ext E28).keep u34_0 (ninS n44 nin0))
 refine o_special K X34 (y := (⟨z1, "<init>", z8⟩ : MethodName)) rfl (w41 hw) (w42 hw) (w11 hw) (w43 hw) (by decide) (rm_rk21 l Z a0 hw b21 b22 vb_27 k_27 b28 vb_34 k_34 ua ub ya fm cs h34 m35 G21 m38 m39 m40 m42 m43 m45 u34_1 u34_2 u34_3 u34_5 q7 q8 q9 q13 q14 q15 q22 q23 q24 q25) (by decide) rfl (argsL := [.ref b22, .ref b28]) rfl (lenOf pd18 rfl) (W := 1) rfl (by decide) (by decide) (by decide) at_307 rfl ?_
 intro v46 T46 h46 X46 U46
 obtain ⟨rfl, u46_0, u46_1, u46_2, u46_3⟩ := U46
 show oGoes pp ee bb ss Z T46 (mkF mm 310 _ [.ref b21]) _ _ _
 refine o_astore K X46 at_310 rfl rfl (L' := #[vI i0, vI i1, vI i2, vI i3, vI i4, vI i5, vI 2, vI 1, vI cp, vI cq, vI 2, vI 1, vR ar1, vR ar2, vR ar3, vR ar4, vR b1, vR b21, uS, uS, uS, uS]) rfl ?_
 have m47 := ((((((u20_1.ext E21).ext E22).keep u27_0).ext E28).keep u34_0).keep u46_0)
 have y1_7 := Nat.le_trans (Nat.le_trans (Nat.le_trans (Nat.le_trans (Nat.le_trans E2.1 u4_0.1) E5.1) u8_0.1) u20_0.1) E21.1
 have n48 := oLn A1.lt y1_7 (oLe g22)
 have y1_9 := Nat.le_trans (Nat.le_trans y1_7 E22.1) u27_0.1
 have n49 := oLn A1.lt y1_9 (oLe g28)
 have y1_6 := Nat.le_trans (Nat.le_trans (Nat.le_trans (Nat.le_trans E2.1 u4_0.1) E5.1) u8_0.1) u20_0.1
 have n50 := oLn A1.lt y1_6 (oLe g21)
 have m51 := ((((((u20_2.ext E21).ext E22).keep u27_0 (ninS n48 nin0)).ext E28).keep u34_0 (ninS n49 nin0)).keep u46_0 (ninS n50 nin0))
 have m52 := (((((((m14.keep u20_0).ext E21).ext E22).keep u27_0).ext E28).keep u34_0).keep u46_0)
 have y2_7 := Nat.le_trans (Nat.le_trans (Nat.le_trans (Nat.le_trans u4_0.1 E5.1) u8_0.1) u20_0.1) E21.1
 have n53 := oLn A2.lt y2_7 (oLe g22)
 have y2_9 := Nat.le_trans (Nat.le_trans y2_7 E22.1) u27_0.1
 have n54 := oLn A2.lt y2_9 (oLe g28)
 have y2_6 := Nat.le_trans (Nat.le_trans (Nat.le_trans u4_0.1 E5.1) u8_0.1) u20_0.1
 have n55 := oLn A2.lt y2_6 (oLe g21)
 have m56 := (((((((m16.keep u20_0 (ninS (Ne.symm n10) nin0)).ext E21).ext E22).keep u27_0 (ninS n53 nin0)).ext E28).keep u34_0 (ninS n54 nin0)).keep u46_0 (ninS n55 nin0))
 have m57 := (((((((m17.keep u20_0 (ninS (Ne.symm n10) nin0)).ext E21).ext E22).keep u27_0 (ninS n53 nin0)).ext E28).keep u34_0 (ninS n54 nin0)).keep u46_0 (ninS n55 nin0))
 have n59 := oLsn A1.lt E2.1 u4_4
 have y3_7 := Nat.le_trans (Nat.le_trans (Nat.le_trans E5.1 u8_0.1) u20_0.1) E21.1
 have n60 := oLn u4_5.lt y3_7 (oLe g22)
 have y3_9 := Nat.le_trans (Nat.le_trans y3_7 E22.1) u27_0.1
 have n61 := oLn u4_5.lt y3_9 (oLe g28)
 have y3_6 := Nat.le_trans (Nat.le_trans E5.1 u8_0.1) u20_0.1
 have n62 := oLn u4_5.lt y3_6 (oLe g21)
 have m63 := (((((((m19.keep u20_0 (ninS n59 nin0)).ext E21).ext E22).keep u27_0 (ninS n60 nin0)).ext E28).keep u34_0 (ninS n61 nin0)).keep u46_0 (ninS n62 nin0))
 have o58 := oByC (oBy2 ca cb) m63
 have m64 := ((((((u20_3.ext E21).ext E22).keep u27_0 (ninS n48 nin0)).ext E28).keep u34_0 (ninS n49 nin0)).keep u46_0 (ninS n50 nin0))
 have m65 := (((((((u8_1.keep u20_0).ext E21).ext E22).keep u27_0).ext E28).keep u34_0).keep u46_0)
 have y4_7 := Nat.le_trans (Nat.le_trans u8_0.1 u20_0.1) E21.1
 have n66 := oLn A5.lt y4_7 (oLe g22)
 have y4_9 := Nat.le_trans (Nat.le_trans y4_7 E22.1) u27_0.1
 have n67 := oLn A5.lt y4_9 (oLe g28)
 have n68 := oLn A5.lt (Nat.le_trans u8_0.1 u20_0.1) (oLe g21)
 have m69 := (((((((u8_2.keep u20_0 (ninS (Ne.symm n11) nin0)).ext E21).ext E22).keep u27_0 (ninS n66 nin0)).ext E28).keep u34_0 (ninS n67 nin0)).keep u46_0 (ninS n68 nin0))
 have m70 := (((((((u8_3.keep u20_0 (ninS (Ne.symm n11) nin0)).ext E21).ext E22).keep u27_0 (ninS n66 nin0)).ext E28).keep u34_0 (ninS n67 nin0)).keep u46_0 (ninS n68 nin0))
 have y1_4 := Nat.le_trans (Nat.le_trans E2.1 u4_0.1) E5.1
 have n72 := oLsn A1.lt y1_4 u8_4
 have n73 := oLn u8_5.lt (Nat.le_trans u20_0.1 E21.1) (oLe g22)
 have y5_9 := Nat.le_trans (Nat.le_trans (Nat.le_trans u20_0.1 E21.1) E22.1) u27_0.1
 have n74 := oLn u8_5.lt y5_9 (oLe g28)
 have n75 := oLn u8_5.lt u20_0.1 (oLe g21)
 have m76 := (((((((u8_5.keep u20_0 (ninS n72 nin0)).ext E21).ext E22).keep u27_0 (ninS n73 nin0)).ext E28).keep u34_0 (ninS n74 nin0)).keep u46_0 (ninS n75 nin0))
 have o71 := oByC (oBy1 da da) m76
 have m77 := (m40.keep u46_0)
 have m78 := (m42.keep u46_0 (ninS (Ne.symm n36) nin0))
 have m79 := (m43.keep u46_0 (ninS (Ne.symm n36) nin0))
 have n81 := oLsn A21.lt E22.1 u27_4
 have m82 := (m45.keep u46_0 (ninS n81 nin0))
 have o80 := oByC (oBy2 ua ub) m82
 have m83 := (u34_1.keep u46_0)
 have m84 := (u34_2.keep u46_0 (ninS (Ne.symm n37) nin0))
 have m85 := (u34_3.keep u46_0 (ninS (Ne.symm n37) nin0))
 have y7_10 := Nat.le_trans (Nat.le_trans E22.1 u27_0.1) E28.1
 have n87 := oLsn A21.lt y7_10 u34_4
 have m88 := (u34_5.keep u46_0 (ninS n87 nin0))
 have o86 := oByC (oBy1 ya ya) m88
 have n89 := oLn q0.lt E1.1 (oLe g2)
 have n90 := oLn q0.lt y0_3 (oLe g5)
 have n91 := oLz q0.lt (oLe g1)
 have n92 := oLn q0.lt y0_7 (oLe g22)
 have y0_9 := Nat.le_trans (Nat.le_trans y0_7 E22.1) u27_0.1
 have n93 := oLn q0.lt y0_9 (oLe g28)
 have y0_6 := Nat.le_trans (Nat.le_trans (Nat.le_trans y0_3 E5.1) u8_0.1) u20_0.1
 have n94 := oLn q0.lt y0_6 (oLe g21)
 have m95 := ((((((((((m3.keep u4_0 (ninS n89 nin0)).ext E5).keep u8_0 (ninS n90 nin0)).keep u20_0 (ninS n91 nin0)).ext E21).ext E22).keep u27_0 (ninS n92 nin0)).ext E28).keep u34_0 (ninS n93 nin0)).keep u46_0 (ninS n94 nin0))
 have n96 := oLn q1.lt y0_3 (oLe g5)
 have n97 := oLz q1.lt (oLe g1)
 have n98 := oLn q1.lt y0_7 (oLe g22)
 have n99 := oLn q1.lt y0_9 (oLe g28)
 have n100 := oLn q1.lt y0_6 (oLe g21)
 have m101 := ((((((((m7.keep u8_0 (ninS n96 nin0)).keep u20_0 (ninS n97 nin0)).ext E21).ext E22).keep u27_0 (ninS n98 nin0)).ext E28).keep u34_0 (ninS n99 nin0)).keep u46_0 (ninS n100 nin0))
 have n102 := oLn q2.lt y0_7 (oLe g22)
 have n103 := oLn q2.lt y0_9 (oLe g28)
 have n104 := oLn q2.lt y0_6 (oLe g21)
 have m105 := ((((m26.keep u27_0 (ninS n102 nin0)).ext E28).keep u34_0 (ninS n103 nin0)).keep u46_0 (ninS n104 nin0))
 have n106 := oLn q3.lt y0_9 (oLe g28)
 have n107 := oLn q3.lt y0_6 (oLe g21)
 have m108 := ((m33.keep u34_0 (ninS n106 nin0)).keep u46_0 (ninS n107 nin0))
 refine o_iload K X46 at_312 rfl rfl ?_
 refine o_iconst K X46 at_314 rfl (z := 2) rfl ?_
 refine o_iushr K X46 at_315 rfl (z := ((i5.toUInt32 >>> ((2 : Int32) &&& 31).toUInt32).toInt32)) rfl ?_
 refine o_bipush K X46 at_316 rfl (z := 7) rfl ?_
 refine o_iand K X46 at_318 rfl (z := (((i5.toUInt32 >>> ((2 : Int32) &&& 31).toUInt32).toInt32) &&& (7 : Int32))) rfl ?_
 refine o_istore K X46 at_319 rfl (L' := #[vI i0, vI i1, vI i2, vI i3, vI i4, vI i5, vI 2, vI 1, vI cp, vI cq, vI 2, vI 1, vR ar1, vR ar2, vR ar3, vR ar4, vR b1, vR b21, vI (((i5.toUInt32 >>> ((2 : Int32) &&& 31).toUInt32).toInt32) &&& (7 : Int32)), uS, uS, uS]) rfl ?_
 refine o_iload K X46 at_321 rfl rfl ?_
 refine o_iconst K X46 at_323 rfl (z := 5) rfl ?_
 by_cases c324_109 : (((i5.toUInt32 >>> ((2 : Int32) &&& 31).toUInt32).toInt32) &&& (7 : Int32)) = (5 : Int32)
 refine o_icmp_ne_f K X46 at_324 rfl c324_109 ?_
 refine o_aload K X46 at_327 rfl rfl rfl ?_
 refine o_aconst_null K X46 at_329 rfl ?_
 refine o_virtual K X46   (w112 hw) (w113 hw) (oNF (w115 hw)) (w115 hw) (w114 hw) (w11 hw) (w116 hw) (by decide) m47 (rm_eqnull l Z a0 hw b1 h46) (by decide) rfl (argsL := [.null]) rfl (lenOf pd16 rfl) (W := 0) rfl (by decide) (by decide) (by decide) at_330 rfl ?_
 intro v110 T110 h110 X110 U110
 obtain ⟨rfl, rfl⟩ := U110
 show oGoes pp ee bb ss Z T110 (mkF mm 333 _ [.int 0]) _ _ _
 refine o_if_ne_f K X110 at_333 rfl (by decide) ?_
 refine o_iconst K X110 at_336 rfl (z := 1) rfl ?_
 refine o_goto K X110 at_337 (by decide) (pc' := 341) (by decide) ?_
 refine o_ireturnN K X110 .boolean at_341 rfl (by simp) (z' := 1) (by decide) ?_ (by decide) (by decide)
 exact hQ _ _ rfl
 refine o_icmp_ne_t K X46 at_324 (by decide) (pc' := 342) (by decide) c324_109 ?_
 refine o_iload K X46 at_342 rfl rfl ?_
 refine o_bipush K X46 at_344 rfl (z := 6) rfl ?_
 by_cases c346_111 : (((i5.toUInt32 >>> ((2 : Int32) &&& 31).toUInt32).toInt32) &&& (7 : Int32)) = (6 : Int32)
 refine o_icmp_ne_f K X46 at_346 rfl c346_111 ?_
 refine o_aload K X46 at_349 rfl rfl rfl ?_
 refine o_new K X46 (w12 hw) (w13 hw) (w14 hw) at_351 rfl (by decide) (by decide) ?_
 intro T112 h112 b112 X112 g112 E112 A112 D112 G112
 have F112_coder : Fld Z h112 b112 z0 "coder" "B" (.int 0) := (D112 (Or.inr (w38 hw)) (ty := .byte) (by decide))
 have F112_value : Fld Z h112 b112 z0 "value" "[B" .null := (D112 (Or.inr (w40 hw)) (ty := (.array .byte)) (by decide))
 refine o_dup K X112 at_354 rfl rfl ?_
 refine o_aload K X112 at_355 rfl rfl rfl ?_
 have m113 := (m95.ext E112)
 refine o_special K X112 (y := (⟨z0, "<init>", "([C)V"⟩ : MethodName)) rfl (w15 hw) (w16 hw) (w14 hw) (w17 hw) (by decide) (rm_str_2 l Z a0 hw b112 ar1 kar1 cs ca cb h112 A112 F112_value F112_coder G112 m113 q24 q25 q10.2 q11.2) (by decide) rfl (argsL := [.ref ar1]) rfl (lenOf pd17 rfl) (W := 2) rfl (by decide) (by decide) (by decide) at_357 rfl ?_
 intro v114 T114 h114 X114 U114
 obtain ⟨vb_114, k_114, rfl, u114_0, u114_1, u114_2, u114_3, u114_4, u114_5⟩ := U114
 have G114_vb : Z.heap.size ≤ vb_114 := Nat.le_trans X112.ext0.1 u114_4
 show oGoes pp ee bb ss Z T114 (mkF mm 360 _ [.ref b112, .ref b1]) _ _ _
 have m115 := ((m47.ext E112).keep u114_0)
 refine o_virtual K X114   (w112 hw) (w113 hw) (oNF (w115 hw)) (w115 hw) (w114 hw) (w11 hw) (w116 hw) (by decide) m115 (rm_eqstr l Z a0 hw b1 b112 h114 u114_1) (by decide) rfl (argsL := [.ref b112]) rfl (lenOf pd16 rfl) (W := 0) rfl (by decide) (by decide) (by decide) at_360 rfl ?_
 intro v116 T116 h116 X116 U116
 obtain ⟨rfl, rfl⟩ := U116
 show oGoes pp ee bb ss Z T116 (mkF mm 363 _ [.int 0]) _ _ _
 refine o_if_ne_f K X116 at_363 rfl (by decide) ?_
 refine o_iconst K X116 at_366 rfl (z := 1) rfl ?_
 refine o_goto K X116 at_367 (by decide) (pc' := 371) (by decide) ?_
 refine o_ireturnN K X116 .boolean at_371 rfl (by simp) (z' := 1) (by decide) ?_ (by decide) (by decide)
 exact hQ _ _ rfl
 refine o_icmp_ne_t K X46 at_346 (by decide) (pc' := 372) (by decide) c346_111 ?_
 refine o_iload K X46 at_372 rfl rfl ?_
 refine o_bipush K X46 at_374 rfl (z := 7) rfl ?_
 by_cases c376_117 : (((i5.toUInt32 >>> ((2 : Int32) &&& 31).toUInt32).toInt32) &&& (7 : Int32)) = (7 : Int32)
 refine o_icmp_ne_f K X46 at_376 rfl c376_117 ?_
 refine o_aload K X46 at_379 rfl rfl rfl ?_
 refine o_aload K X46 at_381 rfl rfl rfl ?_
 refine o_virtual K X46   (w112 hw) (w113 hw) (oNF (w115 hw)) (w115 hw) (w114 hw) (w11 hw) (w116 hw) (by decide) m47 (rm_eqself l Z a0 hw b1 b2 b5 h46 m47 m51 m64 m52 m65) (by decide) rfl (argsL := [.ref b1]) rfl (lenOf pd16 rfl) (W := 0) rfl (by decide) (by decide) (by decide) at_383 rfl ?_
 intro v118 T118 h118 X118 U118
 obtain ⟨rfl, rfl⟩ := U118
 show oGoes pp ee bb ss Z T118 (mkF mm 386 _ [.int 1]) _ _ _
 refine o_ireturnN K X118 .boolean at_386 rfl (by simp) (z' := 1) (by decide) ?_ (by decide) (by decide)
 exact hQ _ _ rfl
 refine o_icmp_ne_t K X46 at_376 (by decide) (pc' := 387) (by decide) c376_117 ?_
 refine o_iload K X46 at_387 rfl rfl ?_
 refine o_iload K X46 at_389 rfl rfl ?_
 refine o_icmp_ne_f K X46 at_391 rfl (by decide) ?_
 refine o_aload K X46 at_394 rfl rfl rfl ?_
 refine o_iconst K X46 at_396 rfl (z := 0) rfl ?_
 refine o_caload K X46 m95 (by decide) (v := (.int ca)) rfl at_397 rfl ?_
 refine o_aload K X46 at_398 rfl rfl rfl ?_
 refine o_iconst K X46 at_400 rfl (z := 0) rfl ?_
 refine o_caload K X46 m105 (by decide) (v := (.int ua)) rfl at_401 rfl ?_
 by_cases c402_119 : ca = ua
 refine o_icmp_ne_f K X46 at_402 rfl c402_119 ?_
 refine o_iload K X46 at_405 rfl rfl ?_
 refine o_iconst K X46 at_407 rfl (z := 1) rfl ?_
 refine o_icmp_eq_f K X46 at_408 rfl (by decide) ?_
 refine o_aload K X46 at_411 rfl rfl rfl ?_
 refine o_iconst K X46 at_413 rfl (z := 1) rfl ?_
 refine o_caload K X46 m95 (by decide) (v := (.int cb)) rfl at_414 rfl ?_
 refine o_aload K X46 at_415 rfl rfl rfl ?_
 refine o_iconst K X46 at_417 rfl (z := 1) rfl ?_
 refine o_caload K X46 m105 (by decide) (v := (.int ub)) rfl at_418 rfl ?_
 by_cases c419_120 : cb = ub
 refine o_icmp_ne_f K X46 at_419 rfl c419_120 ?_
 refine o_iconst K X46 at_422 rfl (z := 1) rfl ?_
 refine o_goto K X46 at_423 (by decide) (pc' := 427) (by decide) ?_
 refine o_istore K X46 at_427 rfl (L' := #[vI i0, vI i1, vI i2, vI i3, vI i4, vI i5, vI 2, vI 1, vI cp, vI cq, vI 2, vI 1, vR ar1, vR ar2, vR ar3, vR ar4, vR b1, vR b21, vI (((i5.toUInt32 >>> ((2 : Int32) &&& 31).toUInt32).toInt32) &&& (7 : Int32)), vI 1, uS, uS]) rfl ?_
 refine o_iload K X46 at_429 rfl rfl ?_
 refine o_iload K X46 at_431 rfl rfl ?_
 refine o_icmp_ne_f K X46 at_433 rfl (by decide) ?_
 refine o_aload K X46 at_436 rfl rfl rfl ?_
 refine o_iconst K X46 at_438 rfl (z := 0) rfl ?_
 refine o_caload K X46 m101 (by decide) (v := (.int da)) rfl at_439 rfl ?_
 refine o_aload K X46 at_440 rfl rfl rfl ?_
 refine o_iconst K X46 at_442 rfl (z := 0) rfl ?_
 refine o_caload K X46 m108 (by decide) (v := (.int ya)) rfl at_443 rfl ?_
 by_cases c444_121 : da = ya
 refine o_icmp_ne_f K X46 at_444 rfl c444_121 ?_
 refine o_iload K X46 at_447 rfl rfl ?_
 refine o_iconst K X46 at_449 rfl (z := 1) rfl ?_
 refine o_icmp_eq_t K X46 at_450 (by decide) (pc' := 464) (by decide) (by decide) ?_
 refine o_iconst K X46 at_464 rfl (z := 1) rfl ?_
 refine o_goto K X46 at_465 (by decide) (pc' := 469) (by decide) ?_
 refine o_istore K X46 at_469 rfl (L' := #[vI i0, vI i1, vI i2, vI i3, vI i4, vI i5, vI 2, vI 1, vI cp, vI cq, vI 2, vI 1, vR ar1, vR ar2, vR ar3, vR ar4, vR b1, vR b21, vI (((i5.toUInt32 >>> ((2 : Int32) &&& 31).toUInt32).toInt32) &&& (7 : Int32)), vI 1, vI 1, uS]) rfl ?_
 refine tl_lw3 l Z a0 hw i0 i1 i2 i3 i4 i5 cp cq (((i5.toUInt32 >>> ((2 : Int32) &&& 31).toUInt32).toInt32) &&& (7 : Int32)) 1 1 ar1 ar2 ar3 ar4 b1 b21 b2 vb_4 k_4 b5 vb_8 k_8 b22 vb_27 k_27 b28 vb_34 k_34 2 1 2 1 ca cb da da ua ub ya ya cs h46 (by simp +decide [oSm, c402_119, c419_120, c444_121]) (by simp +decide [oSm, c402_119, c419_120, c444_121]) m47 m51 m64 u46_1 u46_2 u46_3 m52 m56 m57 o58 m65 m69 m70 o71 m77 m78 m79 o80 m83 m84 m85 o86 (by decide) (by decide) (by decide) (by decide) q10 q11 q12 q12 q13 q14 q15 q15 n53 n67 q24 q25 (fun v122 h122 U122 => ?_) K (X46.mono (by decide) (by decide))
 obtain rfl : v122 = some (.int 1) := U122
 exact hQ _ _ rfl
 refine o_icmp_ne_t K X46 at_444 (by decide) (pc' := 468) (by decide) c444_121 ?_
 refine o_iconst K X46 at_468 rfl (z := 0) rfl ?_
 refine o_istore K X46 at_469 rfl (L' := #[vI i0, vI i1, vI i2, vI i3, vI i4, vI i5, vI 2, vI 1, vI cp, vI cq, vI 2, vI 1, vR ar1, vR ar2, vR ar3, vR ar4, vR b1, vR b21, vI (((i5.toUInt32 >>> ((2 : Int32) &&& 31).toUInt32).toInt32) &&& (7 : Int32)), vI 1, vI 0, uS]) rfl ?_
 refine tl_lw3 l Z a0 hw i0 i1 i2 i3 i4 i5 cp cq (((i5.toUInt32 >>> ((2 : Int32) &&& 31).toUInt32).toInt32) &&& (7 : Int32)) 1 0 ar1 ar2 ar3 ar4 b1 b21 b2 vb_4 k_4 b5 vb_8 k_8 b22 vb_27 k_27 b28 vb_34 k_34 2 1 2 1 ca cb da da ua ub ya ya cs h46 (by simp +decide [oSm, c402_119, c419_120, c444_121]) (by simp +decide [oSm, c402_119, c419_120, c444_121]) m47 m51 m64 u46_1 u46_2 u46_3 m52 m56 m57 o58 m65 m69 m70 o71 m77 m78 m79 o80 m83 m84 m85 o86 (by decide) (by decide) (by decide) (by decide) q10 q11 q12 q12 q13 q14 q15 q15 n53 n67 q24 q25 (fun v123 h123 U123 => ?_) K (X46.mono (by decide) (by decide))
 obtain rfl : v123 = some (.int 1) := U123
 exact hQ _ _ rfl
 refine o_icmp_ne_t K X46 at_419 (by decide) (pc' := 426) (by decide) c419_120 ?_
 refine o_iconst K X46 at_426 rfl (z := 0) rfl ?_
 refine o_istore K X46 at_427 rfl (L' := #[vI i0, vI i1, vI i2, vI i3, vI i4, vI i5, vI 2, vI 1, vI cp, vI cq, vI 2, vI 1, vR ar1, vR ar2, vR ar3, vR ar4, vR b1, vR b21, vI (((i5.toUInt32 >>> ((2 : Int32) &&& 31).toUInt32).toInt32) &&& (7 : Int32)), vI 0, uS, uS]) rfl ?_
 refine o_iload K X46 at_429 rfl rfl ?_
 refine o_iload K X46 at_431 rfl rfl ?_
 refine o_icmp_ne_f K X46 at_433 rfl (by decide) ?_
 refine o_aload K X46 at_436 rfl rfl rfl ?_
 refine o_iconst K X46 at_438 rfl (z := 0) rfl ?_
 refine o_caload K X46 m101 (by decide) (v := (.int da)) rfl at_439 rfl ?_
 refine o_aload K X46 at_440 rfl rfl rfl ?_
 refine o_iconst K X46 at_442 rfl (z := 0) rfl ?_
 refine o_caload K X46 m108 (by decide) (v := (.int ya)) rfl at_443 rfl ?_
 by_cases c444_124 : da = ya
 refine o_icmp_ne_f K X46 at_444 rfl c444_124 ?_
 refine o_iload K X46 at_447 rfl rfl ?_
 refine o_iconst K X46 at_449 rfl (z := 1) rfl ?_
 refine o_icmp_eq_t K X46 at_450 (by decide) (pc' := 464) (by decide) (by decide) ?_
 refine o_iconst K X46 at_464 rfl (z := 1) rfl ?_
 refine o_goto K X46 at_465 (by decide) (pc' := 469) (by decide) ?_
 refine o_istore K X46 at_469 rfl (L' := #[vI i0, vI i1, vI i2, vI i3, vI i4, vI i5, vI 2, vI 1, vI cp, vI cq, vI 2, vI 1, vR ar1, vR ar2, vR ar3, vR ar4, vR b1, vR b21, vI (((i5.toUInt32 >>> ((2 : Int32) &&& 31).toUInt32).toInt32) &&& (7 : Int32)), vI 0, vI 1, uS]) rfl ?_
 refine tl_lw3 l Z a0 hw i0 i1 i2 i3 i4 i5 cp cq (((i5.toUInt32 >>> ((2 : Int32) &&& 31).toUInt32).toInt32) &&& (7 : Int32)) 0 1 ar1 ar2 ar3 ar4 b1 b21 b2 vb_4 k_4 b5 vb_8 k_8 b22 vb_27 k_27 b28 vb_34 k_34 2 1 2 1 ca cb da da ua ub ya ya cs h46 (by simp +decide [oSm, c402_119, c419_120, c444_124]) (by simp +decide [oSm, c402_119, c419_120, c444_124]) m47 m51 m64 u46_1 u46_2 u46_3 m52 m56 m57 o58 m65 m69 m70 o71 m77 m78 m79 o80 m83 m84 m85 o86 (by decide) (by decide) (by decide) (by decide) q10 q11 q12 q12 q13 q14 q15 q15 n53 n67 q24 q25 (fun v125 h125 U125 => ?_) K (X46.mono (by decide) (by decide))
 obtain rfl : v125 = some (.int 1) := U125
 exact hQ _ _ rfl
 refine o_icmp_ne_t K X46 at_444 (by decide) (pc' := 468) (by decide) c444_124 ?_
 refine o_iconst K X46 at_468 rfl (z := 0) rfl ?_
 refine o_istore K X46 at_469 rfl (L' := #[vI i0, vI i1, vI i2, vI i3, vI i4, vI i5, vI 2, vI 1, vI cp, vI cq, vI 2, vI 1, vR ar1, vR ar2, vR ar3, vR ar4, vR b1, vR b21, vI (((i5.toUInt32 >>> ((2 : Int32) &&& 31).toUInt32).toInt32) &&& (7 : Int32)), vI 0, vI 0, uS]) rfl ?_
 refine tl_lw3 l Z a0 hw i0 i1 i2 i3 i4 i5 cp cq (((i5.toUInt32 >>> ((2 : Int32) &&& 31).toUInt32).toInt32) &&& (7 : Int32)) 0 0 ar1 ar2 ar3 ar4 b1 b21 b2 vb_4 k_4 b5 vb_8 k_8 b22 vb_27 k_27 b28 vb_34 k_34 2 1 2 1 ca cb da da ua ub ya ya cs h46 (by simp +decide [oSm, c402_119, c419_120, c444_124]) (by simp +decide [oSm, c402_119, c419_120, c444_124]) m47 m51 m64 u46_1 u46_2 u46_3 m52 m56 m57 o58 m65 m69 m70 o71 m77 m78 m79 o80 m83 m84 m85 o86 (by decide) (by decide) (by decide) (by decide) q10 q11 q12 q12 q13 q14 q15 q15 n53 n67 q24 q25 (fun v126 h126 U126 => ?_) K (X46.mono (by decide) (by decide))
 obtain rfl : v126 = some (.int 1) := U126
 exact hQ _ _ rfl
 refine o_icmp_ne_t K X46 at_402 (by decide) (pc' := 426) (by decide) c402_119 ?_
 refine o_iconst K X46 at_426 rfl (z := 0) rfl ?_
 refine o_istore K X46 at_427 rfl (L' := #[vI i0, vI i1, vI i2, vI i3, vI i4, vI i5, vI 2, vI 1, vI cp, vI cq, vI 2, vI 1, vR ar1, vR ar2, vR ar3, vR ar4, vR b1, vR b21, vI (((i5.toUInt32 >>> ((2 : Int32) &&& 31).toUInt32).toInt32) &&& (7 : Int32)), vI 0, uS, uS]) rfl ?_
 refine o_iload K X46 at_429 rfl rfl ?_
 refine o_iload K X46 at_431 rfl rfl ?_
 refine o_icmp_ne_f K X46 at_433 rfl (by decide) ?_
 refine o_aload K X46 at_436 rfl rfl rfl ?_
 refine o_iconst K X46 at_438 rfl (z := 0) rfl ?_
 refine o_caload K X46 m101 (by decide) (v := (.int da)) rfl at_439 rfl ?_
 refine o_aload K X46 at_440 rfl rfl rfl ?_
 refine o_iconst K X46 at_442 rfl (z := 0) rfl ?_
 refine o_caload K X46 m108 (by decide) (v := (.int ya)) rfl at_443 rfl ?_
 by_cases c444_127 : da = ya
 refine o_icmp_ne_f K X46 at_444 rfl c444_127 ?_
 refine o_iload K X46 at_447 rfl rfl ?_
 refine o_iconst K X46 at_449 rfl (z := 1) rfl ?_
 refine o_icmp_eq_t K X46 at_450 (by decide) (pc' := 464) (by decide) (by decide) ?_
 refine o_iconst K X46 at_464 rfl (z := 1) rfl ?_
 refine o_goto K X46 at_465 (by decide) (pc' := 469) (by decide) ?_
 refine o_istore K X46 at_469 rfl (L' := #[vI i0, vI i1, vI i2, vI i3, vI i4, vI i5, vI 2, vI 1, vI cp, vI cq, vI 2, vI 1, vR ar1, vR ar2, vR ar3, vR ar4, vR b1, vR b21, vI (((i5.toUInt32 >>> ((2 : Int32) &&& 31).toUInt32).toInt32) &&& (7 : Int32)), vI 0, vI 1, uS]) rfl ?_
 refine tl_lw3 l Z a0 hw i0 i1 i2 i3 i4 i5 cp cq (((i5.toUInt32 >>> ((2 : Int32) &&& 31).toUInt32).toInt32) &&& (7 : Int32)) 0 1 ar1 ar2 ar3 ar4 b1 b21 b2 vb_4 k_4 b5 vb_8 k_8 b22 vb_27 k_27 b28 vb_34 k_34 2 1 2 1 ca cb da da ua ub ya ya cs h46 (by simp +decide [oSm, c402_119, c444_127]) (by simp +decide [oSm, c402_119, c444_127]) m47 m51 m64 u46_1 u46_2 u46_3 m52 m56 m57 o58 m65 m69 m70 o71 m77 m78 m79 o80 m83 m84 m85 o86 (by decide) (by decide) (by decide) (by decide) q10 q11 q12 q12 q13 q14 q15 q15 n53 n67 q24 q25 (fun v128 h128 U128 => ?_) K (X46.mono (by decide) (by decide))
 obtain rfl : v128 = some (.int 1) := U128
 exact hQ _ _ rfl
 refine o_icmp_ne_t K X46 at_444 (by decide) (pc' := 468) (by decide) c444_127 ?_
 refine o_iconst K X46 at_468 rfl (z := 0) rfl ?_
 refine o_istore K X46 at_469 rfl (L' := #[vI i0, vI i1, vI i2, vI i3, vI i4, vI i5, vI 2, vI 1, vI cp, vI cq, vI 2, vI 1, vR ar1, vR ar2, vR ar3, vR ar4, vR b1, vR b21, vI (((i5.toUInt32 >>> ((2 : Int32) &&& 31).toUInt32).toInt32) &&& (7 : Int32)), vI 0, vI 0, uS]) rfl ?_
 refine tl_lw3 l Z a0 hw i0 i1 i2 i3 i4 i5 cp cq (((i5.toUInt32 >>> ((2 : Int32) &&& 31).toUInt32).toInt32) &&& (7 : Int32)) 0 0 ar1 ar2 ar3 ar4 b1 b21 b2 vb_4 k_4 b5 vb_8 k_8 b22 vb_27 k_27 b28 vb_34 k_34 2 1 2 1 ca cb da da ua ub ya ya cs h46 (by simp +decide [oSm, c402_119, c444_127]) (by simp +decide [oSm, c402_119, c444_127]) m47 m51 m64 u46_1 u46_2 u46_3 m52 m56 m57 o58 m65 m69 m70 o71 m77 m78 m79 o80 m83 m84 m85 o86 (by decide) (by decide) (by decide) (by decide) q10 q11 q12 q12 q13 q14 q15 q15 n53 n67 q24 q25 (fun v129 h129 U129 => ?_) K (X46.mono (by decide) (by decide))
 obtain rfl : v129 = some (.int 1) := U129
 exact hQ _ _ rfl
def Q_t258_2122 (Z : State) (i0 i1 i2 i3 i4 i5 cp cq : Int32) (ar1 : Addr) (kar1 : ClassId) (ar2 : Addr) (kar2 : ClassId) (ar3 : Addr) (kar3 : ClassId) (ar4 : Addr) (kar4 : ClassId) (ca cb da ua ub ya yb : Int32) (fm : Value) (cs : Int32) (h0 : Heap) (v : Option Value) (h : Heap) : Prop := v = some (.int 1)
theorem tl_t258_2122 (l : Launch) (Z : State) (a0 : Array Value) (hw : oHw Z a0) (i0 i1 i2 i3 i4 i5 cp cq : Int32) (ar1 : Addr) (kar1 : ClassId) (ar2 : Addr) (kar2 : ClassId) (ar3 : Addr) (kar3 : ClassId) (ar4 : Addr) (kar4 : ClassId) (ca cb da ua ub ya yb : Int32) (fm : Value) (cs : Int32) (h0 : Heap) (q0 : oArr Z h0 ar1 kar1 .char [.int ca, .int cb]) (q1 : oArr Z h0 ar2 kar2 .char [.int da]) (q2 : oArr Z h0 ar3 kar3 .char [.int ua, .int ub]) (q3 : oArr Z h0 ar4 kar4 .char [.int ya, .int yb]) (q4 : oSh ca) (q5 : oSh cb) (q6 : oId da) (q7 : oSh ua) (q8 : oSh ub) (q9 : oId ya) (q10 : oId yb) (q11 : oCh ca) (q12 : oCh cb) (q13 : oCh da) (q14 : oCh ua) (q15 : oCh ub) (q16 : oCh ya) (q17 : oCh yb) (q18 : nar .char ca = ca) (q19 : nar .char cb = cb) (q20 : nar .char da = da) (q21 : nar .char ua = ua) (q22 : nar .char ub = ub) (q23 : nar .char ya = ya) (q24 : nar .char yb = yb) (q25 : Sta Z Z.heap z3 z5 z6 fm) (q26 : fm.isRef = true) (q27 : Sta Z Z.heap z0 z4 "Z" (.int cs)) (q28 : ¬ (cs = (0 : Int32))) {Q : Option Value → Heap → Prop} (hQ : ∀ v h, Q_t258_2122 Z i0 i1 i2 i3 i4 i5 cp cq ar1 kar1 ar2 kar2 ar3 kar3 ar4 kar4 ca cb da ua ub ya yb fm cs h0 v h → Q v h) {pp : Program} {ee : Env} {ss : State} {mm : MethodId} {bb : List Frame} {mtd : Method} {cc : Code} {A : Array Value} {T0 : State} (K : oCtx pp ss mm mtd cc Z z7 code maxLocals "law" ret x) (X0 : oSt pp l ee room_1 ss mm A bb mtd cc Z T0 h0 4 8) : oGoes pp ee bb ss Z T0 (mkF mm 258 #[vI i0, vI i1, vI i2, vI i3, vI i4, vI i5, vI 2, vI 1, vI cp, vI cq, vI 2, vI 2, vR ar1, vR ar2, vR ar3, vR ar4, uS, uS, uS, uS, uS, uS] []) Q room_1.cells room_1.slots := by
 have E0 := X0.ext0
 refine o_new K X0 (w9 hw) (w10 hw) (w11 hw) at_258 rfl (by decide) (by decide) ?_
 intro T1 h1 b1 X1 g1 E1 A1 D1 G1
 have F1_shelf : Fld Z h1 b1 z1 "shelf" z2 .null := (D1 (Or.inr (w109 hw)) (ty := (.object z0)) (by decide))
 have F1_id : Fld Z h1 b1 z1 "id" z2 .null := (D1 (Or.inr (w111 hw)) (ty := (.object z0)) (by decide))
 refine o_dup K X1 at_261 rfl rfl ?_
 refine o_new K X1 (w12 hw) (w13 hw) (w14 hw) at_262 rfl (by decide) (by decide) ?_
 intro T2 h2 b2 X2 g2 E2 A2 D2 G2
 have F2_coder : Fld Z h2 b2 z0 "coder" "B" (.int 0) := (D2 (Or.inr (w38 hw)) (ty := .byte) (by decide))
 have F2_value : Fld Z h2 b2 z0 "value" "[B" .null := (D2 (Or.inr (w40 hw)) (ty := (.array .byte)) (by decide))
 refine o_dup K X2 at_265 rfl rfl ?_
 refine o_aload K X2 at_266 rfl rfl rfl ?_
 have m3 := ((q0.ext E1).ext E2)
 refine o_special K X2 (y := (⟨z0, "<init>", "([C)V"⟩ : MethodName)) rfl (w15 hw) (w16 hw) (w14 hw) (w17 hw) (by decide) (rm_str_2 l Z a0 hw b2 ar1 kar1 cs ca cb h2 A2 F2_value F2_coder G2 m3 q27 q28 q11.2 q12.2) (by decide) rfl (argsL := [.ref ar1]) rfl (lenOf pd17 rfl) (W := 3) rfl (by decide) (by decide) (by decide) at_268 rfl ?_
 intro v4 T4 h4 X4 U4
 obtain ⟨vb_4, k_4, rfl, u4_0, u4_1, u4_2, u4_3, u4_4, u4_5⟩ := U4
 have G4_vb : Z.heap.size ≤ vb_4 := Nat.le_trans X2.ext0.1 u4_4
 show oGoes pp ee bb ss Z T4 (mkF mm 271 _ [.ref b2, .ref b1, .ref b1]) _ _ _
 refine o_new K X4 (w12 hw) (w13 hw) (w14 hw) at_271 rfl (by decide) (by decide) ?_
 intro T5 h5 b5 X5 g5 E5 A5 D5 G5
 have F5_coder : Fld Z h5 b5 z0 "coder" "B" (.int 0) := (D5 (Or.inr (w38 hw)) (ty := .byte) (by decide))
 have F5_value : Fld Z h5 b5 z0 "value" "[B" .null := (D5 (Or.inr (w40 hw)) (ty := (.array .byte)) (by decide))
 refine o_dup K X5 at_274 rfl rfl ?_
 refine o_aload K X5 at_275 rfl rfl rfl ?_
 have n6 := oLn q1.lt E1.1 (oLe g2)
 have m7 := ((((q1.ext E1).ext E2).keep u4_0 (ninS n6 nin0)).ext E5)
 refine o_special K X5 (y := (⟨z0, "<init>", "([C)V"⟩ : MethodName)) rfl (w15 hw) (w16 hw) (w14 hw) (w17 hw) (by decide) (rm_str_1 l Z a0 hw b5 ar2 kar2 cs da h5 A5 F5_value F5_coder G5 m7 q27 q28 q13.2) (by decide) rfl (argsL := [.ref ar2]) rfl (lenOf pd17 rfl) (W := 4) rfl (by decide) (by decide) (by decide) at_277 rfl ?_
 intro v8 T8 h8 X8 U8
 obtain ⟨vb_8, k_8, rfl, u8_0, u8_1, u8_2, u8_3, u8_4, u8_5⟩ := U8
 have G8_vb : Z.heap.size ≤ vb_8 := Nat.le_trans X5.ext0.1 u8_4
 show oGoes pp ee bb ss Z T8 (mkF mm 280 _ [.ref b5, .ref b2, .ref b1, .ref b1]) _ _ _
 have m9 := ((((A1.ext E2).keep u4_0).ext E5).keep u8_0)
 have n10 := oLz A1.lt (oLe g2)
 have n11 := oLn A1.lt (Nat.le_trans E2.1 u4_0.1) (oLe g5)
 have m12 := ((((F1_shelf.ext E2).keep u4_0 (ninS n10 nin0)).ext E5).keep u8_0 (ninS n11 nin0))
 have m13 := ((((F1_id.ext E2).keep u4_0 (ninS n10 nin0)).ext E5).keep u8_0 (ninS n11 nin0))
 have m14 := ((u4_1.ext E5).keep u8_0)
 have n15 := oLn A2.lt u4_0.1 (oLe g5)
 have m16 := ((u4_2.ext E5).keep u8_0 (ninS n15 nin0))
 have m17 := ((u4_3.ext E5).keep u8_0 (ninS n15 nin0))
 have n18 := oLz u4_5.lt (oLe g5)
 have m19 := ((u4_5.ext E5).keep u8_0 (ninS n18 nin0))
 refine o_special K X8 (y := (⟨z1, "<init>", z8⟩ : MethodName)) rfl (w41 hw) (w42 hw) (w11 hw) (w43 hw) (by decide) (rm_rk21 l Z a0 hw b1 b2 vb_4 k_4 b5 vb_8 k_8 ca cb da fm cs h8 m9 G1 m12 m13 m14 m16 m17 m19 u8_1 u8_2 u8_3 u8_5 q4 q5 q6 q11 q12 q13 q25 q26 q27 q28) (by decide) rfl (argsL := [.ref b2, .ref b5]) rfl (lenOf pd18 rfl) (W := 1) rfl (by decide) (by decide) (by decide) at_280 rfl ?_
 intro v20 T20 h20 X20 U20
 obtain ⟨rfl, u20_0, u20_1, u20_2, u20_3⟩ := U20
 show oGoes pp ee bb ss Z T20 (mkF mm 283 _ [.ref b1]) _ _ _
 refine o_astore K X20 at_283 rfl rfl (L' := #[vI i0, vI i1, vI i2, vI i3, vI i4, vI i5, vI 2, vI 1, vI cp, vI cq, vI 2, vI 2, vR ar1, vR ar2, vR ar3, vR ar4, vR b1, uS, uS, uS, uS, uS]) rfl ?_
 refine o_new K X20 (w9 hw) (w10 hw) (w11 hw) at_285 rfl (by decide) (by decide) ?_
 intro T21 h21 b21 X21 g21 E21 A21 D21 G21
 have F21_shelf : Fld Z h21 b21 z1 "shelf" z2 .null := (D21 (Or.inr (w109 hw)) (ty := (.object z0)) (by decide))
 have F21_id : Fld Z h21 b21 z1 "id" z2 .null := (D21 (Or.inr (w111 hw)) (ty := (.object z0)) (by decide))
 refine o_dup K X21 at_288 rfl rfl ?_
 refine o_new K X21 (w12 hw) (w13 hw) (w14 hw) at_289 rfl (by decide) (by decide) ?_
 intro T22 h22 b22 X22 g22 E22 A22 D22 G22
 have F22_coder : Fld Z h22 b22 z0 "coder" "B" (.int 0) := (D22 (Or.inr (w38 hw)) (ty := .byte) (by decide))
 have F22_value : Fld Z h22 b22 z0 "value" "[B" .null := (D22 (Or.inr (w40 hw)) (ty := (.array .byte)) (by decide))
 refine o_dup K X22 at_292 rfl rfl ?_
 refine o_aload K X22 at_293 rfl rfl rfl ?_
 have n23 := oLn q2.lt E1.1 (oLe g2)
 have y0_3 := Nat.le_trans (Nat.le_trans E1.1 E2.1) u4_0.1
 have n24 := oLn q2.lt y0_3 (oLe g5)
 have n25 := oLz q2.lt (oLe g1)
 have m26 := ((((((((q2.ext E1).ext E2).keep u4_0 (ninS n23 nin0)).ext E5).keep u8_0 (ninS n24 nin0)).keep u20_0 (ninS n25 nin0)).ext E21).ext E22)
 refine o_special K X22 (y := (⟨z0, "<init>", "([C)V"⟩ : MethodName)) rfl (w15 hw) (w16 hw) (w14 hw) (w17 hw) (by decide) (rm_str_2 l Z a0 hw b22 ar3 kar3 cs ua ub h22 A22 F22_value F22_coder G22 m26 q27 q28 q14.2 q15.2) (by decide) rfl (argsL := [.ref ar3]) rfl (lenOf pd17 rfl) (W := 3) rfl (by decide) (by decide) (by decide) at_295 rfl ?_
 intro v27 T27 h27 X27 U27
 obtain ⟨vb_27, k_27, rfl, u27_0, u27_1, u27_2, u27_3, u27_4, u27_5⟩ := U27
 have G27_vb : Z.heap.size ≤ vb_27 := Nat.le_trans X22.ext0.1 u27_4
 show oGoes pp ee bb ss Z T27 (mkF mm 298 _ [.ref b22, .ref b21, .ref b21]) _ _ _
 refine o_new K X27 (w12 hw) (w13 hw) (w14 hw) at_298 rfl (by decide) (by decide) ?_
 intro T28 h28 b28 X28 g28 E28 A28 D28 G28
 have F28_coder : Fld Z h28 b28 z0 "coder" "B" (.int 0) := (D28 (Or.inr (w38 hw)) (ty := .byte) (by decide))
 have F28_value : Fld Z h28 b28 z0 "value" "[B" .null := (D28 (Or.inr (w40 hw)) (ty := (.array .byte)) (by decide))
 refine o_dup K X28 at_301 rfl rfl ?_
 refine o_aload K X28 at_302 rfl rfl rfl ?_
 have n29 := oLn q3.lt E1.1 (oLe g2)
 have n30 := oLn q3.lt y0_3 (oLe g5)
 have n31 := oLz q3.lt (oLe g1)
 have y0_7 := Nat.le_trans (Nat.le_trans (Nat.le_trans (Nat.le_trans y0_3 E5.1) u8_0.1) u20_0.1) E21.1
 have n32 := oLn q3.lt y0_7 (oLe g22)
 have m33 := ((((((((((q3.ext E1).ext E2).keep u4_0 (ninS n29 nin0)).ext E5).keep u8_0 (ninS n30 nin0)).keep u20_0 (ninS n31 nin0)).ext E21).ext E22).keep u27_0 (ninS n32 nin0)).ext E28)
 refine o_special K X28 (y := (⟨z0, "<init>", "([C)V"⟩ : MethodName)) rfl (w15 hw) (w16 hw) (w14 hw) (w17 hw) (by decide) (rm_str_2 l Z a0 hw b28 ar4 kar4 cs ya yb h28 A28 F28_value F28_coder G28 m33 q27 q28 q16.2 q17.2) (by decide) rfl (argsL := [.ref ar4]) rfl (lenOf pd17 rfl) (W := 4) rfl (by decide) (by decide) (by decide) at_304 rfl ?_
 intro v34 T34 h34 X34 U34
 obtain ⟨vb_34, k_34, rfl, u34_0, u34_1, u34_2, u34_3, u34_4, u34_5⟩ := U34
 have G34_vb : Z.heap.size ≤ vb_34 := Nat.le_trans X28.ext0.1 u34_4
 show oGoes pp ee bb ss Z T34 (mkF mm 307 _ [.ref b28, .ref b22, .ref b21, .ref b21]) _ _ _
 have m35 := ((((A21.ext E22).keep u27_0).ext E28).keep u34_0)
 have n36 := oLz A21.lt (oLe g22)
 have n37 := oLn A21.lt (Nat.le_trans E22.1 u27_0.1) (oLe g28)
 have m38 := ((((F21_shelf.ext E22).keep u27_0 (ninS n36 nin0)).ext E28).keep u34_0 (ninS n37 nin0))
 have m39 := ((((F21_id.ext E22).keep u27_0 (ninS n36 nin0)).ext E28).keep u34_0 (ninS n37 nin0))
 have m40 := ((u27_1.ext E28).keep u34_0)
 have n41 := oLn A22.lt u27_0.1 (oLe g28)
 have m42 := ((u27_2.ext E28).keep u34_0 (ninS n41 nin0))
 have m43 := ((u27_3.ext E28).keep u34_0 (ninS n41 nin0))
 have n44 := oLz u27_5.lt (oLe g28)
 have m45 := ((u27_5.ext E28).keep u34_0 (ninS n44 nin0))
 refine o_special K X34 (y := (⟨z1, "<init>", z8⟩ : MethodName)) rfl (w41 hw) (w42 hw) (w11 hw) (w43 hw) (by decide) (rm_rk22 l Z a0 hw b21 b22 vb_27 k_27 b28 vb_34 k_34 ua ub ya yb fm cs h34 m35 G21 m38 m39 m40 m42 m43 m45 u34_1 u34_2 u34_3 u34_5 q7 q8 q9 q10 q14 q15 q16 q17 q25 q26 q27 q28) (by decide) rfl (argsL := [.ref b22, .ref b28]) rfl (lenOf pd18 rfl) (W := 1) rfl (by decide) (by decide) (by decide) at_307 rfl ?_
 intro v46 T46 h46 X46 U46
 obtain ⟨rfl, u46_0, u46_1, u46_2, u46_3⟩ := U46
 show oGoes pp ee bb ss Z T46 (mkF mm 310 _ [.ref b21]) _ _ _
 refine o_astore K X46 at_310 rfl rfl (L' := #[vI i0, vI i1, vI i2, vI i3, vI i4, vI i5, vI 2, vI 1, vI cp, vI cq, vI 2, vI 2, vR ar1, vR ar2, vR ar3, vR ar4, vR b1, vR b21, uS, uS, uS, uS]) rfl ?_
 have m47 := ((((((u20_1.ext E21).ext E22).keep u27_0).ext E28).keep u34_0).keep u46_0)
 have y1_7 := Nat.le_trans (Nat.le_trans (Nat.le_trans (Nat.le_trans (Nat.le_trans E2.1 u4_0.1) E5.1) u8_0.1) u20_0.1) E21.1
 have n48 := oLn A1.lt y1_7 (oLe g22)
 have y1_9 := Nat.le_trans (Nat.le_trans y1_7 E22.1) u27_0.1
 have n49 := oLn A1.lt y1_9 (oLe g28)
 have y1_6 := Nat.le_trans (Nat.le_trans (Nat.le_trans (Nat.le_trans E2.1 u4_0.1) E5.1) u8_0.1) u20_0.1
 have n50 := oLn A1.lt y1_6 (oLe g21)
 have m51 := ((((((u20_2.ext E21).ext E22).keep u27_0 (ninS n48 nin0)).ext E28).keep u34_0 (ninS n49 nin0)).keep u46_0 (ninS n50 nin0))
 have m52 := (((((((m14.keep u20_0).ext E21).ext E22).keep u27_0).ext E28).keep u34_0).keep u46_0)
 have y2_7 := Nat.le_trans (Nat.le_trans (Nat.le_trans (Nat.le_trans u4_0.1 E5.1) u8_0.1) u20_0.1) E21.1
 have n53 := oLn A2.lt y2_7 (oLe g22)
 have y2_9 := Nat.le_trans (Nat.le_trans y2_7 E22.1) u27_0.1
 have n54 := oLn A2.lt y2_9 (oLe g28)
 have y2_6 := Nat.le_trans (Nat.le_trans (Nat.le_trans u4_0.1 E5.1) u8_0.1) u20_0.1
 have n55 := oLn A2.lt y2_6 (oLe g21)
 have m56 := (((((((m16.keep u20_0 (ninS (Ne.symm n10) nin0)).ext E21).ext E22).keep u27_0 (ninS n53 nin0)).ext E28).keep u34_0 (ninS n54 nin0)).keep u46_0 (ninS n55 nin0))
 have m57 := (((((((m17.keep u20_0 (ninS (Ne.symm n10) nin0)).ext E21).ext E22).keep u27_0 (ninS n53 nin0)).ext E28).keep u34_0 (ninS n54 nin0)).keep u46_0 (ninS n55 nin0))
 have n59 := oLsn A1.lt E2.1 u4_4
 have y3_7 := Nat.le_trans (Nat.le_trans (Nat.le_trans E5.1 u8_0.1) u20_0.1) E21.1
 have n60 := oLn u4_5.lt y3_7 (oLe g22)
 have y3_9 := Nat.le_trans (Nat.le_trans y3_7 E22.1) u27_0.1
 have n61 := oLn u4_5.lt y3_9 (oLe g28)
 have y3_6 := Nat.le_trans (Nat.le_trans E5.1 u8_0.1) u20_0.1
 have n62 := oLn u4_5.lt y3_6 (oLe g21)
 have m63 := (((((((m19.keep u20_0 (ninS n59 nin0)).ext E21).ext E22).keep u27_0 (ninS n60 nin0)).ext E28).keep u34_0 (ninS n61 nin0)).keep u46_0 (ninS n62 nin0))
 have o58 := oByC (oBy2 ca cb) m63
 have m64 := ((((((u20_3.ext E21).ext E22).keep u27_0 (ninS n48 nin0)).ext E28).keep u34_0 (ninS n49 nin0)).keep u46_0 (ninS n50 nin0))
 have m65 := (((((((u8_1.keep u20_0).ext E21).ext E22).keep u27_0).ext E28).keep u34_0).keep u46_0)
 have y4_7 := Nat.le_trans (Nat.le_trans u8_0.1 u20_0.1) E21.1
 have n66 := oLn A5.lt y4_7 (oLe g22)
 have y4_9 := Nat.le_trans (Nat.le_trans y4_7 E22.1) u27_0.1
 have n67 := oLn A5.lt y4_9 (oLe g28)
 have n68 := oLn A5.lt (Nat.le_trans u8_0.1 u20_0.1) (oLe g21)
 have m69 := (((((((u8_2.keep u20_0 (ninS (Ne.symm n11) nin0)).ext E21).ext E22).keep u27_0 (ninS n66 nin0)).ext E28).keep u34_0 (ninS n67 nin0)).keep u46_0 (ninS n68 nin0))
 have m70 := (((((((u8_3.keep u20_0 (ninS (Ne.symm n11) nin0)).ext E21).ext E22).keep u27_0 (ninS n66 nin0)).ext E28).keep u34_0 (ninS n67 nin0)).keep u46_0 (ninS n68 nin0))
 have y1_4 := Nat.le_trans (Nat.le_trans E2.1 u4_0.1) E5.1
 have n72 := oLsn A1.lt y1_4 u8_4
 have n73 := oLn u8_5.lt (Nat.le_trans u20_0.1 E21.1) (oLe g22)
 have y5_9 := Nat.le_trans (Nat.le_trans (Nat.le_trans u20_0.1 E21.1) E22.1) u27_0.1
 have n74 := oLn u8_5.lt y5_9 (oLe g28)
 have n75 := oLn u8_5.lt u20_0.1 (oLe g21)
 have m76 := (((((((u8_5.keep u20_0 (ninS n72 nin0)).ext E21).ext E22).keep u27_0 (ninS n73 nin0)).ext E28).keep u34_0 (ninS n74 nin0)).keep u46_0 (ninS n75 nin0))
 have o71 := oByC (oBy1 da da) m76
 have m77 := (m40.keep u46_0)
 have m78 := (m42.keep u46_0 (ninS (Ne.symm n36) nin0))
 have m79 := (m43.keep u46_0 (ninS (Ne.symm n36) nin0))
 have n81 := oLsn A21.lt E22.1 u27_4
 have m82 := (m45.keep u46_0 (ninS n81 nin0))
 have o80 := oByC (oBy2 ua ub) m82
 have m83 := (u34_1.keep u46_0)
 have m84 := (u34_2.keep u46_0 (ninS (Ne.symm n37) nin0))
 have m85 := (u34_3.keep u46_0 (ninS (Ne.symm n37) nin0))
 have y7_10 := Nat.le_trans (Nat.le_trans E22.1 u27_0.1) E28.1
 have n87 := oLsn A21.lt y7_10 u34_4
 have m88 := (u34_5.keep u46_0 (ninS n87 nin0))
 have o86 := oByC (oBy2 ya yb) m88
 have n89 := oLn q0.lt E1.1 (oLe g2)
 have n90 := oLn q0.lt y0_3 (oLe g5)
 have n91 := oLz q0.lt (oLe g1)
 have n92 := oLn q0.lt y0_7 (oLe g22)
 have y0_9 := Nat.le_trans (Nat.le_trans y0_7 E22.1) u27_0.1
 have n93 := oLn q0.lt y0_9 (oLe g28)
 have y0_6 := Nat.le_trans (Nat.le_trans (Nat.le_trans y0_3 E5.1) u8_0.1) u20_0.1
 have n94 := oLn q0.lt y0_6 (oLe g21)
 have m95 := ((((((((((m3.keep u4_0 (ninS n89 nin0)).ext E5).keep u8_0 (ninS n90 nin0)).keep u20_0 (ninS n91 nin0)).ext E21).ext E22).keep u27_0 (ninS n92 nin0)).ext E28).keep u34_0 (ninS n93 nin0)).keep u46_0 (ninS n94 nin0))
 have n96 := oLn q1.lt y0_3 (oLe g5)
 have n97 := oLz q1.lt (oLe g1)
 have n98 := oLn q1.lt y0_7 (oLe g22)
 have n99 := oLn q1.lt y0_9 (oLe g28)
 have n100 := oLn q1.lt y0_6 (oLe g21)
 have m101 := ((((((((m7.keep u8_0 (ninS n96 nin0)).keep u20_0 (ninS n97 nin0)).ext E21).ext E22).keep u27_0 (ninS n98 nin0)).ext E28).keep u34_0 (ninS n99 nin0)).keep u46_0 (ninS n100 nin0))
 have n102 := oLn q2.lt y0_7 (oLe g22)
 have n103 := oLn q2.lt y0_9 (oLe g28)
 have n104 := oLn q2.lt y0_6 (oLe g21)
 have m105 := ((((m26.keep u27_0 (ninS n102 nin0)).ext E28).keep u34_0 (ninS n103 nin0)).keep u46_0 (ninS n104 nin0))
 have n106 := oLn q3.lt y0_9 (oLe g28)
 have n107 := oLn q3.lt y0_6 (oLe g21)
 have m108 := ((m33.keep u34_0 (ninS n106 nin0)).keep u46_0 (ninS n107 nin0))
 refine o_iload K X46 at_312 rfl rfl ?_
 refine o_iconst K X46 at_314 rfl (z := 2) rfl ?_
 refine o_iushr K X46 at_315 rfl (z := ((i5.toUInt32 >>> ((2 : Int32) &&& 31).toUInt32).toInt32)) rfl ?_
 refine o_bipush K X46 at_316 rfl (z := 7) rfl ?_
 refine o_iand K X46 at_318 rfl (z := (((i5.toUInt32 >>> ((2 : Int32) &&& 31).toUInt32).toInt32) &&& (7 : Int32))) rfl ?_
 refine o_istore K X46 at_319 rfl (L' := #[vI i0, vI i1, vI i2, vI i3, vI i4, vI i5, vI 2, vI 1, vI cp, vI cq, vI 2, vI 2, vR ar1, vR ar2, vR ar3, vR ar4, vR b1, vR b21, vI (((i5.toUInt32 >>> ((2 : Int32) &&& 31).toUInt32).toInt32) &&& (7 : Int32)), uS, uS, uS]) rfl ?_
 refine o_iload K X46 at_321 rfl rfl ?_
 refine o_iconst K X46 at_323 rfl (z := 5) rfl ?_
 by_cases c324_109 : (((i5.toUInt32 >>> ((2 : Int32) &&& 31).toUInt32).toInt32) &&& (7 : Int32)) = (5 : Int32)
 refine o_icmp_ne_f K X46 at_324 rfl c324_109 ?_
 refine o_aload K X46 at_327 rfl rfl rfl ?_
 refine o_aconst_null K X46 at_329 rfl ?_
 refine o_virtual K X46   (w112 hw) (w113 hw) (oNF (w115 hw)) (w115 hw) (w114 hw) (w11 hw) (w116 hw) (by decide) m47 (rm_eqnull l Z a0 hw b1 h46) (by decide) rfl (argsL := [.null]) rfl (lenOf pd16 rfl) (W := 0) rfl (by decide) (by decide) (by decide) at_330 rfl ?_
 intro v110 T110 h110 X110 U110
 obtain ⟨rfl, rfl⟩ := U110
 show oGoes pp ee bb ss Z T110 (mkF mm 333 _ [.int 0]) _ _ _
 refine o_if_ne_f K X110 at_333 rfl (by decide) ?_
 refine o_iconst K X110 at_336 rfl (z := 1) rfl ?_
 refine o_goto K X110 at_337 (by decide) (pc' := 341) (by decide) ?_
 refine o_ireturnN K X110 .boolean at_341 rfl (by simp) (z' := 1) (by decide) ?_ (by decide) (by decide)
 exact hQ _ _ rfl
 refine o_icmp_ne_t K X46 at_324 (by decide) (pc' := 342) (by decide) c324_109 ?_
 refine o_iload K X46 at_342 rfl rfl ?_
 refine o_bipush K X46 at_344 rfl (z := 6) rfl ?_
 by_cases c346_111 : (((i5.toUInt32 >>> ((2 : Int32) &&& 31).toUInt32).toInt32) &&& (7 : Int32)) = (6 : Int32)
 refine o_icmp_ne_f K X46 at_346 rfl c346_111 ?_
 refine o_aload K X46 at_349 rfl rfl rfl ?_
 refine o_new K X46 (w12 hw) (w13 hw) (w14 hw) at_351 rfl (by decide) (by decide) ?_
 intro T112 h112 b112 X112 g112 E112 A112 D112 G112
 have F112_coder : Fld Z h112 b112 z0 "coder" "B" (.int 0) := (D112 (Or.inr (w38 hw)) (ty := .byte) (by decide))
 have F112_value : Fld Z h112 b112 z0 "value" "[B" .null := (D112 (Or.inr (w40 hw)) (ty := (.array .byte)) (by decide))
 refine o_dup K X112 at_354 rfl rfl ?_
 refine o_aload K X112 at_355 rfl rfl rfl ?_
 have m113 := (m95.ext E112)
 refine o_special K X112 (y := (⟨z0, "<init>", "([C)V"⟩ : MethodName)) rfl (w15 hw) (w16 hw) (w14 hw) (w17 hw) (by decide) (rm_str_2 l Z a0 hw b112 ar1 kar1 cs ca cb h112 A112 F112_value F112_coder G112 m113 q27 q28 q11.2 q12.2) (by decide) rfl (argsL := [.ref ar1]) rfl (lenOf pd17 rfl) (W := 2) rfl (by decide) (by decide) (by decide) at_357 rfl ?_
 intro v114 T114 h114 X114 U114
 obtain ⟨vb_114, k_114, rfl, u114_0, u114_1, u114_2, u114_3, u114_4, u114_5⟩ := U114
 have G114_vb : Z.heap.size ≤ vb_114 := Nat.le_trans X112.ext0.1 u114_4
 show oGoes pp ee bb ss Z T114 (mkF mm 360 _ [.ref b112, .ref b1]) _ _ _
 have m115 := ((m47.ext E112).keep u114_0)
 refine o_virtual K X114   (w112 hw) (w113 hw) (oNF (w115 hw)) (w115 hw) (w114 hw) (w11 hw) (w116 hw) (by decide) m115 (rm_eqstr l Z a0 hw b1 b112 h114 u114_1) (by decide) rfl (argsL := [.ref b112]) rfl (lenOf pd16 rfl) (W := 0) rfl (by decide) (by decide) (by decide) at_360 rfl ?_
 intro v116 T116 h116 X116 U116
 obtain ⟨rfl, rfl⟩ := U116
 show oGoes pp ee bb ss Z T116 (mkF mm 363 _ [.int 0]) _ _ _
 refine o_if_ne_f K X116 at_363 rfl (by decide) ?_
 refine o_iconst K X116 at_366 rfl (z := 1) rfl ?_
 refine o_goto K X116 at_367 (by decide) (pc' := 371) (by decide) ?_
 refine o_ireturnN K X116 .boolean at_371 rfl (by simp) (z' := 1) (by decide) ?_ (by decide) (by decide)
 exact hQ _ _ rfl
 refine o_icmp_ne_t K X46 at_346 (by decide) (pc' := 372) (by decide) c346_111 ?_
 refine o_iload K X46 at_372 rfl rfl ?_
 refine o_bipush K X46 at_374 rfl (z := 7) rfl ?_
 by_cases c376_117 : (((i5.toUInt32 >>> ((2 : Int32) &&& 31).toUInt32).toInt32) &&& (7 : Int32)) = (7 : Int32)
 refine o_icmp_ne_f K X46 at_376 rfl c376_117 ?_
 refine o_aload K X46 at_379 rfl rfl rfl ?_
 refine o_aload K X46 at_381 rfl rfl rfl ?_
 refine o_virtual K X46   (w112 hw) (w113 hw) (oNF (w115 hw)) (w115 hw) (w114 hw) (w11 hw) (w116 hw) (by decide) m47 (rm_eqself l Z a0 hw b1 b2 b5 h46 m47 m51 m64 m52 m65) (by decide) rfl (argsL := [.ref b1]) rfl (lenOf pd16 rfl) (W := 0) rfl (by decide) (by decide) (by decide) at_383 rfl ?_
 intro v118 T118 h118 X118 U118
 obtain ⟨rfl, rfl⟩ := U118
 show oGoes pp ee bb ss Z T118 (mkF mm 386 _ [.int 1]) _ _ _
 refine o_ireturnN K X118 .boolean at_386 rfl (by simp) (z' := 1) (by decide) ?_ (by decide) (by decide)
 exact hQ _ _ rfl
 refine o_icmp_ne_t K X46 at_376 (by decide) (pc' := 387) (by decide) c376_117 ?_
 refine o_iload K X46 at_387 rfl rfl ?_
 refine o_iload K X46 at_389 rfl rfl ?_
 refine o_icmp_ne_f K X46 at_391 rfl (by decide) ?_
 refine o_aload K X46 at_394 rfl rfl rfl ?_
 refine o_iconst K X46 at_396 rfl (z := 0) rfl ?_
 refine o_caload K X46 m95 (by decide) (v := (.int ca)) rfl at_397 rfl ?_
 refine o_aload K X46 at_398 rfl rfl rfl ?_
 refine o_iconst K X46 at_400 rfl (z := 0) rfl ?_
 refine o_caload K X46 m105 (by decide) (v := (.int ua)) rfl at_401 rfl ?_
 by_cases c402_119 : ca = ua
 refine o_icmp_ne_f K X46 at_402 rfl c402_119 ?_
 refine o_iload K X46 at_405 rfl rfl ?_
 refine o_iconst K X46 at_407 rfl (z := 1) rfl ?_
 refine o_icmp_eq_f K X46 at_408 rfl (by decide) ?_
 refine o_aload K X46 at_411 rfl rfl rfl ?_
 refine o_iconst K X46 at_413 rfl (z := 1) rfl ?_
 refine o_caload K X46 m95 (by decide) (v := (.int cb)) rfl at_414 rfl ?_
 refine o_aload K X46 at_415 rfl rfl rfl ?_
 refine o_iconst K X46 at_417 rfl (z := 1) rfl ?_
 refine o_caload K X46 m105 (by decide) (v := (.int ub)) rfl at_418 rfl ?_
 by_cases c419_120 : cb = ub
 refine o_icmp_ne_f K X46 at_419 rfl c419_120 ?_
 refine o_iconst K X46 at_422 rfl (z := 1) rfl ?_
 refine o_goto K X46 at_423 (by decide) (pc' := 427) (by decide) ?_
 refine o_istore K X46 at_427 rfl (L' := #[vI i0, vI i1, vI i2, vI i3, vI i4, vI i5, vI 2, vI 1, vI cp, vI cq, vI 2, vI 2, vR ar1, vR ar2, vR ar3, vR ar4, vR b1, vR b21, vI (((i5.toUInt32 >>> ((2 : Int32) &&& 31).toUInt32).toInt32) &&& (7 : Int32)), vI 1, uS, uS]) rfl ?_
 refine o_iload K X46 at_429 rfl rfl ?_
 refine o_iload K X46 at_431 rfl rfl ?_
 refine o_icmp_ne_t K X46 at_433 (by decide) (pc' := 468) (by decide) (by decide) ?_
 refine o_iconst K X46 at_468 rfl (z := 0) rfl ?_
 refine o_istore K X46 at_469 rfl (L' := #[vI i0, vI i1, vI i2, vI i3, vI i4, vI i5, vI 2, vI 1, vI cp, vI cq, vI 2, vI 2, vR ar1, vR ar2, vR ar3, vR ar4, vR b1, vR b21, vI (((i5.toUInt32 >>> ((2 : Int32) &&& 31).toUInt32).toInt32) &&& (7 : Int32)), vI 1, vI 0, uS]) rfl ?_
 refine tl_lw3 l Z a0 hw i0 i1 i2 i3 i4 i5 cp cq (((i5.toUInt32 >>> ((2 : Int32) &&& 31).toUInt32).toInt32) &&& (7 : Int32)) 1 0 ar1 ar2 ar3 ar4 b1 b21 b2 vb_4 k_4 b5 vb_8 k_8 b22 vb_27 k_27 b28 vb_34 k_34 2 1 2 2 ca cb da da ua ub ya yb cs h46 (by simp +decide [oSm, c402_119, c419_120]) (by simp +decide [oSm, c402_119, c419_120]) m47 m51 m64 u46_1 u46_2 u46_3 m52 m56 m57 o58 m65 m69 m70 o71 m77 m78 m79 o80 m83 m84 m85 o86 (by decide) (by decide) (by decide) (by decide) q11 q12 q13 q13 q14 q15 q16 q17 n53 n67 q27 q28 (fun v121 h121 U121 => ?_) K (X46.mono (by decide) (by decide))
 obtain rfl : v121 = some (.int 1) := U121
 exact hQ _ _ rfl
 refine o_icmp_ne_t K X46 at_419 (by decide) (pc' := 426) (by decide) c419_120 ?_
 refine o_iconst K X46 at_426 rfl (z := 0) rfl ?_
 refine o_istore K X46 at_427 rfl (L' := #[vI i0, vI i1, vI i2, vI i3, vI i4, vI i5, vI 2, vI 1, vI cp, vI cq, vI 2, vI 2, vR ar1, vR ar2, vR ar3, vR ar4, vR b1, vR b21, vI (((i5.toUInt32 >>> ((2 : Int32) &&& 31).toUInt32).toInt32) &&& (7 : Int32)), vI 0, uS, uS]) rfl ?_
 refine o_iload K X46 at_429 rfl rfl ?_
 refine o_iload K X46 at_431 rfl rfl ?_
 refine o_icmp_ne_t K X46 at_433 (by decide) (pc' := 468) (by decide) (by decide) ?_
 refine o_iconst K X46 at_468 rfl (z := 0) rfl ?_
 refine o_istore K X46 at_469 rfl (L' := #[vI i0, vI i1, vI i2, vI i3, vI i4, vI i5, vI 2, vI 1, vI cp, vI cq, vI 2, vI 2, vR ar1, vR ar2, vR ar3, vR ar4, vR b1, vR b21, vI (((i5.toUInt32 >>> ((2 : Int32) &&& 31).toUInt32).toInt32) &&& (7 : Int32)), vI 0, vI 0, uS]) rfl ?_
 refine tl_lw3 l Z a0 hw i0 i1 i2 i3 i4 i5 cp cq (((i5.toUInt32 >>> ((2 : Int32) &&& 31).toUInt32).toInt32) &&& (7 : Int32)) 0 0 ar1 ar2 ar3 ar4 b1 b21 b2 vb_4 k_4 b5 vb_8 k_8 b22 vb_27 k_27 b28 vb_34 k_34 2 1 2 2 ca cb da da ua ub ya yb cs h46 (by simp +decide [oSm, c402_119, c419_120]) (by simp +decide [oSm, c402_119, c419_120]) m47 m51 m64 u46_1 u46_2 u46_3 m52 m56 m57 o58 m65 m69 m70 o71 m77 m78 m79 o80 m83 m84 m85 o86 (by decide) (by decide) (by decide) (by decide) q11 q12 q13 q13 q14 q15 q16 q17 n53 n67 q27 q28 (fun v122 h122 U122 => ?_) K (X46.mono (by decide) (by decide))
 obtain rfl : v122 = some (.int 1) := U122
 exact hQ _ _ rfl
 refine o_icmp_ne_t K X46 at_402 (by decide) (pc' := 426) (by decide) c402_119 ?_
 refine o_iconst K X46 at_426 rfl (z := 0) rfl ?_
 refine o_istore K X46 at_427 rfl (L' := #[vI i0, vI i1, vI i2, vI i3, vI i4, vI i5, vI 2, vI 1, vI cp, vI cq, vI 2, vI 2, vR ar1, vR ar2, vR ar3, vR ar4, vR b1, vR b21, vI (((i5.toUInt32 >>> ((2 : Int32) &&& 31).toUInt32).toInt32) &&& (7 : Int32)), vI 0, uS, uS]) rfl ?_
 refine o_iload K X46 at_429 rfl rfl ?_
 refine o_iload K X46 at_431 rfl rfl ?_
 refine o_icmp_ne_t K X46 at_433 (by decide) (pc' := 468) (by decide) (by decide) ?_
 refine o_iconst K X46 at_468 rfl (z := 0) rfl ?_
 refine o_istore K X46 at_469 rfl (L' := #[vI i0, vI i1, vI i2, vI i3, vI i4, vI i5, vI 2, vI 1, vI cp, vI cq, vI 2, vI 2, vR ar1, vR ar2, vR ar3, vR ar4, vR b1, vR b21, vI (((i5.toUInt32 >>> ((2 : Int32) &&& 31).toUInt32).toInt32) &&& (7 : Int32)), vI 0, vI 0, uS]) rfl ?_
 refine tl_lw3 l Z a0 hw i0 i1 i2 i3 i4 i5 cp cq (((i5.toUInt32 >>> ((2 : Int32) &&& 31).toUInt32).toInt32) &&& (7 : Int32)) 0 0 ar1 ar2 ar3 ar4 b1 b21 b2 vb_4 k_4 b5 vb_8 k_8 b22 vb_27 k_27 b28 vb_34 k_34 2 1 2 2 ca cb da da ua ub ya yb cs h46 (by simp +decide [oSm, c402_119]) (by simp +decide [oSm, c402_119]) m47 m51 m64 u46_1 u46_2 u46_3 m52 m56 m57 o58 m65 m69 m70 o71 m77 m78 m79 o80 m83 m84 m85 o86 (by decide) (by decide) (by decide) (by decide) q11 q12 q13 q13 q14 q15 q16 q17 n53 n67 q27 q28 (fun v123 h123 U123 => ?_) K (X46.mono (by decide) (by decide))
 obtain rfl : v123 = some (.int 1) := U123
 exact hQ _ _ rfl
def Q_t258_2211 (Z : State) (i0 i1 i2 i3 i4 i5 cp cq : Int32) (ar1 : Addr) (kar1 : ClassId) (ar2 : Addr) (kar2 : ClassId) (ar3 : Addr) (kar3 : ClassId) (ar4 : Addr) (kar4 : ClassId) (ca cb da db ua ya : Int32) (fm : Value) (cs : Int32) (h0 : Heap) (v : Option Value) (h : Heap) : Prop := v = some (.int 1)
theorem tl_t258_2211 (l : Launch) (Z : State) (a0 : Array Value) (hw : oHw Z a0) (i0 i1 i2 i3 i4 i5 cp cq : Int32) (ar1 : Addr) (kar1 : ClassId) (ar2 : Addr) (kar2 : ClassId) (ar3 : Addr) (kar3 : ClassId) (ar4 : Addr) (kar4 : ClassId) (ca cb da db ua ya : Int32) (fm : Value) (cs : Int32) (h0 : Heap) (q0 : oArr Z h0 ar1 kar1 .char [.int ca, .int cb]) (q1 : oArr Z h0 ar2 kar2 .char [.int da, .int db]) (q2 : oArr Z h0 ar3 kar3 .char [.int ua]) (q3 : oArr Z h0 ar4 kar4 .char [.int ya]) (q4 : oSh ca) (q5 : oSh cb) (q6 : oId da) (q7 : oId db) (q8 : oSh ua) (q9 : oId ya) (q10 : oCh ca) (q11 : oCh cb) (q12 : oCh da) (q13 : oCh db) (q14 : oCh ua) (q15 : oCh ya) (q16 : nar .char ca = ca) (q17 : nar .char cb = cb) (q18 : nar .char da = da) (q19 : nar .char db = db) (q20 : nar .char ua = ua) (q21 : nar .char ya = ya) (q22 : Sta Z Z.heap z3 z5 z6 fm) (q23 : fm.isRef = true) (q24 : Sta Z Z.heap z0 z4 "Z" (.int cs)) (q25 : ¬ (cs = (0 : Int32))) {Q : Option Value → Heap → Prop} (hQ : ∀ v h, Q_t258_2211 Z i0 i1 i2 i3 i4 i5 cp cq ar1 kar1 ar2 kar2 ar3 kar3 ar4 kar4 ca cb da db ua ya fm cs h0 v h → Q v h) {pp : Program} {ee : Env} {ss : State} {mm : MethodId} {bb : List Frame} {mtd : Method} {cc : Code} {A : Array Value} {T0 : State} (K : oCtx pp ss mm mtd cc Z z7 code maxLocals "law" ret x) (X0 : oSt pp l ee room_1 ss mm A bb mtd cc Z T0 h0 4 8) : oGoes pp ee bb ss Z T0 (mkF mm 258 #[vI i0, vI i1, vI i2, vI i3, vI i4, vI i5, vI 2, vI 2, vI cp, vI cq, vI 1, vI 1, vR ar1, vR ar2, vR ar3, vR ar4, uS, uS, uS, uS, uS, uS] []) Q room_1.cells room_1.slots := by
 have E0 := X0.ext0
 refine o_new K X0 (w9 hw) (w10 hw) (w11 hw) at_258 rfl (by decide) (by decide) ?_
 intro T1 h1 b1 X1 g1 E1 A1 D1 G1
 have F1_shelf : Fld Z h1 b1 z1 "shelf" z2 .null := (D1 (Or.inr (w109 hw)) (ty := (.object z0)) (by decide))
 have F1_id : Fld Z h1 b1 z1 "id" z2 .null := (D1 (Or.inr (w111 hw)) (ty := (.object z0)) (by decide))
 refine o_dup K X1 at_261 rfl rfl ?_
 refine o_new K X1 (w12 hw) (w13 hw) (w14 hw) at_262 rfl (by decide) (by decide) ?_
 intro T2 h2 b2 X2 g2 E2 A2 D2 G2
 have F2_coder : Fld Z h2 b2 z0 "coder" "B" (.int 0) := (D2 (Or.inr (w38 hw)) (ty := .byte) (by decide))
 have F2_value : Fld Z h2 b2 z0 "value" "[B" .null := (D2 (Or.inr (w40 hw)) (ty := (.array .byte)) (by decide))
 refine o_dup K X2 at_265 rfl rfl ?_
 refine o_aload K X2 at_266 rfl rfl rfl ?_
 have m3 := ((q0.ext E1).ext E2)
 refine o_special K X2 (y := (⟨z0, "<init>", "([C)V"⟩ : MethodName)) rfl (w15 hw) (w16 hw) (w14 hw) (w17 hw) (by decide) (rm_str_2 l Z a0 hw b2 ar1 kar1 cs ca cb h2 A2 F2_value F2_coder G2 m3 q24 q25 q10.2 q11.2) (by decide) rfl (argsL := [.ref ar1]) rfl (lenOf pd17 rfl) (W := 3) rfl (by decide) (by decide) (by decide) at_268 rfl ?_
 intro v4 T4 h4 X4 U4
 obtain ⟨vb_4, k_4, rfl, u4_0, u4_1, u4_2, u4_3, u4_4, u4_5⟩ := U4
 have G4_vb : Z.heap.size ≤ vb_4 := Nat.le_trans X2.ext0.1 u4_4
 show oGoes pp ee bb ss Z T4 (mkF mm 271 _ [.ref b2, .ref b1, .ref b1]) _ _ _
 refine o_new K X4 (w12 hw) (w13 hw) (w14 hw) at_271 rfl (by decide) (by decide) ?_
 intro T5 h5 b5 X5 g5 E5 A5 D5 G5
 have F5_coder : Fld Z h5 b5 z0 "coder" "B" (.int 0) := (D5 (Or.inr (w38 hw)) (ty := .byte) (by decide))
 have F5_value : Fld Z h5 b5 z0 "value" "[B" .null := (D5 (Or.inr (w40 hw)) (ty := (.array .byte)) (by decide))
 refine o_dup K X5 at_274 rfl rfl ?_
 refine o_aload K X5 at_275 rfl rfl rfl ?_
 have n6 := oLn q1.lt E1.1 (oLe g2)
 have m7 := ((((q1.ext E1).ext E2).keep u4_0 (ninS n6 nin0)).ext E5)
 refine o_special K X5 (y := (⟨z0, "<init>", "([C)V"⟩ : MethodName)) rfl (w15 hw) (w16 hw) (w14 hw) (w17 hw) (by decide) (rm_str_2 l Z a0 hw b5 ar2 kar2 cs da db h5 A5 F5_value F5_coder G5 m7 q24 q25 q12.2 q13.2) (by decide) rfl (argsL := [.ref ar2]) rfl (lenOf pd17 rfl) (W := 4) rfl (by decide) (by decide) (by decide) at_277 rfl ?_
 intro v8 T8 h8 X8 U8
 obtain ⟨vb_8, k_8, rfl, u8_0, u8_1, u8_2, u8_3, u8_4, u8_5⟩ := U8
 have G8_vb : Z.heap.size ≤ vb_8 := Nat.le_trans X5.ext0.1 u8_4
 show oGoes pp ee bb ss Z T8 (mkF mm 280 _ [.ref b5, .ref b2, .ref b1, .ref b1]) _ _ _
 have m9 := ((((A1.ext E2).keep u4_0).ext E5).keep u8_0)
 have n10 := oLz A1.lt (oLe g2)
 have n11 := oLn A1.lt (Nat.le_trans E2.1 u4_0.1) (oLe g5)
 have m12 := ((((F1_shelf.ext E2).keep u4_0 (ninS n10 nin0)).ext E5).keep u8_0 (ninS n11 nin0))
 have m13 := ((((F1_id.ext E2).keep u4_0 (ninS n10 nin0)).ext E5).keep u8_0 (ninS n11 nin0))
 have m14 := ((u4_1.ext E5).keep u8_0)
 have n15 := oLn A2.lt u4_0.1 (oLe g5)
 have m16 := ((u4_2.ext E5).keep u8_0 (ninS n15 nin0))
 have m17 := ((u4_3.ext E5).keep u8_0 (ninS n15 nin0))
 have n18 := oLz u4_5.lt (oLe g5)
 have m19 := ((u4_5.ext E5).keep u8_0 (ninS n18 nin0))
 refine o_special K X8 (y := (⟨z1, "<init>", z8⟩ : MethodName)) rfl (w41 hw) (w42 hw) (w11 hw) (w43 hw) (by decide) (rm_rk22 l Z a0 hw b1 b2 vb_4 k_4 b5 vb_8 k_8 ca cb da db fm cs h8 m9 G1 m12 m13 m14 m16 m17 m19 u8_1 u8_2 u8_3 u8_5 q4 q5 q6 q7 q10 q11 q12 q13 q22 q23 q24 q25) (by decide) rfl (argsL := [.ref b2, .ref b5]) rfl (lenOf pd18 rfl) (W := 1) rfl (by decide) (by decide) (by decide) at_280 rfl ?_
 intro v20 T20 h20 X20 U20
 obtain ⟨rfl, u20_0, u20_1, u20_2, u20_3⟩ := U20
 show oGoes pp ee bb ss Z T20 (mkF mm 283 _ [.ref b1]) _ _ _
 refine o_astore K X20 at_283 rfl rfl (L' := #[vI i0, vI i1, vI i2, vI i3, vI i4, vI i5, vI 2, vI 2, vI cp, vI cq, vI 1, vI 1, vR ar1, vR ar2, vR ar3, vR ar4, vR b1, uS, uS, uS, uS, uS]) rfl ?_
 refine o_new K X20 (w9 hw) (w10 hw) (w11 hw) at_285 rfl (by decide) (by decide) ?_
 intro T21 h21 b21 X21 g21 E21 A21 D21 G21
 have F21_shelf : Fld Z h21 b21 z1 "shelf" z2 .null := (D21 (Or.inr (w109 hw)) (ty := (.object z0)) (by decide))
 have F21_id : Fld Z h21 b21 z1 "id" z2 .null := (D21 (Or.inr (w111 hw)) (ty := (.object z0)) (by decide))
 refine o_dup K X21 at_288 rfl rfl ?_
 refine o_new K X21 (w12 hw) (w13 hw) (w14 hw) at_289 rfl (by decide) (by decide) ?_
 intro T22 h22 b22 X22 g22 E22 A22 D22 G22
 have F22_coder : Fld Z h22 b22 z0 "coder" "B" (.int 0) := (D22 (Or.inr (w38 hw)) (ty := .byte) (by decide))
 have F22_value : Fld Z h22 b22 z0 "value" "[B" .null := (D22 (Or.inr (w40 hw)) (ty := (.array .byte)) (by decide))
 refine o_dup K X22 at_292 rfl rfl ?_
 refine o_aload K X22 at_293 rfl rfl rfl ?_
 have n23 := oLn q2.lt E1.1 (oLe g2)
 have y0_3 := Nat.le_trans (Nat.le_trans E1.1 E2.1) u4_0.1
 have n24 := oLn q2.lt y0_3 (oLe g5)
 have n25 := oLz q2.lt (oLe g1)
 have m26 := ((((((((q2.ext E1).ext E2).keep u4_0 (ninS n23 nin0)).ext E5).keep u8_0 (ninS n24 nin0)).keep u20_0 (ninS n25 nin0)).ext E21).ext E22)
 refine o_special K X22 (y := (⟨z0, "<init>", "([C)V"⟩ : MethodName)) rfl (w15 hw) (w16 hw) (w14 hw) (w17 hw) (by decide) (rm_str_1 l Z a0 hw b22 ar3 kar3 cs ua h22 A22 F22_value F22_coder G22 m26 q24 q25 q14.2) (by decide) rfl (argsL := [.ref ar3]) rfl (lenOf pd17 rfl) (W := 3) rfl (by decide) (by decide) (by decide) at_295 rfl ?_
 intro v27 T27 h27 X27 U27
 obtain ⟨vb_27, k_27, rfl, u27_0, u27_1, u27_2, u27_3, u27_4, u27_5⟩ := U27
 have G27_vb : Z.heap.size ≤ vb_27 := Nat.le_trans X22.ext0.1 u27_4
 show oGoes pp ee bb ss Z T27 (mkF mm 298 _ [.ref b22, .ref b21, .ref b21]) _ _ _
 refine o_new K X27 (w12 hw) (w13 hw) (w14 hw) at_298 rfl (by decide) (by decide) ?_
 intro T28 h28 b28 X28 g28 E28 A28 D28 G28
 have F28_coder : Fld Z h28 b28 z0 "coder" "B" (.int 0) := (D28 (Or.inr (w38 hw)) (ty := .byte) (by decide))
 have F28_value : Fld Z h28 b28 z0 "value" "[B" .null := (D28 (Or.inr (w40 hw)) (ty := (.array .byte)) (by decide))
 refine o_dup K X28 at_301 rfl rfl ?_
 refine o_aload K X28 at_302 rfl rfl rfl ?_
 have n29 := oLn q3.lt E1.1 (oLe g2)
 have n30 := oLn q3.lt y0_3 (oLe g5)
 have n31 := oLz q3.lt (oLe g1)
 have y0_7 := Nat.le_trans (Nat.le_trans (Nat.le_trans (Nat.le_trans y0_3 E5.1) u8_0.1) u20_0.1) E21.1
 have n32 := oLn q3.lt y0_7 (oLe g22)
 have m33 := ((((((((((q3.ext E1).ext E2).keep u4_0 (ninS n29 nin0)).ext E5).keep u8_0 (ninS n30 nin0)).keep u20_0 (ninS n31 nin0)).ext E21).ext E22).keep u27_0 (ninS n32 nin0)).ext E28)
 refine o_special K X28 (y := (⟨z0, "<init>", "([C)V"⟩ : MethodName)) rfl (w15 hw) (w16 hw) (w14 hw) (w17 hw) (by decide) (rm_str_1 l Z a0 hw b28 ar4 kar4 cs ya h28 A28 F28_value F28_coder G28 m33 q24 q25 q15.2) (by decide) rfl (argsL := [.ref ar4]) rfl (lenOf pd17 rfl) (W := 4) rfl (by decide) (by decide) (by decide) at_304 rfl ?_
 intro v34 T34 h34 X34 U34
 obtain ⟨vb_34, k_34, rfl, u34_0, u34_1, u34_2, u34_3, u34_4, u34_5⟩ := U34
 have G34_vb : Z.heap.size ≤ vb_34 := Nat.le_trans X28.ext0.1 u34_4
 show oGoes pp ee bb ss Z T34 (mkF mm 307 _ [.ref b28, .ref b22, .ref b21, .ref b21]) _ _ _
 have m35 := ((((A21.ext E22).keep u27_0).ext E28).keep u34_0)
 have n36 := oLz A21.lt (oLe g22)
 have n37 := oLn A21.lt (Nat.le_trans E22.1 u27_0.1) (oLe g28)
 have m38 := ((((F21_shelf.ext E22).keep u27_0 (ninS n36 nin0)).ext E28).keep u34_0 (ninS n37 nin0))
 have m39 := ((((F21_id.ext E22).keep u27_0 (ninS n36 nin0)).ext E28).keep u34_0 (ninS n37 nin0))
 have m40 := ((u27_1.ext E28).keep u34_0)
 have n41 := oLn A22.lt u27_0.1 (oLe g28)
 have m42 := ((u27_2.ext E28).keep u34_0 (ninS n41 nin0))
 have m43 := ((u27_3.ext E28).keep u34_0 (ninS n41 nin0))
 have n44 := oLz u27_5.lt (oLe g28)
 have m45 := ((u27_5.ext E28).keep u34_0 (ninS n44 nin0))
 refine o_special K X34 (y := (⟨z1, "<init>", z8⟩ : MethodName)) rfl (w41 hw) (w42 hw) (w11 hw) (w43 hw) (by decide) (rm_rk11 l Z a0 hw b21 b22 vb_27 k_27 b28 vb_34 k_34 ua ya fm cs h34 m35 G21 m38 m39 m40 m42 m43 m45 u34_1 u34_2 u34_3 u34_5 q8 q9 q14 q15 q22 q23 q24 q25) (by decide) rfl (argsL := [.ref b22, .ref b28]) rfl (lenOf pd18 rfl) (W := 1) rfl (by decide) (by decide) (by decide) at_307 rfl ?_
 intro v46 T46 h46 X46 U46
 obtain ⟨rfl, u46_0, u46_1, u46_2, u46_3⟩ := U46
 show oGoes pp ee bb ss Z T46 (mkF mm 310 _ [.ref b21]) _ _ _
 refine o_astore K X46 at_310 rfl rfl (L' := #[vI i0, vI i1, vI i2, vI i3, vI i4, vI i5, vI 2, vI 2, vI cp, vI cq, vI 1, vI 1, vR ar1, vR ar2, vR ar3, vR ar4, vR b1, vR b21, uS, uS, uS, uS]) rfl ?_
 have m47 := ((((((u20_1.ext E21).ext E22).keep u27_0).ext E28).keep u34_0).keep u46_0)
 have y1_7 := Nat.le_trans (Nat.le_trans (Nat.le_trans (Nat.le_trans (Nat.le_trans E2.1 u4_0.1) E5.1) u8_0.1) u20_0.1) E21.1
 have n48 := oLn A1.lt y1_7 (oLe g22)
 have y1_9 := Nat.le_trans (Nat.le_trans y1_7 E22.1) u27_0.1
 have n49 := oLn A1.lt y1_9 (oLe g28)
 have y1_6 := Nat.le_trans (Nat.le_trans (Nat.le_trans (Nat.le_trans E2.1 u4_0.1) E5.1) u8_0.1) u20_0.1
 have n50 := oLn A1.lt y1_6 (oLe g21)
 have m51 := ((((((u20_2.ext E21).ext E22).keep u27_0 (ninS n48 nin0)).ext E28).keep u34_0 (ninS n49 nin0)).keep u46_0 (ninS n50 nin0))
 have m52 := (((((((m14.keep u20_0).ext E21).ext E22).keep u27_0).ext E28).keep u34_0).keep u46_0)
 have y2_7 := Nat.le_trans (Nat.le_trans (Nat.le_trans (Nat.le_trans u4_0.1 E5.1) u8_0.1) u20_0.1) E21.1
 have n53 := oLn A2.lt y2_7 (oLe g22)
 have y2_9 := Nat.le_trans (Nat.le_trans y2_7 E22.1) u27_0.1
 have n54 := oLn A2.lt y2_9 (oLe g28)
 have y2_6 := Nat.le_trans (Nat.le_trans (Nat.le_trans u4_0.1 E5.1) u8_0.1) u20_0.1
 have n55 := oLn A2.lt y2_6 (oLe g21)
 have m56 := (((((((m16.keep u20_0 (ninS (Ne.symm n10) nin0)).ext E21).ext E22).keep u27_0 (ninS n53 nin0)).ext E28).keep u34_0 (ninS n54 nin0)).keep u46_0 (ninS n55 nin0))
 have m57 := (((((((m17.keep u20_0 (ninS (Ne.symm n10) nin0)).ext E21).ext E22).keep u27_0 (ninS n53 nin0)).ext E28).keep u34_0 (ninS n54 nin0)).keep u46_0 (ninS n55 nin0))
 have n59 := oLsn A1.lt E2.1 u4_4
 have y3_7 := Nat.le_trans (Nat.le_trans (Nat.le_trans E5.1 u8_0.1) u20_0.1) E21.1
 have n60 := oLn u4_5.lt y3_7 (oLe g22)
 have y3_9 := Nat.le_trans (Nat.le_trans y3_7 E22.1) u27_0.1
 have n61 := oLn u4_5.lt y3_9 (oLe g28)
 have y3_6 := Nat.le_trans (Nat.le_trans E5.1 u8_0.1) u20_0.1
 have n62 := oLn u4_5.lt y3_6 (oLe g21)
 have m63 := (((((((m19.keep u20_0 (ninS n59 nin0)).ext E21).ext E22).keep u27_0 (ninS n60 nin0)).ext E28).keep u34_0 (ninS n61 nin0)).keep u46_0 (ninS n62 nin0))
 have o58 := oByC (oBy2 ca cb) m63
 have m64 := ((((((u20_3.ext E21).ext E22).keep u27_0 (ninS n48 nin0)).ext E28).keep u34_0 (ninS n49 nin0)).keep u46_0 (ninS n50 nin0))
 have m65 := (((((((u8_1.keep u20_0).ext E21).ext E22).keep u27_0).ext E28).keep u34_0).keep u46_0)
 have y4_7 := Nat.le_trans (Nat.le_trans u8_0.1 u20_0.1) E21.1
 have n66 := oLn A5.lt y4_7 (oLe g22)
 have y4_9 := Nat.le_trans (Nat.le_trans y4_7 E22.1) u27_0.1
 have n67 := oLn A5.lt y4_9 (oLe g28)
 have n68 := oLn A5.lt (Nat.le_trans u8_0.1 u20_0.1) (oLe g21)
 have m69 := (((((((u8_2.keep u20_0 (ninS (Ne.symm n11) nin0)).ext E21).ext E22).keep u27_0 (ninS n66 nin0)).ext E28).keep u34_0 (ninS n67 nin0)).keep u46_0 (ninS n68 nin0))
 have m70 := (((((((u8_3.keep u20_0 (ninS (Ne.symm n11) nin0)).ext E21).ext E22).keep u27_0 (ninS n66 nin0)).ext E28).keep u34_0 (ninS n67 nin0)).keep u46_0 (ninS n68 nin0))
 have y1_4 := Nat.le_trans (Nat.le_trans E2.1 u4_0.1) E5.1
 have n72 := oLsn A1.lt y1_4 u8_4
 have n73 := oLn u8_5.lt (Nat.le_trans u20_0.1 E21.1) (oLe g22)
 have y5_9 := Nat.le_trans (Nat.le_trans (Nat.le_trans u20_0.1 E21.1) E22.1) u27_0.1
 have n74 := oLn u8_5.lt y5_9 (oLe g28)
 have n75 := oLn u8_5.lt u20_0.1 (oLe g21)
 have m76 := (((((((u8_5.keep u20_0 (ninS n72 nin0)).ext E21).ext E22).keep u27_0 (ninS n73 nin0)).ext E28).keep u34_0 (ninS n74 nin0)).keep u46_0 (ninS n75 nin0))
 have o71 := oByC (oBy2 da db) m76
 have m77 := (m40.keep u46_0)
 have m78 := (m42.keep u46_0 (ninS (Ne.symm n36) nin0))
 have m79 := (m43.keep u46_0 (ninS (Ne.symm n36) nin0))
 have n81 := oLsn A21.lt E22.1 u27_4
 have m82 := (m45.keep u46_0 (ninS n81 nin0))
 have o80 := oByC (oBy1 ua ua) m82
 have m83 := (u34_1.keep u46_0)
 have m84 := (u34_2.keep u46_0 (ninS (Ne.symm n37) nin0))
 have m85 := (u34_3.keep u46_0 (ninS (Ne.symm n37) nin0))
 have y7_10 := Nat.le_trans (Nat.le_trans E22.1 u27_0.1) E28.1
 have n87 := oLsn A21.lt y7_10 u34_4
 have m88 := (u34_5.keep u46_0 (ninS n87 nin0))
 have o86 := oByC (oBy1 ya ya) m88
 have n89 := oLn q0.lt E1.1 (oLe g2)
 have n90 := oLn q0.lt y0_3 (oLe g5)
 have n91 := oLz q0.lt (oLe g1)
 have n92 := oLn q0.lt y0_7 (oLe g22)
 have y0_9 := Nat.le_trans (Nat.le_trans y0_7 E22.1) u27_0.1
 have n93 := oLn q0.lt y0_9 (oLe g28)
 have y0_6 := Nat.le_trans (Nat.le_trans (Nat.le_trans y0_3 E5.1) u8_0.1) u20_0.1
 have n94 := oLn q0.lt y0_6 (oLe g21)
 have m95 := ((((((((((m3.keep u4_0 (ninS n89 nin0)).ext E5).keep u8_0 (ninS n90 nin0)).keep u20_0 (ninS n91 nin0)).ext E21).ext E22).keep u27_0 (ninS n92 nin0)).ext E28).keep u34_0 (ninS n93 nin0)).keep u46_0 (ninS n94 nin0))
 have n96 := oLn q1.lt y0_3 (oLe g5)
 have n97 := oLz q1.lt (oLe g1)
 have n98 := oLn q1.lt y0_7 (oLe g22)
 have n99 := oLn q1.lt y0_9 (oLe g28)
 have n100 := oLn q1.lt y0_6 (oLe g21)
 have m101 := ((((((((m7.keep u8_0 (ninS n96 nin0)).keep u20_0 (ninS n97 nin0)).ext E21).ext E22).keep u27_0 (ninS n98 nin0)).ext E28).keep u34_0 (ninS n99 nin0)).keep u46_0 (ninS n100 nin0))
 have n102 := oLn q2.lt y0_7 (oLe g22)
 have n103 := oLn q2.lt y0_9 (oLe g28)
 have n104 := oLn q2.lt y0_6 (oLe g21)
 have m105 := ((((m26.keep u27_0 (ninS n102 nin0)).ext E28).keep u34_0 (ninS n103 nin0)).keep u46_0 (ninS n104 nin0))
 have n106 := oLn q3.lt y0_9 (oLe g28)
 have n107 := oLn q3.lt y0_6 (oLe g21)
 have m108 := ((m33.keep u34_0 (ninS n106 nin0)).keep u46_0 (ninS n107 nin0))
 refine o_iload K X46 at_312 rfl rfl ?_
 refine o_iconst K X46 at_314 rfl (z := 2) rfl ?_
 refine o_iushr K X46 at_315 rfl (z := ((i5.toUInt32 >>> ((2 : Int32) &&& 31).toUInt32).toInt32)) rfl ?_
 refine o_bipush K X46 at_316 rfl (z := 7) rfl ?_
 refine o_iand K X46 at_318 rfl (z := (((i5.toUInt32 >>> ((2 : Int32) &&& 31).toUInt32).toInt32) &&& (7 : Int32))) rfl ?_
 refine o_istore K X46 at_319 rfl (L' := #[vI i0, vI i1, vI i2, vI i3, vI i4, vI i5, vI 2, vI 2, vI cp, vI cq, vI 1, vI 1, vR ar1, vR ar2, vR ar3, vR ar4, vR b1, vR b21, vI (((i5.toUInt32 >>> ((2 : Int32) &&& 31).toUInt32).toInt32) &&& (7 : Int32)), uS, uS, uS]) rfl ?_
 refine o_iload K X46 at_321 rfl rfl ?_
 refine o_iconst K X46 at_323 rfl (z := 5) rfl ?_
 by_cases c324_109 : (((i5.toUInt32 >>> ((2 : Int32) &&& 31).toUInt32).toInt32) &&& (7 : Int32)) = (5 : Int32)
 refine o_icmp_ne_f K X46 at_324 rfl c324_109 ?_
 refine o_aload K X46 at_327 rfl rfl rfl ?_
 refine o_aconst_null K X46 at_329 rfl ?_
 refine o_virtual K X46   (w112 hw) (w113 hw) (oNF (w115 hw)) (w115 hw) (w114 hw) (w11 hw) (w116 hw) (by decide) m47 (rm_eqnull l Z a0 hw b1 h46) (by decide) rfl (argsL := [.null]) rfl (lenOf pd16 rfl) (W := 0) rfl (by decide) (by decide) (by decide) at_330 rfl ?_
 intro v110 T110 h110 X110 U110
 obtain ⟨rfl, rfl⟩ := U110
 show oGoes pp ee bb ss Z T110 (mkF mm 333 _ [.int 0]) _ _ _
 refine o_if_ne_f K X110 at_333 rfl (by decide) ?_
 refine o_iconst K X110 at_336 rfl (z := 1) rfl ?_
 refine o_goto K X110 at_337 (by decide) (pc' := 341) (by decide) ?_
 refine o_ireturnN K X110 .boolean at_341 rfl (by simp) (z' := 1) (by decide) ?_ (by decide) (by decide)
 exact hQ _ _ rfl
 refine o_icmp_ne_t K X46 at_324 (by decide) (pc' := 342) (by decide) c324_109 ?_
 refine o_iload K X46 at_342 rfl rfl ?_
 refine o_bipush K X46 at_344 rfl (z := 6) rfl ?_
 by_cases c346_111 : (((i5.toUInt32 >>> ((2 : Int32) &&& 31).toUInt32).toInt32) &&& (7 : Int32)) = (6 : Int32)
 refine o_icmp_ne_f K X46 at_346 rfl c346_111 ?_
 refine o_aload K X46 at_349 rfl rfl rfl ?_
 refine o_new K X46 (w12 hw) (w13 hw) (w14 hw) at_351 rfl (by decide) (by decide) ?_
 intro T112 h112 b112 X112 g112 E112 A112 D112 G112
 have F112_coder : Fld Z h112 b112 z0 "coder" "B" (.int 0) := (D112 (Or.inr (w38 hw)) (ty := .byte) (by decide))
 have F112_value : Fld Z h112 b112 z0 "value" "[B" .null := (D112 (Or.inr (w40 hw)) (ty := (.array .byte)) (by decide))
 refine o_dup K X112 at_354 rfl rfl ?_
 refine o_aload K X112 at_355 rfl rfl rfl ?_
 have m113 := (m95.ext E112)
 refine o_special K X112 (y := (⟨z0, "<init>", "([C)V"⟩ : MethodName)) rfl (w15 hw) (w16 hw) (w14 hw) (w17 hw) (by decide) (rm_str_2 l Z a0 hw b112 ar1 kar1 cs ca cb h112 A112 F112_value F112_coder G112 m113 q24 q25 q10.2 q11.2) (by decide) rfl (argsL := [.ref ar1]) rfl (lenOf pd17 rfl) (W := 2) rfl (by decide) (by decide) (by decide) at_357 rfl ?_
 intro v114 T114 h114 X114 U114
 obtain ⟨vb_114, k_114, rfl, u114_0, u114_1, u114_2, u114_3, u114_4, u114_5⟩ := U114
 have G114_vb : Z.heap.size ≤ vb_114 := Nat.le_trans X112.ext0.1 u114_4
 show oGoes pp ee bb ss Z T114 (mkF mm 360 _ [.ref b112, .ref b1]) _ _ _
 have m115 := ((m47.ext E112).keep u114_0)
 refine o_virtual K X114   (w112 hw) (w113 hw) (oNF (w115 hw)) (w115 hw) (w114 hw) (w11 hw) (w116 hw) (by decide) m115 (rm_eqstr l Z a0 hw b1 b112 h114 u114_1) (by decide) rfl (argsL := [.ref b112]) rfl (lenOf pd16 rfl) (W := 0) rfl (by decide) (by decide) (by decide) at_360 rfl ?_
 intro v116 T116 h116 X116 U116
 obtain ⟨rfl, rfl⟩ := U116
 show oGoes pp ee bb ss Z T116 (mkF mm 363 _ [.int 0]) _ _ _
 refine o_if_ne_f K X116 at_363 rfl (by decide) ?_
 refine o_iconst K X116 at_366 rfl (z := 1) rfl ?_
 refine o_goto K X116 at_367 (by decide) (pc' := 371) (by decide) ?_
 refine o_ireturnN K X116 .boolean at_371 rfl (by simp) (z' := 1) (by decide) ?_ (by decide) (by decide)
 exact hQ _ _ rfl
 refine o_icmp_ne_t K X46 at_346 (by decide) (pc' := 372) (by decide) c346_111 ?_
 refine o_iload K X46 at_372 rfl rfl ?_
 refine o_bipush K X46 at_374 rfl (z := 7) rfl ?_
 by_cases c376_117 : (((i5.toUInt32 >>> ((2 : Int32) &&& 31).toUInt32).toInt32) &&& (7 : Int32)) = (7 : Int32)
 refine o_icmp_ne_f K X46 at_376 rfl c376_117 ?_
 refine o_aload K X46 at_379 rfl rfl rfl ?_
 refine o_aload K X46 at_381 rfl rfl rfl ?_
 refine o_virtual K X46   (w112 hw) (w113 hw) (oNF (w115 hw)) (w115 hw) (w114 hw) (w11 hw) (w116 hw) (by decide) m47 (rm_eqself l Z a0 hw b1 b2 b5 h46 m47 m51 m64 m52 m65) (by decide) rfl (argsL := [.ref b1]) rfl (lenOf pd16 rfl) (W := 0) rfl (by decide) (by decide) (by decide) at_383 rfl ?_
 intro v118 T118 h118 X118 U118
 obtain ⟨rfl, rfl⟩ := U118
 show oGoes pp ee bb ss Z T118 (mkF mm 386 _ [.int 1]) _ _ _
 refine o_ireturnN K X118 .boolean at_386 rfl (by simp) (z' := 1) (by decide) ?_ (by decide) (by decide)
 exact hQ _ _ rfl
 refine o_icmp_ne_t K X46 at_376 (by decide) (pc' := 387) (by decide) c376_117 ?_
 refine o_iload K X46 at_387 rfl rfl ?_
 refine o_iload K X46 at_389 rfl rfl ?_
 refine o_icmp_ne_t K X46 at_391 (by decide) (pc' := 426) (by decide) (by decide) ?_
 refine o_iconst K X46 at_426 rfl (z := 0) rfl ?_
 refine o_istore K X46 at_427 rfl (L' := #[vI i0, vI i1, vI i2, vI i3, vI i4, vI i5, vI 2, vI 2, vI cp, vI cq, vI 1, vI 1, vR ar1, vR ar2, vR ar3, vR ar4, vR b1, vR b21, vI (((i5.toUInt32 >>> ((2 : Int32) &&& 31).toUInt32).toInt32) &&& (7 : Int32)), vI 0, uS, uS]) rfl ?_
 refine o_iload K X46 at_429 rfl rfl ?_
 refine o_iload K X46 at_431 rfl rfl ?_
 refine o_icmp_ne_t K X46 at_433 (by decide) (pc' := 468) (by decide) (by decide) ?_
 refine o_iconst K X46 at_468 rfl (z := 0) rfl ?_
 refine o_istore K X46 at_469 rfl (L' := #[vI i0, vI i1, vI i2, vI i3, vI i4, vI i5, vI 2, vI 2, vI cp, vI cq, vI 1, vI 1, vR ar1, vR ar2, vR ar3, vR ar4, vR b1, vR b21, vI (((i5.toUInt32 >>> ((2 : Int32) &&& 31).toUInt32).toInt32) &&& (7 : Int32)), vI 0, vI 0, uS]) rfl ?_
 refine tl_lw3 l Z a0 hw i0 i1 i2 i3 i4 i5 cp cq (((i5.toUInt32 >>> ((2 : Int32) &&& 31).toUInt32).toInt32) &&& (7 : Int32)) 0 0 ar1 ar2 ar3 ar4 b1 b21 b2 vb_4 k_4 b5 vb_8 k_8 b22 vb_27 k_27 b28 vb_34 k_34 2 2 1 1 ca cb da db ua ua ya ya cs h46 (by simp +decide [oSm]) (by simp +decide [oSm]) m47 m51 m64 u46_1 u46_2 u46_3 m52 m56 m57 o58 m65 m69 m70 o71 m77 m78 m79 o80 m83 m84 m85 o86 (by decide) (by decide) (by decide) (by decide) q10 q11 q12 q13 q14 q14 q15 q15 n53 n67 q24 q25 (fun v119 h119 U119 => ?_) K (X46.mono (by decide) (by decide))
 obtain rfl : v119 = some (.int 1) := U119
 exact hQ _ _ rfl
def Q_t258_2212 (Z : State) (i0 i1 i2 i3 i4 i5 cp cq : Int32) (ar1 : Addr) (kar1 : ClassId) (ar2 : Addr) (kar2 : ClassId) (ar3 : Addr) (kar3 : ClassId) (ar4 : Addr) (kar4 : ClassId) (ca cb da db ua ya yb : Int32) (fm : Value) (cs : Int32) (h0 : Heap) (v : Option Value) (h : Heap) : Prop := v = some (.int 1)
theorem tl_t258_2212 (l : Launch) (Z : State) (a0 : Array Value) (hw : oHw Z a0) (i0 i1 i2 i3 i4 i5 cp cq : Int32) (ar1 : Addr) (kar1 : ClassId) (ar2 : Addr) (kar2 : ClassId) (ar3 : Addr) (kar3 : ClassId) (ar4 : Addr) (kar4 : ClassId) (ca cb da db ua ya yb : Int32) (fm : Value) (cs : Int32) (h0 : Heap) (q0 : oArr Z h0 ar1 kar1 .char [.int ca, .int cb]) (q1 : oArr Z h0 ar2 kar2 .char [.int da, .int db]) (q2 : oArr Z h0 ar3 kar3 .char [.int ua]) (q3 : oArr Z h0 ar4 kar4 .char [.int ya, .int yb]) (q4 : oSh ca) (q5 : oSh cb) (q6 : oId da) (q7 : oId db) (q8 : oSh ua) (q9 : oId ya) (q10 : oId yb) (q11 : oCh ca) (q12 : oCh cb) (q13 : oCh da) (q14 : oCh db) (q15 : oCh ua) (q16 : oCh ya) (q17 : oCh yb) (q18 : nar .char ca = ca) (q19 : nar .char cb = cb) (q20 : nar .char da = da) (q21 : nar .char db = db) (q22 : nar .char ua = ua) (q23 : nar .char ya = ya) (q24 : nar .char yb = yb) (q25 : Sta Z Z.heap z3 z5 z6 fm) (q26 : fm.isRef = true) (q27 : Sta Z Z.heap z0 z4 "Z" (.int cs)) (q28 : ¬ (cs = (0 : Int32))) {Q : Option Value → Heap → Prop} (hQ : ∀ v h, Q_t258_2212 Z i0 i1 i2 i3 i4 i5 cp cq ar1 kar1 ar2 kar2 ar3 kar3 ar4 kar4 ca cb da db ua ya yb fm cs h0 v h → Q v h) {pp : Program} {ee : Env} {ss : State} {mm : MethodId} {bb : List Frame} {mtd : Method} {cc : Code} {A : Array Value} {T0 : State} (K : oCtx pp ss mm mtd cc Z z7 code maxLocals "law" ret x) (X0 : oSt pp l ee room_1 ss mm A bb mtd cc Z T0 h0 4 8) : oGoes pp ee bb ss Z T0 (mkF mm 258 #[vI i0, vI i1, vI i2, vI i3, vI i4, vI i5, vI 2, vI 2, vI cp, vI cq, vI 1, vI 2, vR ar1, vR ar2, vR ar3, vR ar4, uS, uS, uS, uS, uS, uS] []) Q room_1.cells room_1.slots := by
 have E0 := X0.ext0
 refine o_new K X0 (w9 hw) (w10 hw) (w11 hw) at_258 rfl (by decide) (by decide) ?_
 intro T1 h1 b1 X1 g1 E1 A1 D1 G1
 have F1_shelf : Fld Z h1 b1 z1 "shelf" z2 .null := (D1 (Or.inr (w109 hw)) (ty := (.object z0)) (by decide))
 have F1_id : Fld Z h1 b1 z1 "id" z2 .null := (D1 (Or.inr (w111 hw)) (ty := (.object z0)) (by decide))
 refine o_dup K X1 at_261 rfl rfl ?_
 refine o_new K X1 (w12 hw) (w13 hw) (w14 hw) at_262 rfl (by decide) (by decide) ?_
 intro T2 h2 b2 X2 g2 E2 A2 D2 G2
 have F2_coder : Fld Z h2 b2 z0 "coder" "B" (.int 0) := (D2 (Or.inr (w38 hw)) (ty := .byte) (by decide))
 have F2_value : Fld Z h2 b2 z0 "value" "[B" .null := (D2 (Or.inr (w40 hw)) (ty := (.array .byte)) (by decide))
 refine o_dup K X2 at_265 rfl rfl ?_
 refine o_aload K X2 at_266 rfl rfl rfl ?_
 have m3 := ((q0.ext E1).ext E2)
 refine o_special K X2 (y := (⟨z0, "<init>", "([C)V"⟩ : MethodName)) rfl (w15 hw) (w16 hw) (w14 hw) (w17 hw) (by decide) (rm_str_2 l Z a0 hw b2 ar1 kar1 cs ca cb h2 A2 F2_value F2_coder G2 m3 q27 q28 q11.2 q12.2) (by decide) rfl (argsL := [.ref ar1]) rfl (lenOf pd17 rfl) (W := 3) rfl (by decide) (by decide) (by decide) at_268 rfl ?_
 intro v4 T4 h4 X4 U4
 obtain ⟨vb_4, k_4, rfl, u4_0, u4_1, u4_2, u4_3, u4_4, u4_5⟩ := U4
 have G4_vb : Z.heap.size ≤ vb_4 := Nat.le_trans X2.ext0.1 u4_4
 show oGoes pp ee bb ss Z T4 (mkF mm 271 _ [.ref b2, .ref b1, .ref b1]) _ _ _
 refine o_new K X4 (w12 hw) (w13 hw) (w14 hw) at_271 rfl (by decide) (by decide) ?_
 intro T5 h5 b5 X5 g5 E5 A5 D5 G5
 have F5_coder : Fld Z h5 b5 z0 "coder" "B" (.int 0) := (D5 (Or.inr (w38 hw)) (ty := .byte) (by decide))
 have F5_value : Fld Z h5 b5 z0 "value" "[B" .null := (D5 (Or.inr (w40 hw)) (ty := (.array .byte)) (by decide))
 refine o_dup K X5 at_274 rfl rfl ?_
 refine o_aload K X5 at_275 rfl rfl rfl ?_
 have n6 := oLn q1.lt E1.1 (oLe g2)
 have m7 := ((((q1.ext E1).ext E2).keep u4_0 (ninS n6 nin0)).ext E5)
 refine o_special K X5 (y := (⟨z0, "<init>", "([C)V"⟩ : MethodName)) rfl (w15 hw) (w16 hw) (w14 hw) (w17 hw) (by decide) (rm_str_2 l Z a0 hw b5 ar2 kar2 cs da db h5 A5 F5_value F5_coder G5 m7 q27 q28 q13.2 q14.2) (by decide) rfl (argsL := [.ref ar2]) rfl (lenOf pd17 rfl) (W := 4) rfl (by decide) (by decide) (by decide) at_277 rfl ?_
 intro v8 T8 h8 X8 U8
 obtain ⟨vb_8, k_8, rfl, u8_0, u8_1, u8_2, u8_3, u8_4, u8_5⟩ := U8
 have G8_vb : Z.heap.size ≤ vb_8 := Nat.le_trans X5.ext0.1 u8_4
 show oGoes pp ee bb ss Z T8 (mkF mm 280 _ [.ref b5, .ref b2, .ref b1, .ref b1]) _ _ _
 have m9 := ((((A1.ext E2).keep u4_0).ext E5).keep u8_0)
 have n10 := oLz A1.lt (oLe g2)
 have n11 := oLn A1.lt (Nat.le_trans E2.1 u4_0.1) (oLe g5)
 have m12 := ((((F1_shelf.ext E2).keep u4_0 (ninS n10 nin0)).ext E5).keep u8_0 (ninS n11 nin0))
 have m13 := ((((F1_id.ext E2).keep u4_0 (ninS n10 nin0)).ext E5).keep u8_0 (ninS n11 nin0))
 have m14 := ((u4_1.ext E5).keep u8_0)
 have n15 := oLn A2.lt u4_0.1 (oLe g5)
 have m16 := ((u4_2.ext E5).keep u8_0 (ninS n15 nin0))
 have m17 := ((u4_3.ext E5).keep u8_0 (ninS n15 nin0))
 have n18 := oLz u4_5.lt (oLe g5)
 have m19 := ((u4_5.ext E5).keep u8_0 (ninS n18 nin0))
 refine o_special K X8 (y := (⟨z1, "<init>", z8⟩ : MethodName)) rfl (w41 hw) (w42 hw) (w11 hw) (w43 hw) (by decide) (rm_rk22 l Z a0 hw b1 b2 vb_4 k_4 b5 vb_8 k_8 ca cb da db fm cs h8 m9 G1 m12 m13 m14 m16 m17 m19 u8_1 u8_2 u8_3 u8_5 q4 q5 q6 q7 q11 q12 q13 q14 q25 q26 q27 q28) (by decide) rfl (argsL := [.ref b2, .ref b5]) rfl (lenOf pd18 rfl) (W := 1) rfl (by decide) (by decide) (by decide) at_280 rfl ?_
 intro v20 T20 h20 X20 U20
 obtain ⟨rfl, u20_0, u20_1, u20_2, u20_3⟩ := U20
 show oGoes pp ee bb ss Z T20 (mkF mm 283 _ [.ref b1]) _ _ _
 refine o_astore K X20 at_283 rfl rfl (L' := #[vI i0, vI i1, vI i2, vI i3, vI i4, vI i5, vI 2, vI 2, vI cp, vI cq, vI 1, vI 2, vR ar1, vR ar2, vR ar3, vR ar4, vR b1, uS, uS, uS, uS, uS]) rfl ?_
 refine o_new K X20 (w9 hw) (w10 hw) (w11 hw) at_285 rfl (by decide) (by decide) ?_
 intro T21 h21 b21 X21 g21 E21 A21 D21 G21
 have F21_shelf : Fld Z h21 b21 z1 "shelf" z2 .null := (D21 (Or.inr (w109 hw)) (ty := (.object z0)) (by decide))
 have F21_id : Fld Z h21 b21 z1 "id" z2 .null := (D21 (Or.inr (w111 hw)) (ty := (.object z0)) (by decide))
 refine o_dup K X21 at_288 rfl rfl ?_
 refine o_new K X21 (w12 hw) (w13 hw) (w14 hw) at_289 rfl (by decide) (by decide) ?_
 intro T22 h22 b22 X22 g22 E22 A22 D22 G22
 have F22_coder : Fld Z h22 b22 z0 "coder" "B" (.int 0) := (D22 (Or.inr (w38 hw)) (ty := .byte) (by decide))
 have F22_value : Fld Z h22 b22 z0 "value" "[B" .null := (D22 (Or.inr (w40 hw)) (ty := (.array .byte)) (by decide))
 refine o_dup K X22 at_292 rfl rfl ?_
 refine o_aload K X22 at_293 rfl rfl rfl ?_
 have n23 := oLn q2.lt E1.1 (oLe g2)
 have y0_3 := Nat.le_trans (Nat.le_trans E1.1 E2.1) u4_0.1
 have n24 := oLn q2.lt y0_3 (oLe g5)
 have n25 := oLz q2.lt (oLe g1)
 have m26 := ((((((((q2.ext E1).ext E2).keep u4_0 (ninS n23 nin0)).ext E5).keep u8_0 (ninS n24 nin0)).keep u20_0 (ninS n25 nin0)).ext E21).ext E22)
 refine o_special K X22 (y := (⟨z0, "<init>", "([C)V"⟩ : MethodName)) rfl (w15 hw) (w16 hw) (w14 hw) (w17 hw) (by decide) (rm_str_1 l Z a0 hw b22 ar3 kar3 cs ua h22 A22 F22_value F22_coder G22 m26 q27 q28 q15.2) (by decide) rfl (argsL := [.ref ar3]) rfl (lenOf pd17 rfl) (W := 3) rfl (by decide) (by decide) (by decide) at_295 rfl ?_
 intro v27 T27 h27 X27 U27
 obtain ⟨vb_27, k_27, rfl, u27_0, u27_1, u27_2, u27_3, u27_4, u27_5⟩ := U27
 have G27_vb : Z.heap.size ≤ vb_27 := Nat.le_trans X22.ext0.1 u27_4
 show oGoes pp ee bb ss Z T27 (mkF mm 298 _ [.ref b22, .ref b21, .ref b21]) _ _ _
 refine o_new K X27 (w12 hw) (w13 hw) (w14 hw) at_298 rfl (by decide) (by decide) ?_
 intro T28 h28 b28 X28 g28 E28 A28 D28 G28
 have F28_coder : Fld Z h28 b28 z0 "coder" "B" (.int 0) := (D28 (Or.inr (w38 hw)) (ty := .byte) (by decide))
 have F28_value : Fld Z h28 b28 z0 "value" "[B" .null := (D28 (Or.inr (w40 hw)) (ty := (.array .byte)) (by decide))
 refine o_dup K X28 at_301 rfl rfl ?_
 refine o_aload K X28 at_302 rfl rfl rfl ?_
 have n29 := oLn q3.lt E1.1 (oLe g2)
 have n30 := oLn q3.lt y0_3 (oLe g5)
 have n31 := oLz q3.lt (oLe g1)
 have y0_7 := Nat.le_trans (Nat.le_trans (Nat.le_trans (Nat.le_trans y0_3 E5.1) u8_0.1) u20_0.1) E21.1
 have n32 := oLn q3.lt y0_7 (oLe g22)
 have m33 := ((((((((((q3.ext E1).ext E2).keep u4_0 (ninS n29 nin0)).ext E5).keep u8_0 (ninS n30 nin0)).keep u20_0 (ninS n31 nin0)).ext E21).ext E22).keep u27_0 (ninS n32 nin0)).ext E28)
 refine o_special K X28 (y := (⟨z0, "<init>", "([C)V"⟩ : MethodName)) rfl (w15 hw) (w16 hw) (w14 hw) (w17 hw) (by decide) (rm_str_2 l Z a0 hw b28 ar4 kar4 cs ya yb h28 A28 F28_value F28_coder G28 m33 q27 q28 q16.2 q17.2) (by decide) rfl (argsL := [.ref ar4]) rfl (lenOf pd17 rfl) (W := 4) rfl (by decide) (by decide) (by decide) at_304 rfl ?_
 intro v34 T34 h34 X34 U34
 obtain ⟨vb_34, k_34, rfl, u34_0, u34_1, u34_2, u34_3, u34_4, u34_5⟩ := U34
 have G34_vb : Z.heap.size ≤ vb_34 := Nat.le_trans X28.ext0.1 u34_4
 show oGoes pp ee bb ss Z T34 (mkF mm 307 _ [.ref b28, .ref b22, .ref b21, .ref b21]) _ _ _
 have m35 := ((((A21.ext E22).keep u27_0).ext E28).keep u34_0)
 have n36 := oLz A21.lt (oLe g22)
 have n37 := oLn A21.lt (Nat.le_trans E22.1 u27_0.1) (oLe g28)
 have m38 := ((((F21_shelf.ext E22).keep u27_0 (ninS n36 nin0)).ext E28).keep u34_0 (ninS n37 nin0))
 have m39 := ((((F21_id.ext E22).keep u27_0 (ninS n36 nin0)).ext E28).keep u34_0 (ninS n37 nin0))
 have m40 := ((u27_1.ext E28).keep u34_0)
 have n41 := oLn A22.lt u27_0.1 (oLe g28)
 have m42 := ((u27_2.ext E28).keep u34_0 (ninS n41 nin0))
 have m43 := ((u27_3.ext E28).keep u34_0 (ninS n41 nin0))
 have n44 := oLz u27_5.lt (oLe g28)
 have m45 := ((u27_5.ext E28).keep u34_0 (ninS n44 nin0))
 refine o_special K X34 (y := (⟨z1, "<init>", z8⟩ : MethodName)) rfl (w41 hw) (w42 hw) (w11 hw) (w43 hw) (by decide) (rm_rk12 l Z a0 hw b21 b22 vb_27 k_27 b28 vb_34 k_34 ua ya yb fm cs h34 m35 G21 m38 m39 m40 m42 m43 m45 u34_1 u34_2 u34_3 u34_5 q8 q9 q10 q15 q16 q17 q25 q26 q27 q28) (by decide) rfl (argsL := [.ref b22, .ref b28]) rfl (lenOf pd18 rfl) (W := 1) rfl (by decide) (by decide) (by decide) at_307 rfl ?_
 intro v46 T46 h46 X46 U46
 obtain ⟨rfl, u46_0, u46_1, u46_2, u46_3⟩ := U46
 show oGoes pp ee bb ss Z T46 (mkF mm 310 _ [.ref b21]) _ _ _
 refine o_astore K X46 at_310 rfl rfl (L' := #[vI i0, vI i1, vI i2, vI i3, vI i4, vI i5, vI 2, vI 2, vI cp, vI cq, vI 1, vI 2, vR ar1, vR ar2, vR ar3, vR ar4, vR b1, vR b21, uS, uS, uS, uS]) rfl ?_
 have m47 := ((((((u20_1.ext E21).ext E22).keep u27_0).ext E28).keep u34_0).keep u46_0)
 have y1_7 := Nat.le_trans (Nat.le_trans (Nat.le_trans (Nat.le_trans (Nat.le_trans E2.1 u4_0.1) E5.1) u8_0.1) u20_0.1) E21.1
 have n48 := oLn A1.lt y1_7 (oLe g22)
 have y1_9 := Nat.le_trans (Nat.le_trans y1_7 E22.1) u27_0.1
 have n49 := oLn A1.lt y1_9 (oLe g28)
 have y1_6 := Nat.le_trans (Nat.le_trans (Nat.le_trans (Nat.le_trans E2.1 u4_0.1) E5.1) u8_0.1) u20_0.1
 have n50 := oLn A1.lt y1_6 (oLe g21)
 have m51 := ((((((u20_2.ext E21).ext E22).keep u27_0 (ninS n48 nin0)).ext E28).keep u34_0 (ninS n49 nin0)).keep u46_0 (ninS n50 nin0))
 have m52 := (((((((m14.keep u20_0).ext E21).ext E22).keep u27_0).ext E28).keep u34_0).keep u46_0)
 have y2_7 := Nat.le_trans (Nat.le_trans (Nat.le_trans (Nat.le_trans u4_0.1 E5.1) u8_0.1) u20_0.1) E21.1
 have n53 := oLn A2.lt y2_7 (oLe g22)
 have y2_9 := Nat.le_trans (Nat.le_trans y2_7 E22.1) u27_0.1
 have n54 := oLn A2.lt y2_9 (oLe g28)
 have y2_6 := Nat.le_trans (Nat.le_trans (Nat.le_trans u4_0.1 E5.1) u8_0.1) u20_0.1
 have n55 := oLn A2.lt y2_6 (oLe g21)
 have m56 := (((((((m16.keep u20_0 (ninS (Ne.symm n10) nin0)).ext E21).ext E22).keep u27_0 (ninS n53 nin0)).ext E28).keep u34_0 (ninS n54 nin0)).keep u46_0 (ninS n55 nin0))
 have m57 := (((((((m17.keep u20_0 (ninS (Ne.symm n10) nin0)).ext E21).ext E22).keep u27_0 (ninS n53 nin0)).ext E28).keep u34_0 (ninS n54 nin0)).keep u46_0 (ninS n55 nin0))
 have n59 := oLsn A1.lt E2.1 u4_4
 have y3_7 := Nat.le_trans (Nat.le_trans (Nat.le_trans E5.1 u8_0.1) u20_0.1) E21.1
 have n60 := oLn u4_5.lt y3_7 (oLe g22)
 have y3_9 := Nat.le_trans (Nat.le_trans y3_7 E22.1) u27_0.1
 have n61 := oLn u4_5.lt y3_9 (oLe g28)
 have y3_6 := Nat.le_trans (Nat.le_trans E5.1 u8_0.1) u20_0.1
 have n62 := oLn u4_5.lt y3_6 (oLe g21)
 have m63 := (((((((m19.keep u20_0 (ninS n59 nin0)).ext E21).ext E22).keep u27_0 (ninS n60 nin0)).ext E28).keep u34_0 (ninS n61 nin0)).keep u46_0 (ninS n62 nin0))
 have o58 := oByC (oBy2 ca cb) m63
 have m64 := ((((((u20_3.ext E21).ext E22).keep u27_0 (ninS n48 nin0)).ext E28).keep u34_0 (ninS n49 nin0)).keep u46_0 (ninS n50 nin0))
 have m65 := (((((((u8_1.keep u20_0).ext E21).ext E22).keep u27_0).ext E28).keep u34_0).keep u46_0)
 have y4_7 := Nat.le_trans (Nat.le_trans u8_0.1 u20_0.1) E21.1
 have n66 := oLn A5.lt y4_7 (oLe g22)
 have y4_9 := Nat.le_trans (Nat.le_trans y4_7 E22.1) u27_0.1
 have n67 := oLn A5.lt y4_9 (oLe g28)
 have n68 := oLn A5.lt (Nat.le_trans u8_0.1 u20_0.1) (oLe g21)
 have m69 := (((((((u8_2.keep u20_0 (ninS (Ne.symm n11) nin0)).ext E21).ext E22).keep u27_0 (ninS n66 nin0)).ext E28).keep u34_0 (ninS n67 nin0)).keep u46_0 (ninS n68 nin0))
 have m70 := (((((((u8_3.keep u20_0 (ninS (Ne.symm n11) nin0)).ext E21).ext E22).keep u27_0 (ninS n66 nin0)).ext E28).keep u34_0 (ninS n67 nin0)).keep u46_0 (ninS n68 nin0))
 have y1_4 := Nat.le_trans (Nat.le_trans E2.1 u4_0.1) E5.1
 have n72 := oLsn A1.lt y1_4 u8_4
 have n73 := oLn u8_5.lt (Nat.le_trans u20_0.1 E21.1) (oLe g22)
 have y5_9 := Nat.le_trans (Nat.le_trans (Nat.le_trans u20_0.1 E21.1) E22.1) u27_0.1
 have n74 := oLn u8_5.lt y5_9 (oLe g28)
 have n75 := oLn u8_5.lt u20_0.1 (oLe g21)
 have m76 := (((((((u8_5.keep u20_0 (ninS n72 nin0)).ext E21).ext E22).keep u27_0 (ninS n73 nin0)).ext E28).keep u34_0 (ninS n74 nin0)).keep u46_0 (ninS n75 nin0))
 have o71 := oByC (oBy2 da db) m76
 have m77 := (m40.keep u46_0)
 have m78 := (m42.keep u46_0 (ninS (Ne.symm n36) nin0))
 have m79 := (m43.keep u46_0 (ninS (Ne.symm n36) nin0))
 have n81 := oLsn A21.lt E22.1 u27_4
 have m82 := (m45.keep u46_0 (ninS n81 nin0))
 have o80 := oByC (oBy1 ua ua) m82
 have m83 := (u34_1.keep u46_0)
 have m84 := (u34_2.keep u46_0 (ninS (Ne.symm n37) nin0))
 have m85 := (u34_3.keep u46_0 (ninS (Ne.symm n37) nin0))
 have y7_10 := Nat.le_trans (Nat.le_trans E22.1 u27_0.1) E28.1
 have n87 := oLsn A21.lt y7_10 u34_4
 have m88 := (u34_5.keep u46_0 (ninS n87 nin0))
 have o86 := oByC (oBy2 ya yb) m88
 have n89 := oLn q0.lt E1.1 (oLe g2)
 have n90 := oLn q0.lt y0_3 (oLe g5)
 have n91 := oLz q0.lt (oLe g1)
 have n92 := oLn q0.lt y0_7 (oLe g22)
 have y0_9 := Nat.le_trans (Nat.le_trans y0_7 E22.1) u27_0.1
 have n93 := oLn q0.lt y0_9 (oLe g28)
 have y0_6 := Nat.le_trans (Nat.le_trans (Nat.le_trans y0_3 E5.1) u8_0.1) u20_0.1
 have n94 := oLn q0.lt y0_6 (oLe g21)
 have m95 := ((((((((((m3.keep u4_0 (ninS n89 nin0)).ext E5).keep u8_0 (ninS n90 nin0)).keep u20_0 (ninS n91 nin0)).ext E21).ext E22).keep u27_0 (ninS n92 nin0)).ext E28).keep u34_0 (ninS n93 nin0)).keep u46_0 (ninS n94 nin0))
 have n96 := oLn q1.lt y0_3 (oLe g5)
 have n97 := oLz q1.lt (oLe g1)
 have n98 := oLn q1.lt y0_7 (oLe g22)
 have n99 := oLn q1.lt y0_9 (oLe g28)
 have n100 := oLn q1.lt y0_6 (oLe g21)
 have m101 := ((((((((m7.keep u8_0 (ninS n96 nin0)).keep u20_0 (ninS n97 nin0)).ext E21).ext E22).keep u27_0 (ninS n98 nin0)).ext E28).keep u34_0 (ninS n99 nin0)).keep u46_0 (ninS n100 nin0))
 have n102 := oLn q2.lt y0_7 (oLe g22)
 have n103 := oLn q2.lt y0_9 (oLe g28)
 have n104 := oLn q2.lt y0_6 (oLe g21)
 have m105 := ((((m26.keep u27_0 (ninS n102 nin0)).ext E28).keep u34_0 (ninS n103 nin0)).keep u46_0 (ninS n104 nin0))
 have n106 := oLn q3.lt y0_9 (oLe g28)
 have n107 := oLn q3.lt y0_6 (oLe g21)
 have m108 := ((m33.keep u34_0 (ninS n106 nin0)).keep u46_0 (ninS n107 nin0))
 refine o_iload K X46 at_312 rfl rfl ?_
 refine o_iconst K X46 at_314 rfl (z := 2) rfl ?_
 refine o_iushr K X46 at_315 rfl (z := ((i5.toUInt32 >>> ((2 : Int32) &&& 31).toUInt32).toInt32)) rfl ?_
 refine o_bipush K X46 at_316 rfl (z := 7) rfl ?_
 refine o_iand K X46 at_318 rfl (z := (((i5.toUInt32 >>> ((2 : Int32) &&& 31).toUInt32).toInt32) &&& (7 : Int32))) rfl ?_
 refine o_istore K X46 at_319 rfl (L' := #[vI i0, vI i1, vI i2, vI i3, vI i4, vI i5, vI 2, vI 2, vI cp, vI cq, vI 1, vI 2, vR ar1, vR ar2, vR ar3, vR ar4, vR b1, vR b21, vI (((i5.toUInt32 >>> ((2 : Int32) &&& 31).toUInt32).toInt32) &&& (7 : Int32)), uS, uS, uS]) rfl ?_
 refine o_iload K X46 at_321 rfl rfl ?_
 refine o_iconst K X46 at_323 rfl (z := 5) rfl ?_
 by_cases c324_109 : (((i5.toUInt32 >>> ((2 : Int32) &&& 31).toUInt32).toInt32) &&& (7 : Int32)) = (5 : Int32)
 refine o_icmp_ne_f K X46 at_324 rfl c324_109 ?_
 refine o_aload K X46 at_327 rfl rfl rfl ?_
 refine o_aconst_null K X46 at_329 rfl ?_
 refine o_virtual K X46   (w112 hw) (w113 hw) (oNF (w115 hw)) (w115 hw) (w114 hw) (w11 hw) (w116 hw) (by decide) m47 (rm_eqnull l Z a0 hw b1 h46) (by decide) rfl (argsL := [.null]) rfl (lenOf pd16 rfl) (W := 0) rfl (by decide) (by decide) (by decide) at_330 rfl ?_
 intro v110 T110 h110 X110 U110
 obtain ⟨rfl, rfl⟩ := U110
 show oGoes pp ee bb ss Z T110 (mkF mm 333 _ [.int 0]) _ _ _
 refine o_if_ne_f K X110 at_333 rfl (by decide) ?_
 refine o_iconst K X110 at_336 rfl (z := 1) rfl ?_
 refine o_goto K X110 at_337 (by decide) (pc' := 341) (by decide) ?_
 refine o_ireturnN K X110 .boolean at_341 rfl (by simp) (z' := 1) (by decide) ?_ (by decide) (by decide)
 exact hQ _ _ rfl
 refine o_icmp_ne_t K X46 at_324 (by decide) (pc' := 342) (by decide) c324_109 ?_
 refine o_iload K X46 at_342 rfl rfl ?_
 refine o_bipush K X46 at_344 rfl (z := 6) rfl ?_
 by_cases c346_111 : (((i5.toUInt32 >>> ((2 : Int32) &&& 31).toUInt32).toInt32) &&& (7 : Int32)) = (6 : Int32)
 refine o_icmp_ne_f K X46 at_346 rfl c346_111 ?_
 refine o_aload K X46 at_349 rfl rfl rfl ?_
 refine o_new K X46 (w12 hw) (w13 hw) (w14 hw) at_351 rfl (by decide) (by decide) ?_
 intro T112 h112 b112 X112 g112 E112 A112 D112 G112
 have F112_coder : Fld Z h112 b112 z0 "coder" "B" (.int 0) := (D112 (Or.inr (w38 hw)) (ty := .byte) (by decide))
 have F112_value : Fld Z h112 b112 z0 "value" "[B" .null := (D112 (Or.inr (w40 hw)) (ty := (.array .byte)) (by decide))
 refine o_dup K X112 at_354 rfl rfl ?_
 refine o_aload K X112 at_355 rfl rfl rfl ?_
 have m113 := (m95.ext E112)
 refine o_special K X112 (y := (⟨z0, "<init>", "([C)V"⟩ : MethodName)) rfl (w15 hw) (w16 hw) (w14 hw) (w17 hw) (by decide) (rm_str_2 l Z a0 hw b112 ar1 kar1 cs ca cb h112 A112 F112_value F112_coder G112 m113 q27 q28 q11.2 q12.2) (by decide) rfl (argsL := [.ref ar1]) rfl (lenOf pd17 rfl) (W := 2) rfl (by decide) (by decide) (by decide) at_357 rfl ?_
 intro v114 T114 h114 X114 U114
 obtain ⟨vb_114, k_114, rfl, u114_0, u114_1, u114_2, u114_3, u114_4, u114_5⟩ := U114
 have G114_vb : Z.heap.size ≤ vb_114 := Nat.le_trans X112.ext0.1 u114_4
 show oGoes pp ee bb ss Z T114 (mkF mm 360 _ [.ref b112, .ref b1]) _ _ _
 have m115 := ((m47.ext E112).keep u114_0)
 refine o_virtual K X114   (w112 hw) (w113 hw) (oNF (w115 hw)) (w115 hw) (w114 hw) (w11 hw) (w116 hw) (by decide) m115 (rm_eqstr l Z a0 hw b1 b112 h114 u114_1) (by decide) rfl (argsL := [.ref b112]) rfl (lenOf pd16 rfl) (W := 0) rfl (by decide) (by decide) (by decide) at_360 rfl ?_
 intro v116 T116 h116 X116 U116
 obtain ⟨rfl, rfl⟩ := U116
 show oGoes pp ee bb ss Z T116 (mkF mm 363 _ [.int 0]) _ _ _
 refine o_if_ne_f K X116 at_363 rfl (by decide) ?_
 refine o_iconst K X116 at_366 rfl (z := 1) rfl ?_
 refine o_goto K X116 at_367 (by decide) (pc' := 371) (by decide) ?_
 refine o_ireturnN K X116 .boolean at_371 rfl (by simp) (z' := 1) (by decide) ?_ (by decide) (by decide)
 exact hQ _ _ rfl
 refine o_icmp_ne_t K X46 at_346 (by decide) (pc' := 372) (by decide) c346_111 ?_
 refine o_iload K X46 at_372 rfl rfl ?_
 refine o_bipush K X46 at_374 rfl (z := 7) rfl ?_
 by_cases c376_117 : (((i5.toUInt32 >>> ((2 : Int32) &&& 31).toUInt32).toInt32) &&& (7 : Int32)) = (7 : Int32)
 refine o_icmp_ne_f K X46 at_376 rfl c376_117 ?_
 refine o_aload K X46 at_379 rfl rfl rfl ?_
 refine o_aload K X46 at_381 rfl rfl rfl ?_
 refine o_virtual K X46   (w112 hw) (w113 hw) (oNF (w115 hw)) (w115 hw) (w114 hw) (w11 hw) (w116 hw) (by decide) m47 (rm_eqself l Z a0 hw b1 b2 b5 h46 m47 m51 m64 m52 m65) (by decide) rfl (argsL := [.ref b1]) rfl (lenOf pd16 rfl) (W := 0) rfl (by decide) (by decide) (by decide) at_383 rfl ?_
 intro v118 T118 h118 X118 U118
 obtain ⟨rfl, rfl⟩ := U118
 show oGoes pp ee bb ss Z T118 (mkF mm 386 _ [.int 1]) _ _ _
 refine o_ireturnN K X118 .boolean at_386 rfl (by simp) (z' := 1) (by decide) ?_ (by decide) (by decide)
 exact hQ _ _ rfl
 refine o_icmp_ne_t K X46 at_376 (by decide) (pc' := 387) (by decide) c376_117 ?_
 refine o_iload K X46 at_387 rfl rfl ?_
 refine o_iload K X46 at_389 rfl rfl ?_
 refine o_icmp_ne_t K X46 at_391 (by decide) (pc' := 426) (by decide) (by decide) ?_
 refine o_iconst K X46 at_426 rfl (z := 0) rfl ?_
 refine o_istore K X46 at_427 rfl (L' := #[vI i0, vI i1, vI i2, vI i3, vI i4, vI i5, vI 2, vI 2, vI cp, vI cq, vI 1, vI 2, vR ar1, vR ar2, vR ar3, vR ar4, vR b1, vR b21, vI (((i5.toUInt32 >>> ((2 : Int32) &&& 31).toUInt32).toInt32) &&& (7 : Int32)), vI 0, uS, uS]) rfl ?_
 refine o_iload K X46 at_429 rfl rfl ?_
 refine o_iload K X46 at_431 rfl rfl ?_
 refine o_icmp_ne_f K X46 at_433 rfl (by decide) ?_
 refine o_aload K X46 at_436 rfl rfl rfl ?_
 refine o_iconst K X46 at_438 rfl (z := 0) rfl ?_
 refine o_caload K X46 m101 (by decide) (v := (.int da)) rfl at_439 rfl ?_
 refine o_aload K X46 at_440 rfl rfl rfl ?_
 refine o_iconst K X46 at_442 rfl (z := 0) rfl ?_
 refine o_caload K X46 m108 (by decide) (v := (.int ya)) rfl at_443 rfl ?_
 by_cases c444_119 : da = ya
 refine o_icmp_ne_f K X46 at_444 rfl c444_119 ?_
 refine o_iload K X46 at_447 rfl rfl ?_
 refine o_iconst K X46 at_449 rfl (z := 1) rfl ?_
 refine o_icmp_eq_f K X46 at_450 rfl (by decide) ?_
 refine o_aload K X46 at_453 rfl rfl rfl ?_
 refine o_iconst K X46 at_455 rfl (z := 1) rfl ?_
 refine o_caload K X46 m101 (by decide) (v := (.int db)) rfl at_456 rfl ?_
 refine o_aload K X46 at_457 rfl rfl rfl ?_
 refine o_iconst K X46 at_459 rfl (z := 1) rfl ?_
 refine o_caload K X46 m108 (by decide) (v := (.int yb)) rfl at_460 rfl ?_
 by_cases c461_120 : db = yb
 refine o_icmp_ne_f K X46 at_461 rfl c461_120 ?_
 refine o_iconst K X46 at_464 rfl (z := 1) rfl ?_
 refine o_goto K X46 at_465 (by decide) (pc' := 469) (by decide) ?_
 refine o_istore K X46 at_469 rfl (L' := #[vI i0, vI i1, vI i2, vI i3, vI i4, vI i5, vI 2, vI 2, vI cp, vI cq, vI 1, vI 2, vR ar1, vR ar2, vR ar3, vR ar4, vR b1, vR b21, vI (((i5.toUInt32 >>> ((2 : Int32) &&& 31).toUInt32).toInt32) &&& (7 : Int32)), vI 0, vI 1, uS]) rfl ?_
 refine tl_lw3 l Z a0 hw i0 i1 i2 i3 i4 i5 cp cq (((i5.toUInt32 >>> ((2 : Int32) &&& 31).toUInt32).toInt32) &&& (7 : Int32)) 0 1 ar1 ar2 ar3 ar4 b1 b21 b2 vb_4 k_4 b5 vb_8 k_8 b22 vb_27 k_27 b28 vb_34 k_34 2 2 1 2 ca cb da db ua ua ya yb cs h46 (by simp +decide [oSm, c444_119, c461_120]) (by simp +decide [oSm, c444_119, c461_120]) m47 m51 m64 u46_1 u46_2 u46_3 m52 m56 m57 o58 m65 m69 m70 o71 m77 m78 m79 o80 m83 m84 m85 o86 (by decide) (by decide) (by decide) (by decide) q11 q12 q13 q14 q15 q15 q16 q17 n53 n67 q27 q28 (fun v121 h121 U121 => ?_) K (X46.mono (by decide) (by decide))
 obtain rfl : v121 = some (.int 1) := U121
 exact hQ _ _ rfl
 refine o_icmp_ne_t K X46 at_461 (by decide) (pc' := 468) (by decide) c461_120 ?_
 refine o_iconst K X46 at_468 rfl (z := 0) rfl ?_
 refine o_istore K X46 at_469 rfl (L' := #[vI i0, vI i1, vI i2, vI i3, vI i4, vI i5, vI 2, vI 2, vI cp, vI cq, vI 1, vI 2, vR ar1, vR ar2, vR ar3, vR ar4, vR b1, vR b21, vI (((i5.toUInt32 >>> ((2 : Int32) &&& 31).toUInt32).toInt32) &&& (7 : Int32)), vI 0, vI 0, uS]) rfl ?_
 refine tl_lw3 l Z a0 hw i0 i1 i2 i3 i4 i5 cp cq (((i5.toUInt32 >>> ((2 : Int32) &&& 31).toUInt32).toInt32) &&& (7 : Int32)) 0 0 ar1 ar2 ar3 ar4 b1 b21 b2 vb_4 k_4 b5 vb_8 k_8 b22 vb_27 k_27 b28 vb_34 k_34 2 2 1 2 ca cb da db ua ua ya yb cs h46 (by simp +decide [oSm, c444_119, c461_120]) (by simp +decide [oSm, c444_119, c461_120]) m47 m51 m64 u46_1 u46_2 u46_3 m52 m56 m57 o58 m65 m69 m70 o71 m77 m78 m79 o80 m83 m84 m85 o86 (by decide) (by decide) (by decide) (by decide) q11 q12 q13 q14 q15 q15 q16 q17 n53 n67 q27 q28 (fun v122 h122 U122 => ?_) K (X46.mono (by decide) (by decide))
 obtain rfl : v122 = some (.int 1) := U122
 exact hQ _ _ rfl
 refine o_icmp_ne_t K X46 at_444 (by decide) (pc' := 468) (by decide) c444_119 ?_
 refine o_iconst K X46 at_468 rfl (z := 0) rfl ?_
 refine o_istore K X46 at_469 rfl (L' := #[vI i0, vI i1, vI i2, vI i3, vI i4, vI i5, vI 2, vI 2, vI cp, vI cq, vI 1, vI 2, vR ar1, vR ar2, vR ar3, vR ar4, vR b1, vR b21, vI (((i5.toUInt32 >>> ((2 : Int32) &&& 31).toUInt32).toInt32) &&& (7 : Int32)), vI 0, vI 0, uS]) rfl ?_
 refine tl_lw3 l Z a0 hw i0 i1 i2 i3 i4 i5 cp cq (((i5.toUInt32 >>> ((2 : Int32) &&& 31).toUInt32).toInt32) &&& (7 : Int32)) 0 0 ar1 ar2 ar3 ar4 b1 b21 b2 vb_4 k_4 b5 vb_8 k_8 b22 vb_27 k_27 b28 vb_34 k_34 2 2 1 2 ca cb da db ua ua ya yb cs h46 (by simp +decide [oSm, c444_119]) (by simp +decide [oSm, c444_119]) m47 m51 m64 u46_1 u46_2 u46_3 m52 m56 m57 o58 m65 m69 m70 o71 m77 m78 m79 o80 m83 m84 m85 o86 (by decide) (by decide) (by decide) (by decide) q11 q12 q13 q14 q15 q15 q16 q17 n53 n67 q27 q28 (fun v123 h123 U123 => ?_) K (X46.mono (by decide) (by decide))
 obtain rfl : v123 = some (.int 1) := U123
 exact hQ _ _ rfl
def Q_t258_2221 (Z : State) (i0 i1 i2 i3 i4 i5 cp cq : Int32) (ar1 : Addr) (kar1 : ClassId) (ar2 : Addr) (kar2 : ClassId) (ar3 : Addr) (kar3 : ClassId) (ar4 : Addr) (kar4 : ClassId) (ca cb da db ua ub ya : Int32) (fm : Value) (cs : Int32) (h0 : Heap) (v : Option Value) (h : Heap) : Prop := v = some (.int 1)
theorem tl_t258_2221 (l : Launch) (Z : State) (a0 : Array Value) (hw : oHw Z a0) (i0 i1 i2 i3 i4 i5 cp cq : Int32) (ar1 : Addr) (kar1 : ClassId) (ar2 : Addr) (kar2 : ClassId) (ar3 : Addr) (kar3 : ClassId) (ar4 : Addr) (kar4 : ClassId) (ca cb da db ua ub ya : Int32) (fm : Value) (cs : Int32) (h0 : Heap) (q0 : oArr Z h0 ar1 kar1 .char [.int ca, .int cb]) (q1 : oArr Z h0 ar2 kar2 .char [.int da, .int db]) (q2 : oArr Z h0 ar3 kar3 .char [.int ua, .int ub]) (q3 : oArr Z h0 ar4 kar4 .char [.int ya]) (q4 : oSh ca) (q5 : oSh cb) (q6 : oId da) (q7 : oId db) (q8 : oSh ua) (q9 : oSh ub) (q10 : oId ya) (q11 : oCh ca) (q12 : oCh cb) (q13 : oCh da) (q14 : oCh db) (q15 : oCh ua) (q16 : oCh ub) (q17 : oCh ya) (q18 : nar .char ca = ca) (q19 : nar .char cb = cb) (q20 : nar .char da = da) (q21 : nar .char db = db) (q22 : nar .char ua = ua) (q23 : nar .char ub = ub) (q24 : nar .char ya = ya) (q25 : Sta Z Z.heap z3 z5 z6 fm) (q26 : fm.isRef = true) (q27 : Sta Z Z.heap z0 z4 "Z" (.int cs)) (q28 : ¬ (cs = (0 : Int32))) {Q : Option Value → Heap → Prop} (hQ : ∀ v h, Q_t258_2221 Z i0 i1 i2 i3 i4 i5 cp cq ar1 kar1 ar2 kar2 ar3 kar3 ar4 kar4 ca cb da db ua ub ya fm cs h0 v h → Q v h) {pp : Program} {ee : Env} {ss : State} {mm : MethodId} {bb : List Frame} {mtd : Method} {cc : Code} {A : Array Value} {T0 : State} (K : oCtx pp ss mm mtd cc Z z7 code maxLocals "law" ret x) (X0 : oSt pp l ee room_1 ss mm A bb mtd cc Z T0 h0 4 8) : oGoes pp ee bb ss Z T0 (mkF mm 258 #[vI i0, vI i1, vI i2, vI i3, vI i4, vI i5, vI 2, vI 2, vI cp, vI cq, vI 2, vI 1, vR ar1, vR ar2, vR ar3, vR ar4, uS, uS, uS, uS, uS, uS] []) Q room_1.cells room_1.slots := by
 have E0 := X0.ext0
 refine o_new K X0 (w9 hw) (w10 hw) (w11 hw) at_258 rfl (by decide) (by decide) ?_
 intro T1 h1 b1 X1 g1 E1 A1 D1 G1
 have F1_shelf : Fld Z h1 b1 z1 "shelf" z2 .null := (D1 (Or.inr (w109 hw)) (ty := (.object z0)) (by decide))
 have F1_id : Fld Z h1 b1 z1 "id" z2 .null := (D1 (Or.inr (w111 hw)) (ty := (.object z0)) (by decide))
 refine o_dup K X1 at_261 rfl rfl ?_
 refine o_new K X1 (w12 hw) (w13 hw) (w14 hw) at_262 rfl (by decide) (by decide) ?_
 intro T2 h2 b2 X2 g2 E2 A2 D2 G2
 have F2_coder : Fld Z h2 b2 z0 "coder" "B" (.int 0) := (D2 (Or.inr (w38 hw)) (ty := .byte) (by decide))
 have F2_value : Fld Z h2 b2 z0 "value" "[B" .null := (D2 (Or.inr (w40 hw)) (ty := (.array .byte)) (by decide))
 refine o_dup K X2 at_265 rfl rfl ?_
 refine o_aload K X2 at_266 rfl rfl rfl ?_
 have m3 := ((q0.ext E1).ext E2)
 refine o_special K X2 (y := (⟨z0, "<init>", "([C)V"⟩ : MethodName)) rfl (w15 hw) (w16 hw) (w14 hw) (w17 hw) (by decide) (rm_str_2 l Z a0 hw b2 ar1 kar1 cs ca cb h2 A2 F2_value F2_coder G2 m3 q27 q28 q11.2 q12.2) (by decide) rfl (argsL := [.ref ar1]) rfl (lenOf pd17 rfl) (W := 3) rfl (by decide) (by decide) (by decide) at_268 rfl ?_
 intro v4 T4 h4 X4 U4
 obtain ⟨vb_4, k_4, rfl, u4_0, u4_1, u4_2, u4_3, u4_4, u4_5⟩ := U4
 have G4_vb : Z.heap.size ≤ vb_4 := Nat.le_trans X2.ext0.1 u4_4
 show oGoes pp ee bb ss Z T4 (mkF mm 271 _ [.ref b2, .ref b1, .ref b1]) _ _ _
 refine o_new K X4 (w12 hw) (w13 hw) (w14 hw) at_271 rfl (by decide) (by decide) ?_
 intro T5 h5 b5 X5 g5 E5 A5 D5 G5
 have F5_coder : Fld Z h5 b5 z0 "coder" "B" (.int 0) := (D5 (Or.inr (w38 hw)) (ty := .byte) (by decide))
 have F5_value : Fld Z h5 b5 z0 "value" "[B" .null := (D5 (Or.inr (w40 hw)) (ty := (.array .byte)) (by decide))
 refine o_dup K X5 at_274 rfl rfl ?_
 refine o_aload K X5 at_275 rfl rfl rfl ?_
 have n6 := oLn q1.lt E1.1 (oLe g2)
 have m7 := ((((q1.ext E1).ext E2).keep u4_0 (ninS n6 nin0)).ext E5)
 refine o_special K X5 (y := (⟨z0, "<init>", "([C)V"⟩ : MethodName)) rfl (w15 hw) (w16 hw) (w14 hw) (w17 hw) (by decide) (rm_str_2 l Z a0 hw b5 ar2 kar2 cs da db h5 A5 F5_value F5_coder G5 m7 q27 q28 q13.2 q14.2) (by decide) rfl (argsL := [.ref ar2]) rfl (lenOf pd17 rfl) (W := 4) rfl (by decide) (by decide) (by decide) at_277 rfl ?_
 intro v8 T8 h8 X8 U8
 obtain ⟨vb_8, k_8, rfl, u8_0, u8_1, u8_2, u8_3, u8_4, u8_5⟩ := U8
 have G8_vb : Z.heap.size ≤ vb_8 := Nat.le_trans X5.ext0.1 u8_4
 show oGoes pp ee bb ss Z T8 (mkF mm 280 _ [.ref b5, .ref b2, .ref b1, .ref b1]) _ _ _
 have m9 := ((((A1.ext E2).keep u4_0).ext E5).keep u8_0)
 have n10 := oLz A1.lt (oLe g2)
 have n11 := oLn A1.lt (Nat.le_trans E2.1 u4_0.1) (oLe g5)
 have m12 := ((((F1_shelf.ext E2).keep u4_0 (ninS n10 nin0)).ext E5).keep u8_0 (ninS n11 nin0))
 have m13 := ((((F1_id.ext E2).keep u4_0 (ninS n10 nin0)).ext E5).keep u8_0 (ninS n11 nin0))
 have m14 := ((u4_1.ext E5).keep u8_0)
 have n15 := oLn A2.lt u4_0.1 (oLe g5)
 have m16 := ((u4_2.ext E5).keep u8_0 (ninS n15 nin0))
 have m17 := ((u4_3.ext E5).keep u8_0 (ninS n15 nin0))
 have n18 := oLz u4_5.lt (oLe g5)
 have m19 := ((u4_5.ext E5).keep u8_0 (ninS n18 nin0))
 refine o_special K X8 (y := (⟨z1, "<init>", z8⟩ : MethodName)) rfl (w41 hw) (w42 hw) (w11 hw) (w43 hw) (by decide) (rm_rk22 l Z a0 hw b1 b2 vb_4 k_4 b5 vb_8 k_8 ca cb da db fm cs h8 m9 G1 m12 m13 m14 m16 m17 m19 u8_1 u8_2 u8_3 u8_5 q4 q5 q6 q7 q11 q12 q13 q14 q25 q26 q27 q28) (by decide) rfl (argsL := [.ref b2, .ref b5]) rfl (lenOf pd18 rfl) (W := 1) rfl (by decide) (by decide) (by decide) at_280 rfl ?_
 intro v20 T20 h20 X20 U20
 obtain ⟨rfl, u20_0, u20_1, u20_2, u20_3⟩ := U20
 show oGoes pp ee bb ss Z T20 (mkF mm 283 _ [.ref b1]) _ _ _
 refine o_astore K X20 at_283 rfl rfl (L' := #[vI i0, vI i1, vI i2, vI i3, vI i4, vI i5, vI 2, vI 2, vI cp, vI cq, vI 2, vI 1, vR ar1, vR ar2, vR ar3, vR ar4, vR b1, uS, uS, uS, uS, uS]) rfl ?_
 refine o_new K X20 (w9 hw) (w10 hw) (w11 hw) at_285 rfl (by decide) (by decide) ?_
 intro T21 h21 b21 X21 g21 E21 A21 D21 G21
 have F21_shelf : Fld Z h21 b21 z1 "shelf" z2 .null := (D21 (Or.inr (w109 hw)) (ty := (.object z0)) (by decide))
 have F21_id : Fld Z h21 b21 z1 "id" z2 .null := (D21 (Or.inr (w111 hw)) (ty := (.object z0)) (by decide))
 refine o_dup K X21 at_288 rfl rfl ?_
 refine o_new K X21 (w12 hw) (w13 hw) (w14 hw) at_289 rfl (by decide) (by decide) ?_
 intro T22 h22 b22 X22 g22 E22 A22 D22 G22
 have F22_coder : Fld Z h22 b22 z0 "coder" "B" (.int 0) := (D22 (Or.inr (w38 hw)) (ty := .byte) (by decide))
 have F22_value : Fld Z h22 b22 z0 "value" "[B" .null := (D22 (Or.inr (w40 hw)) (ty := (.array .byte)) (by decide))
 refine o_dup K X22 at_292 rfl rfl ?_
 refine o_aload K X22 at_293 rfl rfl rfl ?_
 have n23 := oLn q2.lt E1.1 (oLe g2)
 have y0_3 := Nat.le_trans (Nat.le_trans E1.1 E2.1) u4_0.1
 have n24 := oLn q2.lt y0_3 (oLe g5)
 have n25 := oLz q2.lt (oLe g1)
 have m26 := ((((((((q2.ext E1).ext E2).keep u4_0 (ninS n23 nin0)).ext E5).keep u8_0 (ninS n24 nin0)).keep u20_0 (ninS n25 nin0)).ext E21).ext E22)
 refine o_special K X22 (y := (⟨z0, "<init>", "([C)V"⟩ : MethodName)) rfl (w15 hw) (w16 hw) (w14 hw) (w17 hw) (by decide) (rm_str_2 l Z a0 hw b22 ar3 kar3 cs ua ub h22 A22 F22_value F22_coder G22 m26 q27 q28 q15.2 q16.2) (by decide) rfl (argsL := [.ref ar3]) rfl (lenOf pd17 rfl) (W := 3) rfl (by decide) (by decide) (by decide) at_295 rfl ?_
 intro v27 T27 h27 X27 U27
 obtain ⟨vb_27, k_27, rfl, u27_0, u27_1, u27_2, u27_3, u27_4, u27_5⟩ := U27
 have G27_vb : Z.heap.size ≤ vb_27 := Nat.le_trans X22.ext0.1 u27_4
 show oGoes pp ee bb ss Z T27 (mkF mm 298 _ [.ref b22, .ref b21, .ref b21]) _ _ _
 refine o_new K X27 (w12 hw) (w13 hw) (w14 hw) at_298 rfl (by decide) (by decide) ?_
 intro T28 h28 b28 X28 g28 E28 A28 D28 G28
 have F28_coder : Fld Z h28 b28 z0 "coder" "B" (.int 0) := (D28 (Or.inr (w38 hw)) (ty := .byte) (by decide))
 have F28_value : Fld Z h28 b28 z0 "value" "[B" .null := (D28 (Or.inr (w40 hw)) (ty := (.array .byte)) (by decide))
 refine o_dup K X28 at_301 rfl rfl ?_
 refine o_aload K X28 at_302 rfl rfl rfl ?_
 have n29 := oLn q3.lt E1.1 (oLe g2)
 have n30 := oLn q3.lt y0_3 (oLe g5)
 have n31 := oLz q3.lt (oLe g1)
 have y0_7 := Nat.le_trans (Nat.le_trans (Nat.le_trans (Nat.le_trans y0_3 E5.1) u8_0.1) u20_0.1) E21.1
 have n32 := oLn q3.lt y0_7 (oLe g22)
 have m33 := ((((((((((q3.ext E1).ext E2).keep u4_0 (ninS n29 nin0)).ext E5).keep u8_0 (ninS n30 nin0)).keep u20_0 (ninS n31 nin0)).ext E21).ext E22).keep u27_0 (ninS n32 nin0)).ext E28)
 refine o_special K X28 (y := (⟨z0, "<init>", "([C)V"⟩ : MethodName)) rfl (w15 hw) (w16 hw) (w14 hw) (w17 hw) (by decide) (rm_str_1 l Z a0 hw b28 ar4 kar4 cs ya h28 A28 F28_value F28_coder G28 m33 q27 q28 q17.2) (by decide) rfl (argsL := [.ref ar4]) rfl (lenOf pd17 rfl) (W := 4) rfl (by decide) (by decide) (by decide) at_304 rfl ?_
 intro v34 T34 h34 X34 U34
 obtain ⟨vb_34, k_34, rfl, u34_0, u34_1, u34_2, u34_3, u34_4, u34_5⟩ := U34
 have G34_vb : Z.heap.size ≤ vb_34 := Nat.le_trans X28.ext0.1 u34_4
 show oGoes pp ee bb ss Z T34 (mkF mm 307 _ [.ref b28, .ref b22, .ref b21, .ref b21]) _ _ _
 have m35 := ((((A21.ext E22).keep u27_0).ext E28).keep u34_0)
 have n36 := oLz A21.lt (oLe g22)
 have n37 := oLn A21.lt (Nat.le_trans E22.1 u27_0.1) (oLe g28)
 have m38 := ((((F21_shelf.ext E22).keep u27_0 (ninS n36 nin0)).ext E28).keep u34_0 (ninS n37 nin0))
 have m39 := ((((F21_id.ext E22).keep u27_0 (ninS n36 nin0)).ext E28).keep u34_0 (ninS n37 nin0))
 have m40 := ((u27_1.ext E28).keep u34_0)
 have n41 := oLn A22.lt u27_0.1 (oLe g28)
 have m42 := ((u27_2.ext E28).keep u34_0 (ninS n41 nin0))
 have m43 := ((u27_3.ext E28).keep u34_0 (ninS n41 nin0))
 have n44 := oLz u27_5.lt (oLe g28)
 have m45 := ((u27_5.ext E28).keep u34_0 (ninS n44 nin0))
 refine o_special K X34 (y := (⟨z1, "<init>", z8⟩ : MethodName)) rfl (w41 hw) (w42 hw) (w11 hw) (w43 hw) (by decide) (rm_rk21 l Z a0 hw b21 b22 vb_27 k_27 b28 vb_34 k_34 ua ub ya fm cs h34 m35 G21 m38 m39 m40 m42 m43 m45 u34_1 u34_2 u34_3 u34_5 q8 q9 q10 q15 q16 q17 q25 q26 q27 q28) (by decide) rfl (argsL := [.ref b22, .ref b28]) rfl (lenOf pd18 rfl) (W := 1) rfl (by decide) (by decide) (by decide) at_307 rfl ?_
 intro v46 T46 h46 X46 U46
 obtain ⟨rfl, u46_0, u46_1, u46_2, u46_3⟩ := U46
 show oGoes pp ee bb ss Z T46 (mkF mm 310 _ [.ref b21]) _ _ _
 refine o_astore K X46 at_310 rfl rfl (L' := #[vI i0, vI i1, vI i2, vI i3, vI i4, vI i5, vI 2, vI 2, vI cp, vI cq, vI 2, vI 1, vR ar1, vR ar2, vR ar3, vR ar4, vR b1, vR b21, uS, uS, uS, uS]) rfl ?_
 have m47 := ((((((u20_1.ext E21).ext E22).keep u27_0).ext E28).keep u34_0).keep u46_0)
 have y1_7 := Nat.le_trans (Nat.le_trans (Nat.le_trans (Nat.le_trans (Nat.le_trans E2.1 u4_0.1) E5.1) u8_0.1) u20_0.1) E21.1
 have n48 := oLn A1.lt y1_7 (oLe g22)
 have y1_9 := Nat.le_trans (Nat.le_trans y1_7 E22.1) u27_0.1
 have n49 := oLn A1.lt y1_9 (oLe g28)
 have y1_6 := Nat.le_trans (Nat.le_trans (Nat.le_trans (Nat.le_trans E2.1 u4_0.1) E5.1) u8_0.1) u20_0.1
 have n50 := oLn A1.lt y1_6 (oLe g21)
 have m51 := ((((((u20_2.ext E21).ext E22).keep u27_0 (ninS n48 nin0)).ext E28).keep u34_0 (ninS n49 nin0)).keep u46_0 (ninS n50 nin0))
 have m52 := (((((((m14.keep u20_0).ext E21).ext E22).keep u27_0).ext E28).keep u34_0).keep u46_0)
 have y2_7 := Nat.le_trans (Nat.le_trans (Nat.le_trans (Nat.le_trans u4_0.1 E5.1) u8_0.1) u20_0.1) E21.1
 have n53 := oLn A2.lt y2_7 (oLe g22)
 have y2_9 := Nat.le_trans (Nat.le_trans y2_7 E22.1) u27_0.1
 have n54 := oLn A2.lt y2_9 (oLe g28)
 have y2_6 := Nat.le_trans (Nat.le_trans (Nat.le_trans u4_0.1 E5.1) u8_0.1) u20_0.1
 have n55 := oLn A2.lt y2_6 (oLe g21)
 have m56 := (((((((m16.keep u20_0 (ninS (Ne.symm n10) nin0)).ext E21).ext E22).keep u27_0 (ninS n53 nin0)).ext E28).keep u34_0 (ninS n54 nin0)).keep u46_0 (ninS n55 nin0))
 have m57 := (((((((m17.keep u20_0 (ninS (Ne.symm n10) nin0)).ext E21).ext E22).keep u27_0 (ninS n53 nin0)).ext E28).keep u34_0 (ninS n54 nin0)).keep u46_0 (ninS n55 nin0))
 have n59 := oLsn A1.lt E2.1 u4_4
 have y3_7 := Nat.le_trans (Nat.le_trans (Nat.le_trans E5.1 u8_0.1) u20_0.1) E21.1
 have n60 := oLn u4_5.lt y3_7 (oLe g22)
 have y3_9 := Nat.le_trans (Nat.le_trans y3_7 E22.1) u27_0.1
 have n61 := oLn u4_5.lt y3_9 (oLe g28)
 have y3_6 := Nat.le_trans (Nat.le_trans E5.1 u8_0.1) u20_0.1
 have n62 := oLn u4_5.lt y3_6 (oLe g21)
 have m63 := (((((((m19.keep u20_0 (ninS n59 nin0)).ext E21).ext E22).keep u27_0 (ninS n60 nin0)).ext E28).keep u34_0 (ninS n61 nin0)).keep u46_0 (ninS n62 nin0))
 have o58 := oByC (oBy2 ca cb) m63
 have m64 := ((((((u20_3.ext E21).ext E22).keep u27_0 (ninS n48 nin0)).ext E28).keep u34_0 (ninS n49 nin0)).keep u46_0 (ninS n50 nin0))
 have m65 := (((((((u8_1.keep u20_0).ext E21).ext E22).keep u27_0).ext E28).keep u34_0).keep u46_0)
 have y4_7 := Nat.le_trans (Nat.le_trans u8_0.1 u20_0.1) E21.1
 have n66 := oLn A5.lt y4_7 (oLe g22)
 have y4_9 := Nat.le_trans (Nat.le_trans y4_7 E22.1) u27_0.1
 have n67 := oLn A5.lt y4_9 (oLe g28)
 have n68 := oLn A5.lt (Nat.le_trans u8_0.1 u20_0.1) (oLe g21)
 have m69 := (((((((u8_2.keep u20_0 (ninS (Ne.symm n11) nin0)).ext E21).ext E22).keep u27_0 (ninS n66 nin0)).ext E28).keep u34_0 (ninS n67 nin0)).keep u46_0 (ninS n68 nin0))
 have m70 := (((((((u8_3.keep u20_0 (ninS (Ne.symm n11) nin0)).ext E21).ext E22).keep u27_0 (ninS n66 nin0)).ext E28).keep u34_0 (ninS n67 nin0)).keep u46_0 (ninS n68 nin0))
 have y1_4 := Nat.le_trans (Nat.le_trans E2.1 u4_0.1) E5.1
 have n72 := oLsn A1.lt y1_4 u8_4
 have n73 := oLn u8_5.lt (Nat.le_trans u20_0.1 E21.1) (oLe g22)
 have y5_9 := Nat.le_trans (Nat.le_trans (Nat.le_trans u20_0.1 E21.1) E22.1) u27_0.1
 have n74 := oLn u8_5.lt y5_9 (oLe g28)
 have n75 := oLn u8_5.lt u20_0.1 (oLe g21)
 have m76 := (((((((u8_5.keep u20_0 (ninS n72 nin0)).ext E21).ext E22).keep u27_0 (ninS n73 nin0)).ext E28).keep u34_0 (ninS n74 nin0)).keep u46_0 (ninS n75 nin0))
 have o71 := oByC (oBy2 da db) m76
 have m77 := (m40.keep u46_0)
 have m78 := (m42.keep u46_0 (ninS (Ne.symm n36) nin0))
 have m79 := (m43.keep u46_0 (ninS (Ne.symm n36) nin0))
 have n81 := oLsn A21.lt E22.1 u27_4
 have m82 := (m45.keep u46_0 (ninS n81 nin0))
 have o80 := oByC (oBy2 ua ub) m82
 have m83 := (u34_1.keep u46_0)
 have m84 := (u34_2.keep u46_0 (ninS (Ne.symm n37) nin0))
 have m85 := (u34_3.keep u46_0 (ninS (Ne.symm n37) nin0))
 have y7_10 := Nat.le_trans (Nat.le_trans E22.1 u27_0.1) E28.1
 have n87 := oLsn A21.lt y7_10 u34_4
 have m88 := (u34_5.keep u46_0 (ninS n87 nin0))
 have o86 := oByC (oBy1 ya ya) m88
 have n89 := oLn q0.lt E1.1 (oLe g2)
 have n90 := oLn q0.lt y0_3 (oLe g5)
 have n91 := oLz q0.lt (oLe g1)
 have n92 := oLn q0.lt y0_7 (oLe g22)
 have y0_9 := Nat.le_trans (Nat.le_trans y0_7 E22.1) u27_0.1
 have n93 := oLn q0.lt y0_9 (oLe g28)
 have y0_6 := Nat.le_trans (Nat.le_trans (Nat.le_trans y0_3 E5.1) u8_0.1) u20_0.1
 have n94 := oLn q0.lt y0_6 (oLe g21)
 have m95 := ((((((((((m3.keep u4_0 (ninS n89 nin0)).ext E5).keep u8_0 (ninS n90 nin0)).keep u20_0 (ninS n91 nin0)).ext E21).ext E22).keep u27_0 (ninS n92 nin0)).ext E28).keep u34_0 (ninS n93 nin0)).keep u46_0 (ninS n94 nin0))
 have n96 := oLn q1.lt y0_3 (oLe g5)
 have n97 := oLz q1.lt (oLe g1)
 have n98 := oLn q1.lt y0_7 (oLe g22)
 have n99 := oLn q1.lt y0_9 (oLe g28)
 have n100 := oLn q1.lt y0_6 (oLe g21)
 have m101 := ((((((((m7.keep u8_0 (ninS n96 nin0)).keep u20_0 (ninS n97 nin0)).ext E21).ext E22).keep u27_0 (ninS n98 nin0)).ext E28).keep u34_0 (ninS n99 nin0)).keep u46_0 (ninS n100 nin0))
 have n102 := oLn q2.lt y0_7 (oLe g22)
 have n103 := oLn q2.lt y0_9 (oLe g28)
 have n104 := oLn q2.lt y0_6 (oLe g21)
 have m105 := ((((m26.keep u27_0 (ninS n102 nin0)).ext E28).keep u34_0 (ninS n103 nin0)).keep u46_0 (ninS n104 nin0))
 have n106 := oLn q3.lt y0_9 (oLe g28)
 have n107 := oLn q3.lt y0_6 (oLe g21)
 have m108 := ((m33.keep u34_0 (ninS n106 nin0)).keep u46_0 (ninS n107 nin0))
 refine o_iload K X46 at_312 rfl rfl ?_
 refine o_iconst K X46 at_314 rfl (z := 2) rfl ?_
 refine o_iushr K X46 at_315 rfl (z := ((i5.toUInt32 >>> ((2 : Int32) &&& 31).toUInt32).toInt32)) rfl ?_
 refine o_bipush K X46 at_316 rfl (z := 7) rfl ?_
 refine o_iand K X46 at_318 rfl (z := (((i5.toUInt32 >>> ((2 : Int32) &&& 31).toUInt32).toInt32) &&& (7 : Int32))) rfl ?_
 refine o_istore K X46 at_319 rfl (L' := #[vI i0, vI i1, vI i2, vI i3, vI i4, vI i5, vI 2, vI 2, vI cp, vI cq, vI 2, vI 1, vR ar1, vR ar2, vR ar3, vR ar4, vR b1, vR b21, vI (((i5.toUInt32 >>> ((2 : Int32) &&& 31).toUInt32).toInt32) &&& (7 : Int32)), uS, uS, uS]) rfl ?_
 refine o_iload K X46 at_321 rfl rfl ?_
 refine o_iconst K X46 at_323 rfl (z := 5) rfl ?_
 by_cases c324_109 : (((i5.toUInt32 >>> ((2 : Int32) &&& 31).toUInt32).toInt32) &&& (7 : Int32)) = (5 : Int32)
 refine o_icmp_ne_f K X46 at_324 rfl c324_109 ?_
 refine o_aload K X46 at_327 rfl rfl rfl ?_
 refine o_aconst_null K X46 at_329 rfl ?_
 refine o_virtual K X46   (w112 hw) (w113 hw) (oNF (w115 hw)) (w115 hw) (w114 hw) (w11 hw) (w116 hw) (by decide) m47 (rm_eqnull l Z a0 hw b1 h46) (by decide) rfl (argsL := [.null]) rfl (lenOf pd16 rfl) (W := 0) rfl (by decide) (by decide) (by decide) at_330 rfl ?_
 intro v110 T110 h110 X110 U110
 obtain ⟨rfl, rfl⟩ := U110
 show oGoes pp ee bb ss Z T110 (mkF mm 333 _ [.int 0]) _ _ _
 refine o_if_ne_f K X110 at_333 rfl (by decide) ?_
 refine o_iconst K X110 at_336 rfl (z := 1) rfl ?_
 refine o_goto K X110 at_337 (by decide) (pc' := 341) (by decide) ?_
 refine o_ireturnN K X110 .boolean at_341 rfl (by simp) (z' := 1) (by decide) ?_ (by decide) (by decide)
 exact hQ _ _ rfl
 refine o_icmp_ne_t K X46 at_324 (by decide) (pc' := 342) (by decide) c324_109 ?_
 refine o_iload K X46 at_342 rfl rfl ?_
 refine o_bipush K X46 at_344 rfl (z := 6) rfl ?_
 by_cases c346_111 : (((i5.toUInt32 >>> ((2 : Int32) &&& 31).toUInt32).toInt32) &&& (7 : Int32)) = (6 : Int32)
 refine o_icmp_ne_f K X46 at_346 rfl c346_111 ?_
 refine o_aload K X46 at_349 rfl rfl rfl ?_
 refine o_new K X46 (w12 hw) (w13 hw) (w14 hw) at_351 rfl (by decide) (by decide) ?_
 intro T112 h112 b112 X112 g112 E112 A112 D112 G112
 have F112_coder : Fld Z h112 b112 z0 "coder" "B" (.int 0) := (D112 (Or.inr (w38 hw)) (ty := .byte) (by decide))
 have F112_value : Fld Z h112 b112 z0 "value" "[B" .null := (D112 (Or.inr (w40 hw)) (ty := (.array .byte)) (by decide))
 refine o_dup K X112 at_354 rfl rfl ?_
 refine o_aload K X112 at_355 rfl rfl rfl ?_
 have m113 := (m95.ext E112)
 refine o_special K X112 (y := (⟨z0, "<init>", "([C)V"⟩ : MethodName)) rfl (w15 hw) (w16 hw) (w14 hw) (w17 hw) (by decide) (rm_str_2 l Z a0 hw b112 ar1 kar1 cs ca cb h112 A112 F112_value F112_coder G112 m113 q27 q28 q11.2 q12.2) (by decide) rfl (argsL := [.ref ar1]) rfl (lenOf pd17 rfl) (W := 2) rfl (by decide) (by decide) (by decide) at_357 rfl ?_
 intro v114 T114 h114 X114 U114
 obtain ⟨vb_114, k_114, rfl, u114_0, u114_1, u114_2, u114_3, u114_4, u114_5⟩ := U114
 have G114_vb : Z.heap.size ≤ vb_114 := Nat.le_trans X112.ext0.1 u114_4
 show oGoes pp ee bb ss Z T114 (mkF mm 360 _ [.ref b112, .ref b1]) _ _ _
 have m115 := ((m47.ext E112).keep u114_0)
 refine o_virtual K X114   (w112 hw) (w113 hw) (oNF (w115 hw)) (w115 hw) (w114 hw) (w11 hw) (w116 hw) (by decide) m115 (rm_eqstr l Z a0 hw b1 b112 h114 u114_1) (by decide) rfl (argsL := [.ref b112]) rfl (lenOf pd16 rfl) (W := 0) rfl (by decide) (by decide) (by decide) at_360 rfl ?_
 intro v116 T116 h116 X116 U116
 obtain ⟨rfl, rfl⟩ := U116
 show oGoes pp ee bb ss Z T116 (mkF mm 363 _ [.int 0]) _ _ _
 refine o_if_ne_f K X116 at_363 rfl (by decide) ?_
 refine o_iconst K X116 at_366 rfl (z := 1) rfl ?_
 refine o_goto K X116 at_367 (by decide) (pc' := 371) (by decide) ?_
 refine o_ireturnN K X116 .boolean at_371 rfl (by simp) (z' := 1) (by decide) ?_ (by decide) (by decide)
 exact hQ _ _ rfl
 refine o_icmp_ne_t K X46 at_346 (by decide) (pc' := 372) (by decide) c346_111 ?_
 refine o_iload K X46 at_372 rfl rfl ?_
 refine o_bipush K X46 at_374 rfl (z := 7) rfl ?_
 by_cases c376_117 : (((i5.toUInt32 >>> ((2 : Int32) &&& 31).toUInt32).toInt32) &&& (7 : Int32)) = (7 : Int32)
 refine o_icmp_ne_f K X46 at_376 rfl c376_117 ?_
 refine o_aload K X46 at_379 rfl rfl rfl ?_
 refine o_aload K X46 at_381 rfl rfl rfl ?_
 refine o_virtual K X46   (w112 hw) (w113 hw) (oNF (w115 hw)) (w115 hw) (w114 hw) (w11 hw) (w116 hw) (by decide) m47 (rm_eqself l Z a0 hw b1 b2 b5 h46 m47 m51 m64 m52 m65) (by decide) rfl (argsL := [.ref b1]) rfl (lenOf pd16 rfl) (W := 0) rfl (by decide) (by decide) (by decide) at_383 rfl ?_
 intro v118 T118 h118 X118 U118
 obtain ⟨rfl, rfl⟩ := U118
 show oGoes pp ee bb ss Z T118 (mkF mm 386 _ [.int 1]) _ _ _
 refine o_ireturnN K X118 .boolean at_386 rfl (by simp) (z' := 1) (by decide) ?_ (by decide) (by decide)
 exact hQ _ _ rfl
 refine o_icmp_ne_t K X46 at_376 (by decide) (pc' := 387) (by decide) c376_117 ?_
 refine o_iload K X46 at_387 rfl rfl ?_
 refine o_iload K X46 at_389 rfl rfl ?_
 refine o_icmp_ne_f K X46 at_391 rfl (by decide) ?_
 refine o_aload K X46 at_394 rfl rfl rfl ?_
 refine o_iconst K X46 at_396 rfl (z := 0) rfl ?_
 refine o_caload K X46 m95 (by decide) (v := (.int ca)) rfl at_397 rfl ?_
 refine o_aload K X46 at_398 rfl rfl rfl ?_
 refine o_iconst K X46 at_400 rfl (z := 0) rfl ?_
 refine o_caload K X46 m105 (by decide) (v := (.int ua)) rfl at_401 rfl ?_
 by_cases c402_119 : ca = ua
 refine o_icmp_ne_f K X46 at_402 rfl c402_119 ?_
 refine o_iload K X46 at_405 rfl rfl ?_
 refine o_iconst K X46 at_407 rfl (z := 1) rfl ?_
 refine o_icmp_eq_f K X46 at_408 rfl (by decide) ?_
 refine o_aload K X46 at_411 rfl rfl rfl ?_
 refine o_iconst K X46 at_413 rfl (z := 1) rfl ?_
 refine o_caload K X46 m95 (by decide) (v := (.int cb)) rfl at_414 rfl ?_
 refine o_aload K X46 at_415 rfl rfl rfl ?_
 refine o_iconst K X46 at_417 rfl (z := 1) rfl ?_
 refine o_caload K X46 m105 (by decide) (v := (.int ub)) rfl at_418 rfl ?_
 by_cases c419_120 : cb = ub
 refine o_icmp_ne_f K X46 at_419 rfl c419_120 ?_
 refine o_iconst K X46 at_422 rfl (z := 1) rfl ?_
 refine o_goto K X46 at_423 (by decide) (pc' := 427) (by decide) ?_
 refine o_istore K X46 at_427 rfl (L' := #[vI i0, vI i1, vI i2, vI i3, vI i4, vI i5, vI 2, vI 2, vI cp, vI cq, vI 2, vI 1, vR ar1, vR ar2, vR ar3, vR ar4, vR b1, vR b21, vI (((i5.toUInt32 >>> ((2 : Int32) &&& 31).toUInt32).toInt32) &&& (7 : Int32)), vI 1, uS, uS]) rfl ?_
 refine o_iload K X46 at_429 rfl rfl ?_
 refine o_iload K X46 at_431 rfl rfl ?_
 refine o_icmp_ne_t K X46 at_433 (by decide) (pc' := 468) (by decide) (by decide) ?_
 refine o_iconst K X46 at_468 rfl (z := 0) rfl ?_
 refine o_istore K X46 at_469 rfl (L' := #[vI i0, vI i1, vI i2, vI i3, vI i4, vI i5, vI 2, vI 2, vI cp, vI cq, vI 2, vI 1, vR ar1, vR ar2, vR ar3, vR ar4, vR b1, vR b21, vI (((i5.toUInt32 >>> ((2 : Int32) &&& 31).toUInt32).toInt32) &&& (7 : Int32)), vI 1, vI 0, uS]) rfl ?_
 refine tl_lw3 l Z a0 hw i0 i1 i2 i3 i4 i5 cp cq (((i5.toUInt32 >>> ((2 : Int32) &&& 31).toUInt32).toInt32) &&& (7 : Int32)) 1 0 ar1 ar2 ar3 ar4 b1 b21 b2 vb_4 k_4 b5 vb_8 k_8 b22 vb_27 k_27 b28 vb_34 k_34 2 2 2 1 ca cb da db ua ub ya ya cs h46 (by simp +decide [oSm, c402_119, c419_120]) (by simp +decide [oSm, c402_119, c419_120]) m47 m51 m64 u46_1 u46_2 u46_3 m52 m56 m57 o58 m65 m69 m70 o71 m77 m78 m79 o80 m83 m84 m85 o86 (by decide) (by decide) (by decide) (by decide) q11 q12 q13 q14 q15 q16 q17 q17 n53 n67 q27 q28 (fun v121 h121 U121 => ?_) K (X46.mono (by decide) (by decide))
 obtain rfl : v121 = some (.int 1) := U121
 exact hQ _ _ rfl
 refine o_icmp_ne_t K X46 at_419 (by decide) (pc' := 426) (by decide) c419_120 ?_
 refine o_iconst K X46 at_426 rfl (z := 0) rfl ?_
 refine o_istore K X46 at_427 rfl (L' := #[vI i0, vI i1, vI i2, vI i3, vI i4, vI i5, vI 2, vI 2, vI cp, vI cq, vI 2, vI 1, vR ar1, vR ar2, vR ar3, vR ar4, vR b1, vR b21, vI (((i5.toUInt32 >>> ((2 : Int32) &&& 31).toUInt32).toInt32) &&& (7 : Int32)), vI 0, uS, uS]) rfl ?_
 refine o_iload K X46 at_429 rfl rfl ?_
 refine o_iload K X46 at_431 rfl rfl ?_
 refine o_icmp_ne_t K X46 at_433 (by decide) (pc' := 468) (by decide) (by decide) ?_
 refine o_iconst K X46 at_468 rfl (z := 0) rfl ?_
 refine o_istore K X46 at_469 rfl (L' := #[vI i0, vI i1, vI i2, vI i3, vI i4, vI i5, vI 2, vI 2, vI cp, vI cq, vI 2, vI 1, vR ar1, vR ar2, vR ar3, vR ar4, vR b1, vR b21, vI (((i5.toUInt32 >>> ((2 : Int32) &&& 31).toUInt32).toInt32) &&& (7 : Int32)), vI 0, vI 0, uS]) rfl ?_
 refine tl_lw3 l Z a0 hw i0 i1 i2 i3 i4 i5 cp cq (((i5.toUInt32 >>> ((2 : Int32) &&& 31).toUInt32).toInt32) &&& (7 : Int32)) 0 0 ar1 ar2 ar3 ar4 b1 b21 b2 vb_4 k_4 b5 vb_8 k_8 b22 vb_27 k_27 b28 vb_34 k_34 2 2 2 1 ca cb da db ua ub ya ya cs h46 (by simp +decide [oSm, c402_119, c419_120]) (by simp +decide [oSm, c402_119, c419_120]) m47 m51 m64 u46_1 u46_2 u46_3 m52 m56 m57 o58 m65 m69 m70 o71 m77 m78 m79 o80 m83 m84 m85 o86 (by decide) (by decide) (by decide) (by decide) q11 q12 q13 q14 q15 q16 q17 q17 n53 n67 q27 q28 (fun v122 h122 U122 => ?_) K (X46.mono (by decide) (by decide))
 obtain rfl : v122 = some (.int 1) := U122
 exact hQ _ _ rfl
 refine o_icmp_ne_t K X46 at_402 (by decide) (pc' := 426) (by decide) c402_119 ?_
 refine o_iconst K X46 at_426 rfl (z := 0) rfl ?_
 refine o_istore K X46 at_427 rfl (L' := #[vI i0, vI i1, vI i2, vI i3, vI i4, vI i5, vI 2, vI 2, vI cp, vI cq, vI 2, vI 1, vR ar1, vR ar2, vR ar3, vR ar4, vR b1, vR b21, vI (((i5.toUInt32 >>> ((2 : Int32) &&& 31).toUInt32).toInt32) &&& (7 : Int32)), vI 0, uS, uS]) rfl ?_
 refine o_iload K X46 at_429 rfl rfl ?_
 refine o_iload K X46 at_431 rfl rfl ?_
 refine o_icmp_ne_t K X46 at_433 (by decide) (pc' := 468) (by decide) (by decide) ?_
 refine o_iconst K X46 at_468 rfl (z := 0) rfl ?_
 refine o_istore K X46 at_469 rfl (L' := #[vI i0, vI i1, vI i2, vI i3, vI i4, vI i5, vI 2, vI 2, vI cp, vI cq, vI 2, vI 1, vR ar1, vR ar2, vR ar3, vR ar4, vR b1, vR b21, vI (((i5.toUInt32 >>> ((2 : Int32) &&& 31).toUInt32).toInt32) &&& (7 : Int32)), vI 0, vI 0, uS]) rfl ?_
 refine tl_lw3 l Z a0 hw i0 i1 i2 i3 i4 i5 cp cq (((i5.toUInt32 >>> ((2 : Int32) &&& 31).toUInt32).toInt32) &&& (7 : Int32)) 0 0 ar1 ar2 ar3 ar4 b1 b21 b2 vb_4 k_4 b5 vb_8 k_8 b22 vb_27 k_27 b28 vb_34 k_34 2 2 2 1 ca cb da db ua ub ya ya cs h46 (by simp +decide [oSm, c402_119]) (by simp +decide [oSm, c402_119]) m47 m51 m64 u46_1 u46_2 u46_3 m52 m56 m57 o58 m65 m69 m70 o71 m77 m78 m79 o80 m83 m84 m85 o86 (by decide) (by decide) (by decide) (by decide) q11 q12 q13 q14 q15 q16 q17 q17 n53 n67 q27 q28 (fun v123 h123 U123 => ?_) K (X46.mono (by decide) (by decide))
 obtain rfl : v123 = some (.int 1) := U123
 exact hQ _ _ rfl
def Q_t258_2222 (Z : State) (i0 i1 i2 i3 i4 i5 cp cq : Int32) (ar1 : Addr) (kar1 : ClassId) (ar2 : Addr) (kar2 : ClassId) (ar3 : Addr) (kar3 : ClassId) (ar4 : Addr) (kar4 : ClassId) (ca cb da db ua ub ya yb : Int32) (fm : Value) (cs : Int32) (h0 : Heap) (v : Option Value) (h : Heap) : Prop := v = some (.int 1)
theorem tl_t258_2222 (l : Launch) (Z : State) (a0 : Array Value) (hw : oHw Z a0) (i0 i1 i2 i3 i4 i5 cp cq : Int32) (ar1 : Addr) (kar1 : ClassId) (ar2 : Addr) (kar2 : ClassId) (ar3 : Addr) (kar3 : ClassId) (ar4 : Addr) (kar4 : ClassId) (ca cb da db ua ub ya yb : Int32) (fm : Value) (cs : Int32) (h0 : Heap) (q0 : oArr Z h0 ar1 kar1 .char [.int ca, .int cb]) (q1 : oArr Z h0 ar2 kar2 .char [.int da, .int db]) (q2 : oArr Z h0 ar3 kar3 .char [.int ua, .int ub]) (q3 : oArr Z h0 ar4 kar4 .char [.int ya, .int yb]) (q4 : oSh ca) (q5 : oSh cb) (q6 : oId da) (q7 : oId db) (q8 : oSh ua) (q9 : oSh ub) (q10 : oId ya) (q11 : oId yb) (q12 : oCh ca) (q13 : oCh cb) (q14 : oCh da) (q15 : oCh db) (q16 : oCh ua) (q17 : oCh ub) (q18 : oCh ya) (q19 : oCh yb) (q20 : nar .char ca = ca) (q21 : nar .char cb = cb) (q22 : nar .char da = da) (q23 : nar .char db = db) (q24 : nar .char ua = ua) (q25 : nar .char ub = ub) (q26 : nar .char ya = ya) (q27 : nar .char yb = yb) (q28 : Sta Z Z.heap z3 z5 z6 fm) (q29 : fm.isRef = true) (q30 : Sta Z Z.heap z0 z4 "Z" (.int cs)) (q31 : ¬ (cs = (0 : Int32))) {Q : Option Value → Heap → Prop} (hQ : ∀ v h, Q_t258_2222 Z i0 i1 i2 i3 i4 i5 cp cq ar1 kar1 ar2 kar2 ar3 kar3 ar4 kar4 ca cb da db ua ub ya yb fm cs h0 v h → Q v h) {pp : Program} {ee : Env} {ss : State} {mm : MethodId} {bb : List Frame} {mtd : Method} {cc : Code} {A : Array Value} {T0 : State} (K : oCtx pp ss mm mtd cc Z z7 code maxLocals "law" ret x) (X0 : oSt pp l ee room_1 ss mm A bb mtd cc Z T0 h0 4 8) : oGoes pp ee bb ss Z T0 (mkF mm 258 #[vI i0, vI i1, vI i2, vI i3, vI i4, vI i5, vI 2, vI 2, vI cp, vI cq, vI 2, vI 2, vR ar1, vR ar2, vR ar3, vR ar4, uS, uS, uS, uS, uS, uS] []) Q room_1.cells room_1.slots := by
 have E0 := X0.ext0
 refine o_new K X0 (w9 hw) (w10 hw) (w11 hw) at_258 rfl (by decide) (by decide) ?_
 intro T1 h1 b1 X1 g1 E1 A1 D1 G1
 have F1_shelf : Fld Z h1 b1 z1 "shelf" z2 .null := (D1 (Or.inr (w109 hw)) (ty := (.object z0)) (by decide))
 have F1_id : Fld Z h1 b1 z1 "id" z2 .null := (D1 (Or.inr (w111 hw)) (ty := (.object z0)) (by decide))
 refine o_dup K X1 at_261 rfl rfl ?_
 refine o_new K X1 (w12 hw) (w13 hw) (w14 hw) at_262 rfl (by decide) (by decide) ?_
 intro T2 h2 b2 X2 g2 E2 A2 D2 G2
 have F2_coder : Fld Z h2 b2 z0 "coder" "B" (.int 0) := (D2 (Or.inr (w38 hw)) (ty := .byte) (by decide))
 have F2_value : Fld Z h2 b2 z0 "value" "[B" .null := (D2 (Or.inr (w40 hw)) (ty := (.array .byte)) (by decide))
 refine o_dup K X2 at_265 rfl rfl ?_
 refine o_aload K X2 at_266 rfl rfl rfl ?_
 have m3 := ((q0.ext E1).ext E2)
 refine o_special K X2 (y := (⟨z0, "<init>", "([C)V"⟩ : MethodName)) rfl (w15 hw) (w16 hw) (w14 hw) (w17 hw) (by decide) (rm_str_2 l Z a0 hw b2 ar1 kar1 cs ca cb h2 A2 F2_value F2_coder G2 m3 q30 q31 q12.2 q13.2) (by decide) rfl (argsL := [.ref ar1]) rfl (lenOf pd17 rfl) (W := 3) rfl (by decide) (by decide) (by decide) at_268 rfl ?_
 intro v4 T4 h4 X4 U4
 obtain ⟨vb_4, k_4, rfl, u4_0, u4_1, u4_2, u4_3, u4_4, u4_5⟩ := U4
 have G4_vb : Z.heap.size ≤ vb_4 := Nat.le_trans X2.ext0.1 u4_4
 show oGoes pp ee bb ss Z T4 (mkF mm 271 _ [.ref b2, .ref b1, .ref b1]) _ _ _
 refine o_new K X4 (w12 hw) (w13 hw) (w14 hw) at_271 rfl (by decide) (by decide) ?_
 intro T5 h5 b5 X5 g5 E5 A5 D5 G5
 have F5_coder : Fld Z h5 b5 z0 "coder" "B" (.int 0) := (D5 (Or.inr (w38 hw)) (ty := .byte) (by decide))
 have F5_value : Fld Z h5 b5 z0 "value" "[B" .null := (D5 (Or.inr (w40 hw)) (ty := (.array .byte)) (by decide))
 refine o_dup K X5 at_274 rfl rfl ?_
 refine o_aload K X5 at_275 rfl rfl rfl ?_
 have n6 := oLn q1.lt E1.1 (oLe g2)
 have m7 := ((((q1.ext E1).ext E2).keep u4_0 (ninS n6 nin0)).ext E5)
 refine o_special K X5 (y := (⟨z0, "<init>", "([C)V"⟩ : MethodName)) rfl (w15 hw) (w16 hw) (w14 hw) (w17 hw) (by decide) (rm_str_2 l Z a0 hw b5 ar2 kar2 cs da db h5 A5 F5_value F5_coder G5 m7 q30 q31 q14.2 q15.2) (by decide) rfl (argsL := [.ref ar2]) rfl (lenOf pd17 rfl) (W := 4) rfl (by decide) (by decide) (by decide) at_277 rfl ?_
 intro v8 T8 h8 X8 U8
 obtain ⟨vb_8, k_8, rfl, u8_0, u8_1, u8_2, u8_3, u8_4, u8_5⟩ := U8
 have G8_vb : Z.heap.size ≤ vb_8 := Nat.le_trans X5.ext0.1 u8_4
 show oGoes pp ee bb ss Z T8 (mkF mm 280 _ [.ref b5, .ref b2, .ref b1, .ref b1]) _ _ _
 have m9 := ((((A1.ext E2).keep u4_0).ext E5).keep u8_0)
 have n10 := oLz A1.lt (oLe g2)
 have n11 := oLn A1.lt (Nat.le_trans E2.1 u4_0.1) (oLe g5)
 have m12 := ((((F1_shelf.ext E2).keep u4_0 (ninS n10 nin0)).ext E5).keep u8_0 (ninS n11 nin0))
 have m13 := ((((F1_id.ext E2).keep u4_0 (ninS n10 nin0)).ext E5).keep u8_0 (ninS n11 nin0))
 have m14 := ((u4_1.ext E5).keep u8_0)
 have n15 := oLn A2.lt u4_0.1 (oLe g5)
 have m16 := ((u4_2.ext E5).keep u8_0 (ninS n15 nin0))
 have m17 := ((u4_3.ext E5).keep u8_0 (ninS n15 nin0))
 have n18 := oLz u4_5.lt (oLe g5)
 have m19 := ((u4_5.ext E5).keep u8_0 (ninS n18 nin0))
 refine o_special K X8 (y := (⟨z1, "<init>", z8⟩ : MethodName)) rfl (w41 hw) (w42 hw) (w11 hw) (w43 hw) (by decide) (rm_rk22 l Z a0 hw b1 b2 vb_4 k_4 b5 vb_8 k_8 ca cb da db fm cs h8 m9 G1 m12 m13 m14 m16 m17 m19 u8_1 u8_2 u8_3 u8_5 q4 q5 q6 q7 q12 q13 q14 q15 q28 q29 q30 q31) (by decide) rfl (argsL := [.ref b2, .ref b5]) rfl (lenOf pd18 rfl) (W := 1) rfl (by decide) (by decide) (by decide) at_280 rfl ?_
 intro v20 T20 h20 X20 U20
 obtain ⟨rfl, u20_0, u20_1, u20_2, u20_3⟩ := U20
 show oGoes pp ee bb ss Z T20 (mkF mm 283 _ [.ref b1]) _ _ _
 refine o_astore K X20 at_283 rfl rfl (L' := #[vI i0, vI i1, vI i2, vI i3, vI i4, vI i5, vI 2, vI 2, vI cp, vI cq, vI 2, vI 2, vR ar1, vR ar2, vR ar3, vR ar4, vR b1, uS, uS, uS, uS, uS]) rfl ?_
 refine o_new K X20 (w9 hw) (w10 hw) (w11 hw) at_285 rfl (by decide) (by decide) ?_
 intro T21 h21 b21 X21 g21 E21 A21 D21 G21
 have F21_shelf : Fld Z h21 b21 z1 "shelf" z2 .null := (D21 (Or.inr (w109 hw)) (ty := (.object z0)) (by decide))
 have F21_id : Fld Z h21 b21 z1 "id" z2 .null := (D21 (Or.inr (w111 hw)) (ty := (.object z0)) (by decide))
 refine o_dup K X21 at_288 rfl rfl ?_
 refine o_new K X21 (w12 hw) (w13 hw) (w14 hw) at_289 rfl (by decide) (by decide) ?_
 intro T22 h22 b22 X22 g22 E22 A22 D22 G22
 have F22_coder : Fld Z h22 b22 z0 "coder" "B" (.int 0) := (D22 (Or.inr (w38 hw)) (ty := .byte) (by decide))
 have F22_value : Fld Z h22 b22 z0 "value" "[B" .null := (D22 (Or.inr (w40 hw)) (ty := (.array .byte)) (by decide))
 refine o_dup K X22 at_292 rfl rfl ?_
 refine o_aload K X22 at_293 rfl rfl rfl ?_
 have n23 := oLn q2.lt E1.1 (oLe g2)
 have y0_3 := Nat.le_trans (Nat.le_trans E1.1 E2.1) u4_0.1
 have n24 := oLn q2.lt y0_3 (oLe g5)
 have n25 := oLz q2.lt (oLe g1)
 have m26 := ((((((((q2.ext E1).ext E2).keep u4_0 (ninS n23 nin0)).ext E5).keep u8_0 (ninS n24 nin0)).keep u20_0 (ninS n25 nin0)).ext E21).ext E22)
 refine o_special K X22 (y := (⟨z0, "<init>", "([C)V"⟩ : MethodName)) rfl (w15 hw) (w16 hw) (w14 hw) (w17 hw) (by decide) (rm_str_2 l Z a0 hw b22 ar3 kar3 cs ua ub h22 A22 F22_value F22_coder G22 m26 q30 q31 q16.2 q17.2) (by decide) rfl (argsL := [.ref ar3]) rfl (lenOf pd17 rfl) (W := 3) rfl (by decide) (by decide) (by decide) at_295 rfl ?_
 intro v27 T27 h27 X27 U27
 obtain ⟨vb_27, k_27, rfl, u27_0, u27_1, u27_2, u27_3, u27_4, u27_5⟩ := U27
 have G27_vb : Z.heap.size ≤ vb_27 := Nat.le_trans X22.ext0.1 u27_4
 show oGoes pp ee bb ss Z T27 (mkF mm 298 _ [.ref b22, .ref b21, .ref b21]) _ _ _
 refine o_new K X27 (w12 hw) (w13 hw) (w14 hw) at_298 rfl (by decide) (by decide) ?_
 intro T28 h28 b28 X28 g28 E28 A28 D28 G28
 have F28_coder : Fld Z h28 b28 z0 "coder" "B" (.int 0) := (D28 (Or.inr (w38 hw)) (ty := .byte) (by decide))
 have F28_value : Fld Z h28 b28 z0 "value" "[B" .null := (D28 (Or.inr (w40 hw)) (ty := (.array .byte)) (by decide))
 refine o_dup K X28 at_301 rfl rfl ?_
 refine o_aload K X28 at_302 rfl rfl rfl ?_
 have n29 := oLn q3.lt E1.1 (oLe g2)
 have n30 := oLn q3.lt y0_3 (oLe g5)
 have n31 := oLz q3.lt (oLe g1)
 have y0_7 := Nat.le_trans (Nat.le_trans (Nat.le_trans (Nat.le_trans y0_3 E5.1) u8_0.1) u20_0.1) E21.1
 have n32 := oLn q3.lt y0_7 (oLe g22)
 have m33 := ((((((((((q3.ext E1).ext E2).keep u4_0 (ninS n29 nin0)).ext E5).keep u8_0 (ninS n30 nin0)).keep u20_0 (ninS n31 nin0)).ext E21).ext E22).keep u27_0 (ninS n32 nin0)).ext E28)
 refine o_special K X28 (y := (⟨z0, "<init>", "([C)V"⟩ : MethodName)) rfl (w15 hw) (w16 hw) (w14 hw) (w17 hw) (by decide) (rm_str_2 l Z a0 hw b28 ar4 kar4 cs ya yb h28 A28 F28_value F28_coder G28 m33 q30 q31 q18.2 q19.2) (by decide) rfl (argsL := [.ref ar4]) rfl (lenOf pd17 rfl) (W := 4) rfl (by decide) (by decide) (by decide) at_304 rfl ?_
 intro v34 T34 h34 X34 U34
 obtain ⟨vb_34, k_34, rfl, u34_0, u34_1, u34_2, u34_3, u34_4, u34_5⟩ := U34
 have G34_vb : Z.heap.size ≤ vb_34 := Nat.le_trans X28.ext0.1 u34_4
 show oGoes pp ee bb ss Z T34 (mkF mm 307 _ [.ref b28, .ref b22, .ref b21, .ref b21]) _ _ _
 have m35 := ((((A21.ext E22).keep u27_0).ext E28).keep u34_0)
 have n36 := oLz A21.lt (oLe g22)
 have n37 := oLn A21.lt (Nat.le_trans E22.1 u27_0.1) (oLe g28)
 have m38 := ((((F21_shelf.ext E22).keep u27_0 (ninS n36 nin0)).ext E28).keep u34_0 (ninS n37 nin0))
 have m39 := ((((F21_id.ext E22).keep u27_0 (ninS n36 nin0)).ext E28).keep u34_0 (ninS n37 nin0))
 have m40 := ((u27_1.ext E28).keep u34_0)
 have n41 := oLn A22.lt u27_0.1 (oLe g28)
 have m42 := ((u27_2.ext E28).keep u34_0 (ninS n41 nin0))
 have m43 := ((u27_3.ext E28).keep u34_0 (ninS n41 nin0))
 have n44 := oLz u27_5.lt (oLe g28)
 have m45 := ((u27_5.ext E28).keep u34_0 (ninS n44 nin0))
 refine o_special K X34 (y := (⟨z1, "<init>", z8⟩ : MethodName)) rfl (w41 hw) (w42 hw) (w11 hw) (w43 hw) (by decide) (rm_rk22 l Z a0 hw b21 b22 vb_27 k_27 b28 vb_34 k_34 ua ub ya yb fm cs h34 m35 G21 m38 m39 m40 m42 m43 m45 u34_1 u34_2 u34_3 u34_5 q8 q9 q10 q11 q16 q17 q18 q19 q28 q29 q30 q31) (by decide) rfl (argsL := [.ref b22, .ref b28]) rfl (lenOf pd18 rfl) (W := 1) rfl (by decide) (by decide) (by decide) at_307 rfl ?_
 intro v46 T46 h46 X46 U46
 obtain ⟨rfl, u46_0, u46_1, u46_2, u46_3⟩ := U46
 show oGoes pp ee bb ss Z T46 (mkF mm 310 _ [.ref b21]) _ _ _
 refine o_astore K X46 at_310 rfl rfl (L' := #[vI i0, vI i1, vI i2, vI i3, vI i4, vI i5, vI 2, vI 2, vI cp, vI cq, vI 2, vI 2, vR ar1, vR ar2, vR ar3, vR ar4, vR b1, vR b21, uS, uS, uS, uS]) rfl ?_
 have m47 := ((((((u20_1.ext E21).ext E22).keep u27_0).ext E28).keep u34_0).keep u46_0)
 have y1_7 := Nat.le_trans (Nat.le_trans (Nat.le_trans (Nat.le_trans (Nat.le_trans E2.1 u4_0.1) E5.1) u8_0.1) u20_0.1) E21.1
 have n48 := oLn A1.lt y1_7 (oLe g22)
 have y1_9 := Nat.le_trans (Nat.le_trans y1_7 E22.1) u27_0.1
 have n49 := oLn A1.lt y1_9 (oLe g28)
 have y1_6 := Nat.le_trans (Nat.le_trans (Nat.le_trans (Nat.le_trans E2.1 u4_0.1) E5.1) u8_0.1) u20_0.1
 have n50 := oLn A1.lt y1_6 (oLe g21)
 have m51 := ((((((u20_2.ext E21).ext E22).keep u27_0 (ninS n48 nin0)).ext E28).keep u34_0 (ninS n49 nin0)).keep u46_0 (ninS n50 nin0))
 have m52 := (((((((m14.keep u20_0).ext E21).ext E22).keep u27_0).ext E28).keep u34_0).keep u46_0)
 have y2_7 := Nat.le_trans (Nat.le_trans (Nat.le_trans (Nat.le_trans u4_0.1 E5.1) u8_0.1) u20_0.1) E21.1
 have n53 := oLn A2.lt y2_7 (oLe g22)
 have y2_9 := Nat.le_trans (Nat.le_trans y2_7 E22.1) u27_0.1
 have n54 := oLn A2.lt y2_9 (oLe g28)
 have y2_6 := Nat.le_trans (Nat.le_trans (Nat.le_trans u4_0.1 E5.1) u8_0.1) u20_0.1
 have n55 := oLn A2.lt y2_6 (oLe g21)
 have m56 := (((((((m16.keep u20_0 (ninS (Ne.symm n10) nin0)).ext E21).ext E22).keep u27_0 (ninS n53 nin0)).ext E28).keep u34_0 (ninS n54 nin0)).keep u46_0 (ninS n55 nin0))
 have m57 := (((((((m17.keep u20_0 (ninS (Ne.symm n10) nin0)).ext E21).ext E22).keep u27_0 (ninS n53 nin0)).ext E28).keep u34_0 (ninS n54 nin0)).keep u46_0 (ninS n55 nin0))
 have n59 := oLsn A1.lt E2.1 u4_4
 have y3_7 := Nat.le_trans (Nat.le_trans (Nat.le_trans E5.1 u8_0.1) u20_0.1) E21.1
 have n60 := oLn u4_5.lt y3_7 (oLe g22)
 have y3_9 := Nat.le_trans (Nat.le_trans y3_7 E22.1) u27_0.1
 have n61 := oLn u4_5.lt y3_9 (oLe g28)
 have y3_6 := Nat.le_trans (Nat.le_trans E5.1 u8_0.1) u20_0.1
 have n62 := oLn u4_5.lt y3_6 (oLe g21)
 have m63 := (((((((m19.keep u20_0 (ninS n59 nin0)).ext E21).ext E22).keep u27_0 (ninS n60 nin0)).ext E28).keep u34_0 (ninS n61 nin0)).keep u46_0 (ninS n62 nin0))
 have o58 := oByC (oBy2 ca cb) m63
 have m64 := ((((((u20_3.ext E21).ext E22).keep u27_0 (ninS n48 nin0)).ext E28).keep u34_0 (ninS n49 nin0)).keep u46_0 (ninS n50 nin0))
 have m65 := (((((((u8_1.keep u20_0).ext E21).ext E22).keep u27_0).ext E28).keep u34_0).keep u46_0)
 have y4_7 := Nat.le_trans (Nat.le_trans u8_0.1 u20_0.1) E21.1
 have n66 := oLn A5.lt y4_7 (oLe g22)
 have y4_9 := Nat.le_trans (Nat.le_trans y4_7 E22.1) u27_0.1
 have n67 := oLn A5.lt y4_9 (oLe g28)
 have n68 := oLn A5.lt (Nat.le_trans u8_0.1 u20_0.1) (oLe g21)
 have m69 := (((((((u8_2.keep u20_0 (ninS (Ne.symm n11) nin0)).ext E21).ext E22).keep u27_0 (ninS n66 nin0)).ext E28).keep u34_0 (ninS n67 nin0)).keep u46_0 (ninS n68 nin0))
 have m70 := (((((((u8_3.keep u20_0 (ninS (Ne.symm n11) nin0)).ext E21).ext E22).keep u27_0 (ninS n66 nin0)).ext E28).keep u34_0 (ninS n67 nin0)).keep u46_0 (ninS n68 nin0))
 have y1_4 := Nat.le_trans (Nat.le_trans E2.1 u4_0.1) E5.1
 have n72 := oLsn A1.lt y1_4 u8_4
 have n73 := oLn u8_5.lt (Nat.le_trans u20_0.1 E21.1) (oLe g22)
 have y5_9 := Nat.le_trans (Nat.le_trans (Nat.le_trans u20_0.1 E21.1) E22.1) u27_0.1
 have n74 := oLn u8_5.lt y5_9 (oLe g28)
 have n75 := oLn u8_5.lt u20_0.1 (oLe g21)
 have m76 := (((((((u8_5.keep u20_0 (ninS n72 nin0)).ext E21).ext E22).keep u27_0 (ninS n73 nin0)).ext E28).keep u34_0 (ninS n74 nin0)).keep u46_0 (ninS n75 nin0))
 have o71 := oByC (oBy2 da db) m76
 have m77 := (m40.keep u46_0)
 have m78 := (m42.keep u46_0 (ninS (Ne.symm n36) nin0))
 have m79 := (m43.keep u46_0 (ninS (Ne.symm n36) nin0))
 have n81 := oLsn A21.lt E22.1 u27_4
 have m82 := (m45.keep u46_0 (ninS n81 nin0))
 have o80 := oByC (oBy2 ua ub) m82
 have m83 := (u34_1.keep u46_0)
 have m84 := (u34_2.keep u46_0 (ninS (Ne.symm n37) nin0))
 have m85 := (u34_3.keep u46_0 (ninS (Ne.symm n37) nin0))
 have y7_10 := Nat.le_trans (Nat.le_trans E22.1 u27_0.1) E28.1
 have n87 := oLsn A21.lt y7_10 u34_4
 have m88 := (u34_5.keep u46_0 (ninS n87 nin0))
 have o86 := oByC (oBy2 ya yb) m88
 have n89 := oLn q0.lt E1.1 (oLe g2)
 have n90 := oLn q0.lt y0_3 (oLe g5)
 have n91 := oLz q0.lt (oLe g1)
 have n92 := oLn q0.lt y0_7 (oLe g22)
 have y0_9 := Nat.le_trans (Nat.le_trans y0_7 E22.1) u27_0.1
 have n93 := oLn q0.lt y0_9 (oLe g28)
 have y0_6 := Nat.le_trans (Nat.le_trans (Nat.le_trans y0_3 E5.1) u8_0.1) u20_0.1
 have n94 := oLn q0.lt y0_6 (oLe g21)
 have m95 := ((((((((((m3.keep u4_0 (ninS n89 nin0)).ext E5).keep u8_0 (ninS n90 nin0)).keep u20_0 (ninS n91 nin0)).ext E21).ext E22).keep u27_0 (ninS n92 nin0)).ext E28).keep u34_0 (ninS n93 nin0)).keep u46_0 (ninS n94 nin0))
 have n96 := oLn q1.lt y0_3 (oLe g5)
 have n97 := oLz q1.lt (oLe g1)
 have n98 := oLn q1.lt y0_7 (oLe g22)
 have n99 := oLn q1.lt y0_9 (oLe g28)
 have n100 := oLn q1.lt y0_6 (oLe g21)
 have m101 := ((((((((m7.keep u8_0 (ninS n96 nin0)).keep u20_0 (ninS n97 nin0)).ext E21).ext E22).keep u27_0 (ninS n98 nin0)).ext E28).keep u34_0 (ninS n99 nin0)).keep u46_0 (ninS n100 nin0))
 have n102 := oLn q2.lt y0_7 (oLe g22)
 have n103 := oLn q2.lt y0_9 (oLe g28)
 have n104 := oLn q2.lt y0_6 (oLe g21)
 have m105 := ((((m26.keep u27_0 (ninS n102 nin0)).ext E28).keep u34_0 (ninS n103 nin0)).keep u46_0 (ninS n104 nin0))
 have n106 := oLn q3.lt y0_9 (oLe g28)
 have n107 := oLn q3.lt y0_6 (oLe g21)
 have m108 := ((m33.keep u34_0 (ninS n106 nin0)).keep u46_0 (ninS n107 nin0))
 refine o_iload K X46 at_312 rfl rfl ?_
 refine o_iconst K X46 at_314 rfl (z := 2) rfl ?_
 refine o_iushr K X46 at_315 rfl (z := ((i5.toUInt32 >>> ((2 : Int32) &&& 31).toUInt32).toInt32)) rfl ?_
 refine o_bipush K X46 at_316 rfl (z := 7) rfl ?_
 refine o_iand K X46 at_318 rfl (z := (((i5.toUInt32 >>> ((2 : Int32) &&& 31).toUInt32).toInt32) &&& (7 : Int32))) rfl ?_
 refine o_istore K X46 at_319 rfl (L' := #[vI i0, vI i1, vI i2, vI i3, vI i4, vI i5, vI 2, vI 2, vI cp, vI cq, vI 2, vI 2, vR ar1, vR ar2, vR ar3, vR ar4, vR b1, vR b21, vI (((i5.toUInt32 >>> ((2 : Int32) &&& 31).toUInt32).toInt32) &&& (7 : Int32)), uS, uS, uS]) rfl ?_
 refine o_iload K X46 at_321 rfl rfl ?_
 refine o_iconst K X46 at_323 rfl (z := 5) rfl ?_
 by_cases c324_109 : (((i5.toUInt32 >>> ((2 : Int32) &&& 31).toUInt32).toInt32) &&& (7 : Int32)) = (5 : Int32)
 refine o_icmp_ne_f K X46 at_324 rfl c324_109 ?_
 refine o_aload K X46 at_327 rfl rfl rfl ?_
 refine o_aconst_null K X46 at_329 rfl ?_
 refine o_virtual K X46   (w112 hw) (w113 hw) (oNF (w115 hw)) (w115 hw) (w114 hw) (w11 hw) (w116 hw) (by decide) m47 (rm_eqnull l Z a0 hw b1 h46) (by decide) rfl (argsL := [.null]) rfl (lenOf pd16 rfl) (W := 0) rfl (by decide) (by decide) (by decide) at_330 rfl ?_
 intro v110 T110 h110 X110 U110
 obtain ⟨rfl, rfl⟩ := U110
 show oGoes pp ee bb ss Z T110 (mkF mm 333 _ [.int 0]) _ _ _
 refine o_if_ne_f K X110 at_333 rfl (by decide) ?_
 refine o_iconst K X110 at_336 rfl (z := 1) rfl ?_
 refine o_goto K X110 at_337 (by decide) (pc' := 341) (by decide) ?_
 refine o_ireturnN K X110 .boolean at_341 rfl (by simp) (z' := 1) (by decide) ?_ (by decide) (by decide)
 exact hQ _ _ rfl
 refine o_icmp_ne_t K X46 at_324 (by decide) (pc' := 342) (by decide) c324_109 ?_
 refine o_iload K X46 at_342 rfl rfl ?_
 refine o_bipush K X46 at_344 rfl (z := 6) rfl ?_
 by_cases c346_111 : (((i5.toUInt32 >>> ((2 : Int32) &&& 31).toUInt32).toInt32) &&& (7 : Int32)) = (6 : Int32)
 refine o_icmp_ne_f K X46 at_346 rfl c346_111 ?_
 refine o_aload K X46 at_349 rfl rfl rfl ?_
 refine o_new K X46 (w12 hw) (w13 hw) (w14 hw) at_351 rfl (by decide) (by decide) ?_
 intro T112 h112 b112 X112 g112 E112 A112 D112 G112
 have F112_coder : Fld Z h112 b112 z0 "coder" "B" (.int 0) := (D112 (Or.inr (w38 hw)) (ty := .byte) (by decide))
 have F112_value : Fld Z h112 b112 z0 "value" "[B" .null := (D112 (Or.inr (w40 hw)) (ty := (.array .byte)) (by decide))
 refine o_dup K X112 at_354 rfl rfl ?_
 refine o_aload K X112 at_355 rfl rfl rfl ?_
 have m113 := (m95.ext E112)
 refine o_special K X112 (y := (⟨z0, "<init>", "([C)V"⟩ : MethodName)) rfl (w15 hw) (w16 hw) (w14 hw) (w17 hw) (by decide) (rm_str_2 l Z a0 hw b112 ar1 kar1 cs ca cb h112 A112 F112_value F112_coder G112 m113 q30 q31 q12.2 q13.2) (by decide) rfl (argsL := [.ref ar1]) rfl (lenOf pd17 rfl) (W := 2) rfl (by decide) (by decide) (by decide) at_357 rfl ?_
 intro v114 T114 h114 X114 U114
 obtain ⟨vb_114, k_114, rfl, u114_0, u114_1, u114_2, u114_3, u114_4, u114_5⟩ := U114
 have G114_vb : Z.heap.size ≤ vb_114 := Nat.le_trans X112.ext0.1 u114_4
 show oGoes pp ee bb ss Z T114 (mkF mm 360 _ [.ref b112, .ref b1]) _ _ _
 have m115 := ((m47.ext E112).keep u114_0)
 refine o_virtual K X114   (w112 hw) (w113 hw) (oNF (w115 hw)) (w115 hw) (w114 hw) (w11 hw) (w116 hw) (by decide) m115 (rm_eqstr l Z a0 hw b1 b112 h114 u114_1) (by decide) rfl (argsL := [.ref b112]) rfl (lenOf pd16 rfl) (W := 0) rfl (by decide) (by decide) (by decide) at_360 rfl ?_
 intro v116 T116 h116 X116 U116
 obtain ⟨rfl, rfl⟩ := U116
 show oGoes pp ee bb ss Z T116 (mkF mm 363 _ [.int 0]) _ _ _
 refine o_if_ne_f K X116 at_363 rfl (by decide) ?_
 refine o_iconst K X116 at_366 rfl (z := 1) rfl ?_
 refine o_goto K X116 at_367 (by decide) (pc' := 371) (by decide) ?_
 refine o_ireturnN K X116 .boolean at_371 rfl (by simp) (z' := 1) (by decide) ?_ (by decide) (by decide)
 exact hQ _ _ rfl
 refine o_icmp_ne_t K X46 at_346 (by decide) (pc' := 372) (by decide) c346_111 ?_
 refine o_iload K X46 at_372 rfl rfl ?_
 refine o_bipush K X46 at_374 rfl (z := 7) rfl ?_
 by_cases c376_117 : (((i5.toUInt32 >>> ((2 : Int32) &&& 31).toUInt32).toInt32) &&& (7 : Int32)) = (7 : Int32)
 refine o_icmp_ne_f K X46 at_376 rfl c376_117 ?_
 refine o_aload K X46 at_379 rfl rfl rfl ?_
 refine o_aload K X46 at_381 rfl rfl rfl ?_
 refine o_virtual K X46   (w112 hw) (w113 hw) (oNF (w115 hw)) (w115 hw) (w114 hw) (w11 hw) (w116 hw) (by decide) m47 (rm_eqself l Z a0 hw b1 b2 b5 h46 m47 m51 m64 m52 m65) (by decide) rfl (argsL := [.ref b1]) rfl (lenOf pd16 rfl) (W := 0) rfl (by decide) (by decide) (by decide) at_383 rfl ?_
 intro v118 T118 h118 X118 U118
 obtain ⟨rfl, rfl⟩ := U118
 show oGoes pp ee bb ss Z T118 (mkF mm 386 _ [.int 1]) _ _ _
 refine o_ireturnN K X118 .boolean at_386 rfl (by simp) (z' := 1) (by decide) ?_ (by decide) (by decide)
 exact hQ _ _ rfl
 refine o_icmp_ne_t K X46 at_376 (by decide) (pc' := 387) (by decide) c376_117 ?_
 refine o_iload K X46 at_387 rfl rfl ?_
 refine o_iload K X46 at_389 rfl rfl ?_
 refine o_icmp_ne_f K X46 at_391 rfl (by decide) ?_
 refine o_aload K X46 at_394 rfl rfl rfl ?_
 refine o_iconst K X46 at_396 rfl (z := 0) rfl ?_
 refine o_caload K X46 m95 (by decide) (v := (.int ca)) rfl at_397 rfl ?_
 refine o_aload K X46 at_398 rfl rfl rfl ?_
 refine o_iconst K X46 at_400 rfl (z := 0) rfl ?_
 refine o_caload K X46 m105 (by decide) (v := (.int ua)) rfl at_401 rfl ?_
 by_cases c402_119 : ca = ua
 refine o_icmp_ne_f K X46 at_402 rfl c402_119 ?_
 refine o_iload K X46 at_405 rfl rfl ?_
 refine o_iconst K X46 at_407 rfl (z := 1) rfl ?_
 refine o_icmp_eq_f K X46 at_408 rfl (by decide) ?_
 refine o_aload K X46 at_411 rfl rfl rfl ?_
 refine o_iconst K X46 at_413 rfl (z := 1) rfl ?_
 refine o_caload K X46 m95 (by decide) (v := (.int cb)) rfl at_414 rfl ?_
 refine o_aload K X46 at_415 rfl rfl rfl ?_
 refine o_iconst K X46 at_417 rfl (z := 1) rfl ?_
 refine o_caload K X46 m105 (by decide) (v := (.int ub)) rfl at_418 rfl ?_
 by_cases c419_120 : cb = ub
 refine o_icmp_ne_f K X46 at_419 rfl c419_120 ?_
 refine o_iconst K X46 at_422 rfl (z := 1) rfl ?_
 refine o_goto K X46 at_423 (by decide) (pc' := 427) (by decide) ?_
 refine o_istore K X46 at_427 rfl (L' := #[vI i0, vI i1, vI i2, vI i3, vI i4, vI i5, vI 2, vI 2, vI cp, vI cq, vI 2, vI 2, vR ar1, vR ar2, vR ar3, vR ar4, vR b1, vR b21, vI (((i5.toUInt32 >>> ((2 : Int32) &&& 31).toUInt32).toInt32) &&& (7 : Int32)), vI 1, uS, uS]) rfl ?_
 refine o_iload K X46 at_429 rfl rfl ?_
 refine o_iload K X46 at_431 rfl rfl ?_
 refine o_icmp_ne_f K X46 at_433 rfl (by decide) ?_
 refine o_aload K X46 at_436 rfl rfl rfl ?_
 refine o_iconst K X46 at_438 rfl (z := 0) rfl ?_
 refine o_caload K X46 m101 (by decide) (v := (.int da)) rfl at_439 rfl ?_
 refine o_aload K X46 at_440 rfl rfl rfl ?_
 refine o_iconst K X46 at_442 rfl (z := 0) rfl ?_
 refine o_caload K X46 m108 (by decide) (v := (.int ya)) rfl at_443 rfl ?_
 by_cases c444_121 : da = ya
 refine o_icmp_ne_f K X46 at_444 rfl c444_121 ?_
 refine o_iload K X46 at_447 rfl rfl ?_
 refine o_iconst K X46 at_449 rfl (z := 1) rfl ?_
 refine o_icmp_eq_f K X46 at_450 rfl (by decide) ?_
 refine o_aload K X46 at_453 rfl rfl rfl ?_
 refine o_iconst K X46 at_455 rfl (z := 1) rfl ?_
 refine o_caload K X46 m101 (by decide) (v := (.int db)) rfl at_456 rfl ?_
 refine o_aload K X46 at_457 rfl rfl rfl ?_
 refine o_iconst K X46 at_459 rfl (z := 1) rfl ?_
 refine o_caload K X46 m108 (by decide) (v := (.int yb)) rfl at_460 rfl ?_
 by_cases c461_122 : db = yb
 refine o_icmp_ne_f K X46 at_461 rfl c461_122 ?_
 refine o_iconst K X46 at_464 rfl (z := 1) rfl ?_
 refine o_goto K X46 at_465 (by decide) (pc' := 469) (by decide) ?_
 refine o_istore K X46 at_469 rfl (L' := #[vI i0, vI i1, vI i2, vI i3, vI i4, vI i5, vI 2, vI 2, vI cp, vI cq, vI 2, vI 2, vR ar1, vR ar2, vR ar3, vR ar4, vR b1, vR b21, vI (((i5.toUInt32 >>> ((2 : Int32) &&& 31).toUInt32).toInt32) &&& (7 : Int32)), vI 1, vI 1, uS]) rfl ?_
 refine tl_lw3 l Z a0 hw i0 i1 i2 i3 i4 i5 cp cq (((i5.toUInt32 >>> ((2 : Int32) &&& 31).toUInt32).toInt32) &&& (7 : Int32)) 1 1 ar1 ar2 ar3 ar4 b1 b21 b2 vb_4 k_4 b5 vb_8 k_8 b22 vb_27 k_27 b28 vb_34 k_34 2 2 2 2 ca cb da db ua ub ya yb cs h46 (by simp +decide [oSm, c402_119, c419_120, c444_121, c461_122]) (by simp +decide [oSm, c402_119, c419_120, c444_121, c461_122]) m47 m51 m64 u46_1 u46_2 u46_3 m52 m56 m57 o58 m65 m69 m70 o71 m77 m78 m79 o80 m83 m84 m85 o86 (by decide) (by decide) (by decide) (by decide) q12 q13 q14 q15 q16 q17 q18 q19 n53 n67 q30 q31 (fun v123 h123 U123 => ?_) K (X46.mono (by decide) (by decide))
 obtain rfl : v123 = some (.int 1) := U123
 exact hQ _ _ rfl
 refine o_icmp_ne_t K X46 at_461 (by decide) (pc' := 468) (by decide) c461_122 ?_
 refine o_iconst K X46 at_468 rfl (z := 0) rfl ?_
 refine o_istore K X46 at_469 rfl (L' := #[vI i0, vI i1, vI i2, vI i3, vI i4, vI i5, vI 2, vI 2, vI cp, vI cq, vI 2, vI 2, vR ar1, vR ar2, vR ar3, vR ar4, vR b1, vR b21, vI (((i5.toUInt32 >>> ((2 : Int32) &&& 31).toUInt32).toInt32) &&& (7 : Int32)), vI 1, vI 0, uS]) rfl ?_
 refine tl_lw3 l Z a0 hw i0 i1 i2 i3 i4 i5 cp cq (((i5.toUInt32 >>> ((2 : Int32) &&& 31).toUInt32).toInt32) &&& (7 : Int32)) 1 0 ar1 ar2 ar3 ar4 b1 b21 b2 vb_4 k_4 b5 vb_8 k_8 b22 vb_27 k_27 b28 vb_34 k_34 2 2 2 2 ca cb da db ua ub ya yb cs h46 (by simp +decide [oSm, c402_119, c419_120, c444_121, c461_122]) (by simp +decide [oSm, c402_119, c419_120, c444_121, c461_122]) m47 m51 m64 u46_1 u46_2 u46_3 m52 m56 m57 o58 m65 m69 m70 o71 m77 m78 m79 o80 m83 m84 m85 o86 (by decide) (by decide) (by decide) (by decide) q12 q13 q14 q15 q16 q17 q18 q19 n53 n67 q30 q31 (fun v124 h124 U124 => ?_) K (X46.mono (by decide) (by decide))
 obtain rfl : v124 = some (.int 1) := U124
 exact hQ _ _ rfl
 refine o_icmp_ne_t K X46 at_444 (by decide) (pc' := 468) (by decide) c444_121 ?_
 refine o_iconst K X46 at_468 rfl (z := 0) rfl ?_
 refine o_istore K X46 at_469 rfl (L' := #[vI i0, vI i1, vI i2, vI i3, vI i4, vI i5, vI 2, vI 2, vI cp, vI cq, vI 2, vI 2, vR ar1, vR ar2, vR ar3, vR ar4, vR b1, vR b21, vI (((i5.toUInt32 >>> ((2 : Int32) &&& 31).toUInt32).toInt32) &&& (7 : Int32)), vI 1, vI 0, uS]) rfl ?_
 refine tl_lw3 l Z a0 hw i0 i1 i2 i3 i4 i5 cp cq (((i5.toUInt32 >>> ((2 : Int32) &&& 31).toUInt32).toInt32) &&& (7 : Int32)) 1 0 ar1 ar2 ar3 ar4 b1 b21 b2 vb_4 k_4 b5 vb_8 k_8 b22 vb_27 k_27 b28 vb_34 k_34 2 2 2 2 ca cb da db ua ub ya yb cs h46 (by simp +decide [oSm, c402_119, c419_120, c444_121]) (by simp +decide [oSm, c402_119, c419_120, c444_121]) m47 m51 m64 u46_1 u46_2 u46_3 m52 m56 m57 o58 m65 m69 m70 o71 m77 m78 m79 o80 m83 m84 m85 o86 (by decide) (by decide) (by decide) (by decide) q12 q13 q14 q15 q16 q17 q18 q19 n53 n67 q30 q31 (fun v125 h125 U125 => ?_) K (X46.mono (by decide) (by decide))
 obtain rfl : v125 = some (.int 1) := U125
 exact hQ _ _ rfl
 refine o_icmp_ne_t K X46 at_419 (by decide) (pc' := 426) (by decide) c419_120 ?_
 refine o_iconst K X46 at_426 rfl (z := 0) rfl ?_
 refine o_istore K X46 at_427 rfl (L' := #[vI i0, vI i1, vI i2, vI i3, vI i4, vI i5, vI 2, vI 2, vI cp, vI cq, vI 2, vI 2, vR ar1, vR ar2, vR ar3, vR ar4, vR b1, vR b21, vI (((i5.toUInt32 >>> ((2 : Int32) &&& 31).toUInt32).toInt32) &&& (7 : Int32)), vI 0, uS, uS]) rfl ?_
 refine o_iload K X46 at_429 rfl rfl ?_
 refine o_iload K X46 at_431 rfl rfl ?_
 refine o_icmp_ne_f K X46 at_433 rfl (by decide) ?_
 refine o_aload K X46 at_436 rfl rfl rfl ?_
 refine o_iconst K X46 at_438 rfl (z := 0) rfl ?_
 refine o_caload K X46 m101 (by decide) (v := (.int da)) rfl at_439 rfl ?_
 refine o_aload K X46 at_440 rfl rfl rfl ?_
 refine o_iconst K X46 at_442 rfl (z := 0) rfl ?_
 refine o_caload K X46 m108 (by decide) (v := (.int ya)) rfl at_443 rfl ?_
 by_cases c444_126 : da = ya
 refine o_icmp_ne_f K X46 at_444 rfl c444_126 ?_
 refine o_iload K X46 at_447 rfl rfl ?_
 refine o_iconst K X46 at_449 rfl (z := 1) rfl ?_
 refine o_icmp_eq_f K X46 at_450 rfl (by decide) ?_
 refine o_aload K X46 at_453 rfl rfl rfl ?_
 refine o_iconst K X46 at_455 rfl (z := 1) rfl ?_
 refine o_caload K X46 m101 (by decide) (v := (.int db)) rfl at_456 rfl ?_
 refine o_aload K X46 at_457 rfl rfl rfl ?_
 refine o_iconst K X46 at_459 rfl (z := 1) rfl ?_
 refine o_caload K X46 m108 (by decide) (v := (.int yb)) rfl at_460 rfl ?_
 by_cases c461_127 : db = yb
 refine o_icmp_ne_f K X46 at_461 rfl c461_127 ?_
 refine o_iconst K X46 at_464 rfl (z := 1) rfl ?_
 refine o_goto K X46 at_465 (by decide) (pc' := 469) (by decide) ?_
 refine o_istore K X46 at_469 rfl (L' := #[vI i0, vI i1, vI i2, vI i3, vI i4, vI i5, vI 2, vI 2, vI cp, vI cq, vI 2, vI 2, vR ar1, vR ar2, vR ar3, vR ar4, vR b1, vR b21, vI (((i5.toUInt32 >>> ((2 : Int32) &&& 31).toUInt32).toInt32) &&& (7 : Int32)), vI 0, vI 1, uS]) rfl ?_
 refine tl_lw3 l Z a0 hw i0 i1 i2 i3 i4 i5 cp cq (((i5.toUInt32 >>> ((2 : Int32) &&& 31).toUInt32).toInt32) &&& (7 : Int32)) 0 1 ar1 ar2 ar3 ar4 b1 b21 b2 vb_4 k_4 b5 vb_8 k_8 b22 vb_27 k_27 b28 vb_34 k_34 2 2 2 2 ca cb da db ua ub ya yb cs h46 (by simp +decide [oSm, c402_119, c419_120, c444_126, c461_127]) (by simp +decide [oSm, c402_119, c419_120, c444_126, c461_127]) m47 m51 m64 u46_1 u46_2 u46_3 m52 m56 m57 o58 m65 m69 m70 o71 m77 m78 m79 o80 m83 m84 m85 o86 (by decide) (by decide) (by decide) (by decide) q12 q13 q14 q15 q16 q17 q18 q19 n53 n67 q30 q31 (fun v128 h128 U128 => ?_) K (X46.mono (by decide) (by decide))
 obtain rfl : v128 = some (.int 1) := U128
 exact hQ _ _ rfl
 refine o_icmp_ne_t K X46 at_461 (by decide) (pc' := 468) (by decide) c461_127 ?_
 refine o_iconst K X46 at_468 rfl (z := 0) rfl ?_
 refine o_istore K X46 at_469 rfl (L' := #[vI i0, vI i1, vI i2, vI i3, vI i4, vI i5, vI 2, vI 2, vI cp, vI cq, vI 2, vI 2, vR ar1, vR ar2, vR ar3, vR ar4, vR b1, vR b21, vI (((i5.toUInt32 >>> ((2 : Int32) &&& 31).toUInt32).toInt32) &&& (7 : Int32)), vI 0, vI 0, uS]) rfl ?_
 refine tl_lw3 l Z a0 hw i0 i1 i2 i3 i4 i5 cp cq (((i5.toUInt32 >>> ((2 : Int32) &&& 31).toUInt32).toInt32) &&& (7 : Int32)) 0 0 ar1 ar2 ar3 ar4 b1 b21 b2 vb_4 k_4 b5 vb_8 k_8 b22 vb_27 k_27 b28 vb_34 k_34 2 2 2 2 ca cb da db ua ub ya yb cs h46 (by simp +decide [oSm, c402_119, c419_120, c444_126, c461_127]) (by simp +decide [oSm, c402_119, c419_120, c444_126, c461_127]) m47 m51 m64 u46_1 u46_2 u46_3 m52 m56 m57 o58 m65 m69 m70 o71 m77 m78 m79 o80 m83 m84 m85 o86 (by decide) (by decide) (by decide) (by decide) q12 q13 q14 q15 q16 q17 q18 q19 n53 n67 q30 q31 (fun v129 h129 U129 => ?_) K (X46.mono (by decide) (by decide))
 obtain rfl : v129 = some (.int 1) := U129
 exact hQ _ _ rfl
 refine o_icmp_ne_t K X46 at_444 (by decide) (pc' := 468) (by decide) c444_126 ?_
 refine o_iconst K X46 at_468 rfl (z := 0) rfl ?_
 refine o_istore K X46 at_469 rfl (L' := #[vI i0, vI i1, vI i2, vI i3, vI i4, vI i5, vI 2, vI 2, vI cp, vI cq, vI 2, vI 2, vR ar1, vR ar2, vR ar3, vR ar4, vR b1, vR b21, vI (((i5.toUInt32 >>> ((2 : Int32) &&& 31).toUInt32).toInt32) &&& (7 : Int32)), vI 0, vI 0, uS]) rfl ?_
 refine tl_lw3 l Z a0 hw i0 i1 i2 i3 i4 i5 cp cq (((i5.toUInt32 >>> ((2 : Int32) &&& 31).toUInt32).toInt32) &&& (7 : Int32)) 0 0 ar1 ar2 ar3 ar4 b1 b21 b2 vb_4 k_4 b5 vb_8 k_8 b22 vb_27 k_27 b28 vb_34 k_34 2 2 2 2 ca cb da db ua ub ya yb cs h46 (by simp +decide [oSm, c402_119, c419_120, c444_126]) (by simp +decide [oSm, c402_119, c419_120, c444_126]) m47 m51 m64 u46_1 u46_2 u46_3 m52 m56 m57 o58 m65 m69 m70 o71 m77 m78 m79 o80 m83 m84 m85 o86 (by decide) (by decide) (by decide) (by decide) q12 q13 q14 q15 q16 q17 q18 q19 n53 n67 q30 q31 (fun v130 h130 U130 => ?_) K (X46.mono (by decide) (by decide))
 obtain rfl : v130 = some (.int 1) := U130
 exact hQ _ _ rfl
 refine o_icmp_ne_t K X46 at_402 (by decide) (pc' := 426) (by decide) c402_119 ?_
 refine o_iconst K X46 at_426 rfl (z := 0) rfl ?_
 refine o_istore K X46 at_427 rfl (L' := #[vI i0, vI i1, vI i2, vI i3, vI i4, vI i5, vI 2, vI 2, vI cp, vI cq, vI 2, vI 2, vR ar1, vR ar2, vR ar3, vR ar4, vR b1, vR b21, vI (((i5.toUInt32 >>> ((2 : Int32) &&& 31).toUInt32).toInt32) &&& (7 : Int32)), vI 0, uS, uS]) rfl ?_
 refine o_iload K X46 at_429 rfl rfl ?_
 refine o_iload K X46 at_431 rfl rfl ?_
 refine o_icmp_ne_f K X46 at_433 rfl (by decide) ?_
 refine o_aload K X46 at_436 rfl rfl rfl ?_
 refine o_iconst K X46 at_438 rfl (z := 0) rfl ?_
 refine o_caload K X46 m101 (by decide) (v := (.int da)) rfl at_439 rfl ?_
 refine o_aload K X46 at_440 rfl rfl rfl ?_
 refine o_iconst K X46 at_442 rfl (z := 0) rfl ?_
 refine o_caload K X46 m108 (by decide) (v := (.int ya)) rfl at_443 rfl ?_
 by_cases c444_131 : da = ya
 refine o_icmp_ne_f K X46 at_444 rfl c444_131 ?_
 refine o_iload K X46 at_447 rfl rfl ?_
 refine o_iconst K X46 at_449 rfl (z := 1) rfl ?_
 refine o_icmp_eq_f K X46 at_450 rfl (by decide) ?_
 refine o_aload K X46 at_453 rfl rfl rfl ?_
 refine o_iconst K X46 at_455 rfl (z := 1) rfl ?_
 refine o_caload K X46 m101 (by decide) (v := (.int db)) rfl at_456 rfl ?_
 refine o_aload K X46 at_457 rfl rfl rfl ?_
 refine o_iconst K X46 at_459 rfl (z := 1) rfl ?_
 refine o_caload K X46 m108 (by decide) (v := (.int yb)) rfl at_460 rfl ?_
 by_cases c461_132 : db = yb
 refine o_icmp_ne_f K X46 at_461 rfl c461_132 ?_
 refine o_iconst K X46 at_464 rfl (z := 1) rfl ?_
 refine o_goto K X46 at_465 (by decide) (pc' := 469) (by decide) ?_
 refine o_istore K X46 at_469 rfl (L' := #[vI i0, vI i1, vI i2, vI i3, vI i4, vI i5, vI 2, vI 2, vI cp, vI cq, vI 2, vI 2, vR ar1, vR ar2, vR ar3, vR ar4, vR b1, vR b21, vI (((i5.toUInt32 >>> ((2 : Int32) &&& 31).toUInt32).toInt32) &&& (7 : Int32)), vI 0, vI 1, uS]) rfl ?_
 refine tl_lw3 l Z a0 hw i0 i1 i2 i3 i4 i5 cp cq (((i5.toUInt32 >>> ((2 : Int32) &&& 31).toUInt32).toInt32) &&& (7 : Int32)) 0 1 ar1 ar2 ar3 ar4 b1 b21 b2 vb_4 k_4 b5 vb_8 k_8 b22 vb_27 k_27 b28 vb_34 k_34 2 2 2 2 ca cb da db ua ub ya yb cs h46 (by simp +decide [oSm, c402_119, c444_131, c461_132]) (by simp +decide [oSm, c402_119, c444_131, c461_132]) m47 m51 m64 u46_1 u46_2 u46_3 m52 m56 m57 o58 m65 m69 m70 o71 m77 m78 m79 o80 m83 m84 m85 o86 (by decide) (by decide) (by decide) (by decide) q12 q13 q14 q15 q16 q17 q18 q19 n53 n67 q30 q31 (fun v133 h133 U133 => ?_) K (X46.mono (by decide) (by decide))
 obtain rfl : v133 = some (.int 1) := U133
 exact hQ _ _ rfl
 refine o_icmp_ne_t K X46 at_461 (by decide) (pc' := 468) (by decide) c461_132 ?_
 refine o_iconst K X46 at_468 rfl (z := 0) rfl ?_
 refine o_istore K X46 at_469 rfl (L' := #[vI i0, vI i1, vI i2, vI i3, vI i4, vI i5, vI 2, vI 2, vI cp, vI cq, vI 2, vI 2, vR ar1, vR ar2, vR ar3, vR ar4, vR b1, vR b21, vI (((i5.toUInt32 >>> ((2 : Int32) &&& 31).toUInt32).toInt32) &&& (7 : Int32)), vI 0, vI 0, uS]) rfl ?_
 refine tl_lw3 l Z a0 hw i0 i1 i2 i3 i4 i5 cp cq (((i5.toUInt32 >>> ((2 : Int32) &&& 31).toUInt32).toInt32) &&& (7 : Int32)) 0 0 ar1 ar2 ar3 ar4 b1 b21 b2 vb_4 k_4 b5 vb_8 k_8 b22 vb_27 k_27 b28 vb_34 k_34 2 2 2 2 ca cb da db ua ub ya yb cs h46 (by simp +decide [oSm, c402_119, c444_131, c461_132]) (by simp +decide [oSm, c402_119, c444_131, c461_132]) m47 m51 m64 u46_1 u46_2 u46_3 m52 m56 m57 o58 m65 m69 m70 o71 m77 m78 m79 o80 m83 m84 m85 o86 (by decide) (by decide) (by decide) (by decide) q12 q13 q14 q15 q16 q17 q18 q19 n53 n67 q30 q31 (fun v134 h134 U134 => ?_) K (X46.mono (by decide) (by decide))
 obtain rfl : v134 = some (.int 1) := U134
 exact hQ _ _ rfl
 refine o_icmp_ne_t K X46 at_444 (by decide) (pc' := 468) (by decide) c444_131 ?_
 refine o_iconst K X46 at_468 rfl (z := 0) rfl ?_
 refine o_istore K X46 at_469 rfl (L' := #[vI i0, vI i1, vI i2, vI i3, vI i4, vI i5, vI 2, vI 2, vI cp, vI cq, vI 2, vI 2, vR ar1, vR ar2, vR ar3, vR ar4, vR b1, vR b21, vI (((i5.toUInt32 >>> ((2 : Int32) &&& 31).toUInt32).toInt32) &&& (7 : Int32)), vI 0, vI 0, uS]) rfl ?_
 refine tl_lw3 l Z a0 hw i0 i1 i2 i3 i4 i5 cp cq (((i5.toUInt32 >>> ((2 : Int32) &&& 31).toUInt32).toInt32) &&& (7 : Int32)) 0 0 ar1 ar2 ar3 ar4 b1 b21 b2 vb_4 k_4 b5 vb_8 k_8 b22 vb_27 k_27 b28 vb_34 k_34 2 2 2 2 ca cb da db ua ub ya yb cs h46 (by simp +decide [oSm, c402_119, c444_131]) (by simp +decide [oSm, c402_119, c444_131]) m47 m51 m64 u46_1 u46_2 u46_3 m52 m56 m57 o58 m65 m69 m70 o71 m77 m78 m79 o80 m83 m84 m85 o86 (by decide) (by decide) (by decide) (by decide) q12 q13 q14 q15 q16 q17 q18 q19 n53 n67 q30 q31 (fun v135 h135 U135 => ?_) K (X46.mono (by decide) (by decide))
 obtain rfl : v135 = some (.int 1) := U135
 exact hQ _ _ rfl
def Q_t203_111 (Z : State) (i0 i1 i2 i3 i4 i5 cp cq gd : Int32) (ar1 : Addr) (kar1 : ClassId) (ar2 : Addr) (kar2 : ClassId) (ar3 : Addr) (kar3 : ClassId) (ca da ua : Int32) (fm : Value) (cs : Int32) (h0 : Heap) (v : Option Value) (h : Heap) : Prop := v = some (.int 1)
theorem tl_t203_111 (l : Launch) (Z : State) (a0 : Array Value) (hw : oHw Z a0) (i0 i1 i2 i3 i4 i5 cp cq gd : Int32) (ar1 : Addr) (kar1 : ClassId) (ar2 : Addr) (kar2 : ClassId) (ar3 : Addr) (kar3 : ClassId) (ca da ua : Int32) (fm : Value) (cs : Int32) (h0 : Heap) (q0 : (cq = (1 : Int32) ∧ gd = (1 : Int32)) ∨ (cq = (0 : Int32) ∧ gd = (1 : Int32)) ∨ (cq = (0 : Int32) ∧ gd = (2 : Int32))) (q1 : oArr Z h0 ar1 kar1 .char [.int ca]) (q2 : oArr Z h0 ar2 kar2 .char [.int da]) (q3 : oArr Z h0 ar3 kar3 .char [.int ua]) (q4 : Z.heap.size ≤ ar2) (q5 : oSh ca) (q6 : oId da) (q7 : oSh ua) (q8 : oCh ca) (q9 : oCh da) (q10 : oCh ua) (q11 : nar .char ca = ca) (q12 : nar .char da = da) (q13 : nar .char ua = ua) (q14 : Sta Z Z.heap z3 z5 z6 fm) (q15 : fm.isRef = true) (q16 : Sta Z Z.heap z0 z4 "Z" (.int cs)) (q17 : ¬ (cs = (0 : Int32))) {Q : Option Value → Heap → Prop} (hQ : ∀ v h, Q_t203_111 Z i0 i1 i2 i3 i4 i5 cp cq gd ar1 kar1 ar2 kar2 ar3 kar3 ca da ua fm cs h0 v h → Q v h) {pp : Program} {ee : Env} {ss : State} {mm : MethodId} {bb : List Frame} {mtd : Method} {cc : Code} {A : Array Value} {T0 : State} (K : oCtx pp ss mm mtd cc Z z7 code maxLocals "law" ret x) (X0 : oSt pp l ee room_1 ss mm A bb mtd cc Z T0 h0 3 6) : oGoes pp ee bb ss Z T0 (mkF mm 203 #[vI i0, vI i1, vI i2, vI i3, vI i4, vI i5, vI 1, vI 1, vI cp, vI cq, vI 1, vI gd, vR ar1, vR ar2, vR ar3, uS, uS, uS, uS, uS, uS, uS] []) Q room_1.cells room_1.slots := by
 have E0 := X0.ext0
 rcases q0 with ⟨rfl, rfl⟩ | ⟨rfl, rfl⟩ | ⟨rfl, rfl⟩
 refine o_iload K X0 at_203 rfl rfl ?_
 refine o_newarray K X0 (aty := .char) 1 (w0 hw) (ad := "[C") (by decide +kernel) (by decide) (by decide) (by decide) rfl at_205 rfl (by decide) (by decide) ?_
 intro T1 h1 b1 k1 X1 g1 E1 A1 B1 G1
 replace A1 : oArr Z h1 b1 k1 .char [.int 0] := A1
 refine o_astore K X1 at_207 rfl rfl (L' := #[vI i0, vI i1, vI i2, vI i3, vI i4, vI i5, vI 1, vI 1, vI cp, vI 1, vI 1, vI 1, vR ar1, vR ar2, vR ar3, vR b1, uS, uS, uS, uS, uS, uS]) rfl ?_
 refine o_aload K X1 at_209 rfl rfl rfl ?_
 refine o_iconst K X1 at_211 rfl (z := 0) rfl ?_
 refine o_iload K X1 at_212 rfl rfl ?_
 refine o_if_eq_f K X1 at_214 rfl (by decide) ?_
 refine o_aload K X1 at_217 rfl rfl rfl ?_
 refine o_iconst K X1 at_219 rfl (z := 0) rfl ?_
 have m2 := (q2.ext E1)
 refine o_caload K X1 m2 (by decide) (v := (.int da)) rfl at_220 rfl ?_
 refine o_goto K X1 at_221 (by decide) (pc' := 228) (by decide) ?_
 refine o_castore K X1 A1 (by decide) (show (0 : Int32).toNatClampNeg < 1 from (by decide)) G1 (z := (.int da)) (congrArg Value.int q12) at_228 rfl ?_
 intro T3 h3 X3 W3 A3
 replace A3 : oArr Z h3 b1 k1 .char [.int da] := A3
 refine o_iload K X3 at_229 rfl rfl ?_
 refine o_iconst K X3 at_231 rfl (z := 2) rfl ?_
 refine o_icmp_ne_t K X3 at_232 (by decide) (pc' := 258) (by decide) (by decide) ?_
 have n5 := oLz q1.lt (oLe g1)
 have m6 := ((q1.ext E1).other W3 n5)
 have n7 := oLz q2.lt (oLe g1)
 have m8 := (m2.other W3 n7)
 have n9 := oLz q3.lt (oLe g1)
 have m10 := ((q3.ext E1).other W3 n9)
 refine tl_t258_1111 l Z a0 hw i0 i1 i2 i3 i4 i5 cp 1 ar1 kar1 ar2 kar2 ar3 kar3 b1 k1 ca da ua da fm cs h3 m6 m8 m10 A3 q5 q6 q7 q6 q8 q9 q10 q9 q11 q12 q13 q12 q14 q15 q16 q17 (fun v4 h4 U4 => ?_) K (X3.mono (by decide) (by decide))
 obtain rfl : v4 = some (.int 1) := U4
 exact hQ _ _ rfl
 refine o_iload K X0 at_203 rfl rfl ?_
 refine o_newarray K X0 (aty := .char) 1 (w0 hw) (ad := "[C") (by decide +kernel) (by decide) (by decide) (by decide) rfl at_205 rfl (by decide) (by decide) ?_
 intro T11 h11 b11 k11 X11 g11 E11 A11 B11 G11
 replace A11 : oArr Z h11 b11 k11 .char [.int 0] := A11
 refine o_astore K X11 at_207 rfl rfl (L' := #[vI i0, vI i1, vI i2, vI i3, vI i4, vI i5, vI 1, vI 1, vI cp, vI 0, vI 1, vI 1, vR ar1, vR ar2, vR ar3, vR b11, uS, uS, uS, uS, uS, uS]) rfl ?_
 refine o_aload K X11 at_209 rfl rfl rfl ?_
 refine o_iconst K X11 at_211 rfl (z := 0) rfl ?_
 refine o_iload K X11 at_212 rfl rfl ?_
 refine o_if_eq_t K X11 at_214 (by decide) (pc' := 224) (by decide) (by decide) ?_
 refine o_iloadN K X11 at_224 rfl rfl ?_
 refine o_static K X11  (w6 hw) (w7 hw) (w3 hw) (w8 hw) (by decide) (rm_idChar l Z a0 hw i3 h11) (by decide) rfl (argsL := [.int i3]) rfl (lenOf pd11 rfl) (W := 2) rfl (by decide) (by decide) (by decide) at_225 rfl ?_
 intro v12 T12 h12 X12 U12
 obtain ⟨r_12, rfl, rfl, u12_1, u12_2, u12_3⟩ := U12
 show oGoes pp ee bb ss Z T12 (mkF mm 228 _ [.int r_12, .int 0, .ref b11]) _ _ _
 refine o_castore K X12 A11 (by decide) (show (0 : Int32).toNatClampNeg < 1 from (by decide)) G11 (z := (.int r_12)) (congrArg Value.int u12_3) at_228 rfl ?_
 intro T13 h13 X13 W13 A13
 replace A13 : oArr Z h13 b11 k11 .char [.int r_12] := A13
 refine o_iload K X13 at_229 rfl rfl ?_
 refine o_iconst K X13 at_231 rfl (z := 2) rfl ?_
 refine o_icmp_ne_t K X13 at_232 (by decide) (pc' := 258) (by decide) (by decide) ?_
 have n15 := oLz q1.lt (oLe g11)
 have m16 := ((q1.ext E11).other W13 n15)
 have n17 := oLz q2.lt (oLe g11)
 have m18 := ((q2.ext E11).other W13 n17)
 have n19 := oLz q3.lt (oLe g11)
 have m20 := ((q3.ext E11).other W13 n19)
 refine tl_t258_1111 l Z a0 hw i0 i1 i2 i3 i4 i5 cp 0 ar1 kar1 ar2 kar2 ar3 kar3 b11 k11 ca da ua r_12 fm cs h13 m16 m18 m20 A13 q5 q6 q7 u12_1 q8 q9 q10 u12_2 q11 q12 q13 u12_3 q14 q15 q16 q17 (fun v14 h14 U14 => ?_) K (X13.mono (by decide) (by decide))
 obtain rfl : v14 = some (.int 1) := U14
 exact hQ _ _ rfl
 refine o_iload K X0 at_203 rfl rfl ?_
 refine o_newarray K X0 (aty := .char) 2 (w0 hw) (ad := "[C") (by decide +kernel) (by decide) (by decide) (by decide) rfl at_205 rfl (by decide) (by decide) ?_
 intro T21 h21 b21 k21 X21 g21 E21 A21 B21 G21
 replace A21 : oArr Z h21 b21 k21 .char [.int 0, .int 0] := A21
 refine o_astore K X21 at_207 rfl rfl (L' := #[vI i0, vI i1, vI i2, vI i3, vI i4, vI i5, vI 1, vI 1, vI cp, vI 0, vI 1, vI 2, vR ar1, vR ar2, vR ar3, vR b21, uS, uS, uS, uS, uS, uS]) rfl ?_
 refine o_aload K X21 at_209 rfl rfl rfl ?_
 refine o_iconst K X21 at_211 rfl (z := 0) rfl ?_
 refine o_iload K X21 at_212 rfl rfl ?_
 refine o_if_eq_t K X21 at_214 (by decide) (pc' := 224) (by decide) (by decide) ?_
 refine o_iloadN K X21 at_224 rfl rfl ?_
 refine o_static K X21  (w6 hw) (w7 hw) (w3 hw) (w8 hw) (by decide) (rm_idChar l Z a0 hw i3 h21) (by decide) rfl (argsL := [.int i3]) rfl (lenOf pd11 rfl) (W := 2) rfl (by decide) (by decide) (by decide) at_225 rfl ?_
 intro v22 T22 h22 X22 U22
 obtain ⟨r_22, rfl, rfl, u22_1, u22_2, u22_3⟩ := U22
 show oGoes pp ee bb ss Z T22 (mkF mm 228 _ [.int r_22, .int 0, .ref b21]) _ _ _
 refine o_castore K X22 A21 (by decide) (show (0 : Int32).toNatClampNeg < 2 from (by decide)) G21 (z := (.int r_22)) (congrArg Value.int u22_3) at_228 rfl ?_
 intro T23 h23 X23 W23 A23
 replace A23 : oArr Z h23 b21 k21 .char [.int r_22, .int 0] := A23
 refine o_iload K X23 at_229 rfl rfl ?_
 refine o_iconst K X23 at_231 rfl (z := 2) rfl ?_
 refine o_icmp_ne_f K X23 at_232 rfl (by decide) ?_
 refine o_aload K X23 at_235 rfl rfl rfl ?_
 refine o_iconst K X23 at_237 rfl (z := 1) rfl ?_
 refine o_iload K X23 at_238 rfl rfl ?_
 refine o_if_eq_t K X23 at_240 (by decide) (pc' := 250) (by decide) (by decide) ?_
 refine o_iloadN K X23 at_250 rfl rfl ?_
 refine o_bipush K X23 at_251 rfl (z := 16) rfl ?_
 refine o_iushr K X23 at_253 rfl (z := ((i3.toUInt32 >>> ((16 : Int32) &&& 31).toUInt32).toInt32)) rfl ?_
 refine o_static K X23  (w6 hw) (w7 hw) (w3 hw) (w8 hw) (by decide) (rm_idChar l Z a0 hw ((i3.toUInt32 >>> ((16 : Int32) &&& 31).toUInt32).toInt32) h23) (by decide) rfl (argsL := [(.int ((i3.toUInt32 >>> ((16 : Int32) &&& 31).toUInt32).toInt32))]) rfl (lenOf pd11 rfl) (W := 2) rfl (by decide) (by decide) (by decide) at_254 rfl ?_
 intro v24 T24 h24 X24 U24
 obtain ⟨r_24, rfl, rfl, u24_1, u24_2, u24_3⟩ := U24
 show oGoes pp ee bb ss Z T24 (mkF mm 257 _ [.int r_24, .int 1, .ref b21]) _ _ _
 refine o_castore K X24 A23 (by decide) (show (1 : Int32).toNatClampNeg < 2 from (by decide)) G21 (z := (.int r_24)) (congrArg Value.int u24_3) at_257 rfl ?_
 intro T25 h25 X25 W25 A25
 replace A25 : oArr Z h25 b21 k21 .char [.int r_22, .int r_24] := A25
 have n27 := oLz q1.lt (oLe g21)
 have m28 := (((q1.ext E21).other W23 n27).other W25 n27)
 have n29 := oLz q2.lt (oLe g21)
 have m30 := (((q2.ext E21).other W23 n29).other W25 n29)
 have n31 := oLz q3.lt (oLe g21)
 have m32 := (((q3.ext E21).other W23 n31).other W25 n31)
 refine tl_t258_1112 l Z a0 hw i0 i1 i2 i3 i4 i5 cp 0 ar1 kar1 ar2 kar2 ar3 kar3 b21 k21 ca da ua r_22 r_24 fm cs h25 m28 m30 m32 A25 q5 q6 q7 u22_1 u24_1 q8 q9 q10 u22_2 u24_2 q11 q12 q13 u22_3 u24_3 q14 q15 q16 q17 (fun v26 h26 U26 => ?_) K (X25.mono (by decide) (by decide))
 obtain rfl : v26 = some (.int 1) := U26
 exact hQ _ _ rfl
def Q_t203_112 (Z : State) (i0 i1 i2 i3 i4 i5 cp cq gd : Int32) (ar1 : Addr) (kar1 : ClassId) (ar2 : Addr) (kar2 : ClassId) (ar3 : Addr) (kar3 : ClassId) (ca da ua ub : Int32) (fm : Value) (cs : Int32) (h0 : Heap) (v : Option Value) (h : Heap) : Prop := v = some (.int 1)
theorem tl_t203_112 (l : Launch) (Z : State) (a0 : Array Value) (hw : oHw Z a0) (i0 i1 i2 i3 i4 i5 cp cq gd : Int32) (ar1 : Addr) (kar1 : ClassId) (ar2 : Addr) (kar2 : ClassId) (ar3 : Addr) (kar3 : ClassId) (ca da ua ub : Int32) (fm : Value) (cs : Int32) (h0 : Heap) (q0 : (cq = (1 : Int32) ∧ gd = (1 : Int32)) ∨ (cq = (0 : Int32) ∧ gd = (1 : Int32)) ∨ (cq = (0 : Int32) ∧ gd = (2 : Int32))) (q1 : oArr Z h0 ar1 kar1 .char [.int ca]) (q2 : oArr Z h0 ar2 kar2 .char [.int da]) (q3 : oArr Z h0 ar3 kar3 .char [.int ua, .int ub]) (q4 : Z.heap.size ≤ ar2) (q5 : oSh ca) (q6 : oId da) (q7 : oSh ua) (q8 : oSh ub) (q9 : oCh ca) (q10 : oCh da) (q11 : oCh ua) (q12 : oCh ub) (q13 : nar .char ca = ca) (q14 : nar .char da = da) (q15 : nar .char ua = ua) (q16 : nar .char ub = ub) (q17 : Sta Z Z.heap z3 z5 z6 fm) (q18 : fm.isRef = true) (q19 : Sta Z Z.heap z0 z4 "Z" (.int cs)) (q20 : ¬ (cs = (0 : Int32))) {Q : Option Value → Heap → Prop} (hQ : ∀ v h, Q_t203_112 Z i0 i1 i2 i3 i4 i5 cp cq gd ar1 kar1 ar2 kar2 ar3 kar3 ca da ua ub fm cs h0 v h → Q v h) {pp : Program} {ee : Env} {ss : State} {mm : MethodId} {bb : List Frame} {mtd : Method} {cc : Code} {A : Array Value} {T0 : State} (K : oCtx pp ss mm mtd cc Z z7 code maxLocals "law" ret x) (X0 : oSt pp l ee room_1 ss mm A bb mtd cc Z T0 h0 3 6) : oGoes pp ee bb ss Z T0 (mkF mm 203 #[vI i0, vI i1, vI i2, vI i3, vI i4, vI i5, vI 1, vI 1, vI cp, vI cq, vI 2, vI gd, vR ar1, vR ar2, vR ar3, uS, uS, uS, uS, uS, uS, uS] []) Q room_1.cells room_1.slots := by
 have E0 := X0.ext0
 rcases q0 with ⟨rfl, rfl⟩ | ⟨rfl, rfl⟩ | ⟨rfl, rfl⟩
 refine o_iload K X0 at_203 rfl rfl ?_
 refine o_newarray K X0 (aty := .char) 1 (w0 hw) (ad := "[C") (by decide +kernel) (by decide) (by decide) (by decide) rfl at_205 rfl (by decide) (by decide) ?_
 intro T1 h1 b1 k1 X1 g1 E1 A1 B1 G1
 replace A1 : oArr Z h1 b1 k1 .char [.int 0] := A1
 refine o_astore K X1 at_207 rfl rfl (L' := #[vI i0, vI i1, vI i2, vI i3, vI i4, vI i5, vI 1, vI 1, vI cp, vI 1, vI 2, vI 1, vR ar1, vR ar2, vR ar3, vR b1, uS, uS, uS, uS, uS, uS]) rfl ?_
 refine o_aload K X1 at_209 rfl rfl rfl ?_
 refine o_iconst K X1 at_211 rfl (z := 0) rfl ?_
 refine o_iload K X1 at_212 rfl rfl ?_
 refine o_if_eq_f K X1 at_214 rfl (by decide) ?_
 refine o_aload K X1 at_217 rfl rfl rfl ?_
 refine o_iconst K X1 at_219 rfl (z := 0) rfl ?_
 have m2 := (q2.ext E1)
 refine o_caload K X1 m2 (by decide) (v := (.int da)) rfl at_220 rfl ?_
 refine o_goto K X1 at_221 (by decide) (pc' := 228) (by decide) ?_
 refine o_castore K X1 A1 (by decide) (show (0 : Int32).toNatClampNeg < 1 from (by decide)) G1 (z := (.int da)) (congrArg Value.int q14) at_228 rfl ?_
 intro T3 h3 X3 W3 A3
 replace A3 : oArr Z h3 b1 k1 .char [.int da] := A3
 refine o_iload K X3 at_229 rfl rfl ?_
 refine o_iconst K X3 at_231 rfl (z := 2) rfl ?_
 refine o_icmp_ne_t K X3 at_232 (by decide) (pc' := 258) (by decide) (by decide) ?_
 have n5 := oLz q1.lt (oLe g1)
 have m6 := ((q1.ext E1).other W3 n5)
 have n7 := oLz q2.lt (oLe g1)
 have m8 := (m2.other W3 n7)
 have n9 := oLz q3.lt (oLe g1)
 have m10 := ((q3.ext E1).other W3 n9)
 refine tl_t258_1121 l Z a0 hw i0 i1 i2 i3 i4 i5 cp 1 ar1 kar1 ar2 kar2 ar3 kar3 b1 k1 ca da ua ub da fm cs h3 m6 m8 m10 A3 q5 q6 q7 q8 q6 q9 q10 q11 q12 q10 q13 q14 q15 q16 q14 q17 q18 q19 q20 (fun v4 h4 U4 => ?_) K (X3.mono (by decide) (by decide))
 obtain rfl : v4 = some (.int 1) := U4
 exact hQ _ _ rfl
 refine o_iload K X0 at_203 rfl rfl ?_
 refine o_newarray K X0 (aty := .char) 1 (w0 hw) (ad := "[C") (by decide +kernel) (by decide) (by decide) (by decide) rfl at_205 rfl (by decide) (by decide) ?_
 intro T11 h11 b11 k11 X11 g11 E11 A11 B11 G11
 replace A11 : oArr Z h11 b11 k11 .char [.int 0] := A11
 refine o_astore K X11 at_207 rfl rfl (L' := #[vI i0, vI i1, vI i2, vI i3, vI i4, vI i5, vI 1, vI 1, vI cp, vI 0, vI 2, vI 1, vR ar1, vR ar2, vR ar3, vR b11, uS, uS, uS, uS, uS, uS]) rfl ?_
 refine o_aload K X11 at_209 rfl rfl rfl ?_
 refine o_iconst K X11 at_211 rfl (z := 0) rfl ?_
 refine o_iload K X11 at_212 rfl rfl ?_
 refine o_if_eq_t K X11 at_214 (by decide) (pc' := 224) (by decide) (by decide) ?_
 refine o_iloadN K X11 at_224 rfl rfl ?_
 refine o_static K X11  (w6 hw) (w7 hw) (w3 hw) (w8 hw) (by decide) (rm_idChar l Z a0 hw i3 h11) (by decide) rfl (argsL := [.int i3]) rfl (lenOf pd11 rfl) (W := 2) rfl (by decide) (by decide) (by decide) at_225 rfl ?_
 intro v12 T12 h12 X12 U12
 obtain ⟨r_12, rfl, rfl, u12_1, u12_2, u12_3⟩ := U12
 show oGoes pp ee bb ss Z T12 (mkF mm 228 _ [.int r_12, .int 0, .ref b11]) _ _ _
 refine o_castore K X12 A11 (by decide) (show (0 : Int32).toNatClampNeg < 1 from (by decide)) G11 (z := (.int r_12)) (congrArg Value.int u12_3) at_228 rfl ?_
 intro T13 h13 X13 W13 A13
 replace A13 : oArr Z h13 b11 k11 .char [.int r_12] := A13
 refine o_iload K X13 at_229 rfl rfl ?_
 refine o_iconst K X13 at_231 rfl (z := 2) rfl ?_
 refine o_icmp_ne_t K X13 at_232 (by decide) (pc' := 258) (by decide) (by decide) ?_
 have n15 := oLz q1.lt (oLe g11)
 have m16 := ((q1.ext E11).other W13 n15)
 have n17 := oLz q2.lt (oLe g11)
 have m18 := ((q2.ext E11).other W13 n17)
 have n19 := oLz q3.lt (oLe g11)
 have m20 := ((q3.ext E11).other W13 n19)
 refine tl_t258_1121 l Z a0 hw i0 i1 i2 i3 i4 i5 cp 0 ar1 kar1 ar2 kar2 ar3 kar3 b11 k11 ca da ua ub r_12 fm cs h13 m16 m18 m20 A13 q5 q6 q7 q8 u12_1 q9 q10 q11 q12 u12_2 q13 q14 q15 q16 u12_3 q17 q18 q19 q20 (fun v14 h14 U14 => ?_) K (X13.mono (by decide) (by decide))
 obtain rfl : v14 = some (.int 1) := U14
 exact hQ _ _ rfl
 refine o_iload K X0 at_203 rfl rfl ?_
 refine o_newarray K X0 (aty := .char) 2 (w0 hw) (ad := "[C") (by decide +kernel) (by decide) (by decide) (by decide) rfl at_205 rfl (by decide) (by decide) ?_
 intro T21 h21 b21 k21 X21 g21 E21 A21 B21 G21
 replace A21 : oArr Z h21 b21 k21 .char [.int 0, .int 0] := A21
 refine o_astore K X21 at_207 rfl rfl (L' := #[vI i0, vI i1, vI i2, vI i3, vI i4, vI i5, vI 1, vI 1, vI cp, vI 0, vI 2, vI 2, vR ar1, vR ar2, vR ar3, vR b21, uS, uS, uS, uS, uS, uS]) rfl ?_
 refine o_aload K X21 at_209 rfl rfl rfl ?_
 refine o_iconst K X21 at_211 rfl (z := 0) rfl ?_
 refine o_iload K X21 at_212 rfl rfl ?_
 refine o_if_eq_t K X21 at_214 (by decide) (pc' := 224) (by decide) (by decide) ?_
 refine o_iloadN K X21 at_224 rfl rfl ?_
 refine o_static K X21  (w6 hw) (w7 hw) (w3 hw) (w8 hw) (by decide) (rm_idChar l Z a0 hw i3 h21) (by decide) rfl (argsL := [.int i3]) rfl (lenOf pd11 rfl) (W := 2) rfl (by decide) (by decide) (by decide) at_225 rfl ?_
 intro v22 T22 h22 X22 U22
 obtain ⟨r_22, rfl, rfl, u22_1, u22_2, u22_3⟩ := U22
 show oGoes pp ee bb ss Z T22 (mkF mm 228 _ [.int r_22, .int 0, .ref b21]) _ _ _
 refine o_castore K X22 A21 (by decide) (show (0 : Int32).toNatClampNeg < 2 from (by decide)) G21 (z := (.int r_22)) (congrArg Value.int u22_3) at_228 rfl ?_
 intro T23 h23 X23 W23 A23
 replace A23 : oArr Z h23 b21 k21 .char [.int r_22, .int 0] := A23
 refine o_iload K X23 at_229 rfl rfl ?_
 refine o_iconst K X23 at_231 rfl (z := 2) rfl ?_
 refine o_icmp_ne_f K X23 at_232 rfl (by decide) ?_
 refine o_aload K X23 at_235 rfl rfl rfl ?_
 refine o_iconst K X23 at_237 rfl (z := 1) rfl ?_
 refine o_iload K X23 at_238 rfl rfl ?_
 refine o_if_eq_t K X23 at_240 (by decide) (pc' := 250) (by decide) (by decide) ?_
 refine o_iloadN K X23 at_250 rfl rfl ?_
 refine o_bipush K X23 at_251 rfl (z := 16) rfl ?_
 refine o_iushr K X23 at_253 rfl (z := ((i3.toUInt32 >>> ((16 : Int32) &&& 31).toUInt32).toInt32)) rfl ?_
 refine o_static K X23  (w6 hw) (w7 hw) (w3 hw) (w8 hw) (by decide) (rm_idChar l Z a0 hw ((i3.toUInt32 >>> ((16 : Int32) &&& 31).toUInt32).toInt32) h23) (by decide) rfl (argsL := [(.int ((i3.toUInt32 >>> ((16 : Int32) &&& 31).toUInt32).toInt32))]) rfl (lenOf pd11 rfl) (W := 2) rfl (by decide) (by decide) (by decide) at_254 rfl ?_
 intro v24 T24 h24 X24 U24
 obtain ⟨r_24, rfl, rfl, u24_1, u24_2, u24_3⟩ := U24
 show oGoes pp ee bb ss Z T24 (mkF mm 257 _ [.int r_24, .int 1, .ref b21]) _ _ _
 refine o_castore K X24 A23 (by decide) (show (1 : Int32).toNatClampNeg < 2 from (by decide)) G21 (z := (.int r_24)) (congrArg Value.int u24_3) at_257 rfl ?_
 intro T25 h25 X25 W25 A25
 replace A25 : oArr Z h25 b21 k21 .char [.int r_22, .int r_24] := A25
 have n27 := oLz q1.lt (oLe g21)
 have m28 := (((q1.ext E21).other W23 n27).other W25 n27)
 have n29 := oLz q2.lt (oLe g21)
 have m30 := (((q2.ext E21).other W23 n29).other W25 n29)
 have n31 := oLz q3.lt (oLe g21)
 have m32 := (((q3.ext E21).other W23 n31).other W25 n31)
 refine tl_t258_1122 l Z a0 hw i0 i1 i2 i3 i4 i5 cp 0 ar1 kar1 ar2 kar2 ar3 kar3 b21 k21 ca da ua ub r_22 r_24 fm cs h25 m28 m30 m32 A25 q5 q6 q7 q8 u22_1 u24_1 q9 q10 q11 q12 u22_2 u24_2 q13 q14 q15 q16 u22_3 u24_3 q17 q18 q19 q20 (fun v26 h26 U26 => ?_) K (X25.mono (by decide) (by decide))
 obtain rfl : v26 = some (.int 1) := U26
 exact hQ _ _ rfl
def Q_t203_121 (Z : State) (i0 i1 i2 i3 i4 i5 cp cq gd : Int32) (ar1 : Addr) (kar1 : ClassId) (ar2 : Addr) (kar2 : ClassId) (ar3 : Addr) (kar3 : ClassId) (ca da db ua : Int32) (fm : Value) (cs : Int32) (h0 : Heap) (v : Option Value) (h : Heap) : Prop := v = some (.int 1)
theorem tl_t203_121 (l : Launch) (Z : State) (a0 : Array Value) (hw : oHw Z a0) (i0 i1 i2 i3 i4 i5 cp cq gd : Int32) (ar1 : Addr) (kar1 : ClassId) (ar2 : Addr) (kar2 : ClassId) (ar3 : Addr) (kar3 : ClassId) (ca da db ua : Int32) (fm : Value) (cs : Int32) (h0 : Heap) (q0 : (cq = (1 : Int32) ∧ gd = (2 : Int32)) ∨ (cq = (0 : Int32) ∧ gd = (1 : Int32)) ∨ (cq = (0 : Int32) ∧ gd = (2 : Int32))) (q1 : oArr Z h0 ar1 kar1 .char [.int ca]) (q2 : oArr Z h0 ar2 kar2 .char [.int da, .int db]) (q3 : oArr Z h0 ar3 kar3 .char [.int ua]) (q4 : Z.heap.size ≤ ar2) (q5 : oSh ca) (q6 : oId da) (q7 : oId db) (q8 : oSh ua) (q9 : oCh ca) (q10 : oCh da) (q11 : oCh db) (q12 : oCh ua) (q13 : nar .char ca = ca) (q14 : nar .char da = da) (q15 : nar .char db = db) (q16 : nar .char ua = ua) (q17 : Sta Z Z.heap z3 z5 z6 fm) (q18 : fm.isRef = true) (q19 : Sta Z Z.heap z0 z4 "Z" (.int cs)) (q20 : ¬ (cs = (0 : Int32))) {Q : Option Value → Heap → Prop} (hQ : ∀ v h, Q_t203_121 Z i0 i1 i2 i3 i4 i5 cp cq gd ar1 kar1 ar2 kar2 ar3 kar3 ca da db ua fm cs h0 v h → Q v h) {pp : Program} {ee : Env} {ss : State} {mm : MethodId} {bb : List Frame} {mtd : Method} {cc : Code} {A : Array Value} {T0 : State} (K : oCtx pp ss mm mtd cc Z z7 code maxLocals "law" ret x) (X0 : oSt pp l ee room_1 ss mm A bb mtd cc Z T0 h0 3 6) : oGoes pp ee bb ss Z T0 (mkF mm 203 #[vI i0, vI i1, vI i2, vI i3, vI i4, vI i5, vI 1, vI 2, vI cp, vI cq, vI 1, vI gd, vR ar1, vR ar2, vR ar3, uS, uS, uS, uS, uS, uS, uS] []) Q room_1.cells room_1.slots := by
 have E0 := X0.ext0
 rcases q0 with ⟨rfl, rfl⟩ | ⟨rfl, rfl⟩ | ⟨rfl, rfl⟩
 refine o_iload K X0 at_203 rfl rfl ?_
 refine o_newarray K X0 (aty := .char) 2 (w0 hw) (ad := "[C") (by decide +kernel) (by decide) (by decide) (by decide) rfl at_205 rfl (by decide) (by decide) ?_
 intro T1 h1 b1 k1 X1 g1 E1 A1 B1 G1
 replace A1 : oArr Z h1 b1 k1 .char [.int 0, .int 0] := A1
 refine o_astore K X1 at_207 rfl rfl (L' := #[vI i0, vI i1, vI i2, vI i3, vI i4, vI i5, vI 1, vI 2, vI cp, vI 1, vI 1, vI 2, vR ar1, vR ar2, vR ar3, vR b1, uS, uS, uS, uS, uS, uS]) rfl ?_
 refine o_aload K X1 at_209 rfl rfl rfl ?_
 refine o_iconst K X1 at_211 rfl (z := 0) rfl ?_
 refine o_iload K X1 at_212 rfl rfl ?_
 refine o_if_eq_f K X1 at_214 rfl (by decide) ?_
 refine o_aload K X1 at_217 rfl rfl rfl ?_
 refine o_iconst K X1 at_219 rfl (z := 0) rfl ?_
 have m2 := (q2.ext E1)
 refine o_caload K X1 m2 (by decide) (v := (.int da)) rfl at_220 rfl ?_
 refine o_goto K X1 at_221 (by decide) (pc' := 228) (by decide) ?_
 refine o_castore K X1 A1 (by decide) (show (0 : Int32).toNatClampNeg < 2 from (by decide)) G1 (z := (.int da)) (congrArg Value.int q14) at_228 rfl ?_
 intro T3 h3 X3 W3 A3
 replace A3 : oArr Z h3 b1 k1 .char [.int da, .int 0] := A3
 refine o_iload K X3 at_229 rfl rfl ?_
 refine o_iconst K X3 at_231 rfl (z := 2) rfl ?_
 refine o_icmp_ne_f K X3 at_232 rfl (by decide) ?_
 refine o_aload K X3 at_235 rfl rfl rfl ?_
 refine o_iconst K X3 at_237 rfl (z := 1) rfl ?_
 refine o_iload K X3 at_238 rfl rfl ?_
 refine o_if_eq_f K X3 at_240 rfl (by decide) ?_
 refine o_aload K X3 at_243 rfl rfl rfl ?_
 refine o_iconst K X3 at_245 rfl (z := 1) rfl ?_
 have n4 := oLz q2.lt (oLe g1)
 have m5 := (m2.other W3 n4)
 refine o_caload K X3 m5 (by decide) (v := (.int db)) rfl at_246 rfl ?_
 refine o_goto K X3 at_247 (by decide) (pc' := 257) (by decide) ?_
 refine o_castore K X3 A3 (by decide) (show (1 : Int32).toNatClampNeg < 2 from (by decide)) G1 (z := (.int db)) (congrArg Value.int q15) at_257 rfl ?_
 intro T6 h6 X6 W6 A6
 replace A6 : oArr Z h6 b1 k1 .char [.int da, .int db] := A6
 have n8 := oLz q1.lt (oLe g1)
 have m9 := (((q1.ext E1).other W3 n8).other W6 n8)
 have m10 := (m5.other W6 n4)
 have n11 := oLz q3.lt (oLe g1)
 have m12 := (((q3.ext E1).other W3 n11).other W6 n11)
 refine tl_t258_1212 l Z a0 hw i0 i1 i2 i3 i4 i5 cp 1 ar1 kar1 ar2 kar2 ar3 kar3 b1 k1 ca da db ua da db fm cs h6 m9 m10 m12 A6 q5 q6 q7 q8 q6 q7 q9 q10 q11 q12 q10 q11 q13 q14 q15 q16 q14 q15 q17 q18 q19 q20 (fun v7 h7 U7 => ?_) K (X6.mono (by decide) (by decide))
 obtain rfl : v7 = some (.int 1) := U7
 exact hQ _ _ rfl
 refine o_iload K X0 at_203 rfl rfl ?_
 refine o_newarray K X0 (aty := .char) 1 (w0 hw) (ad := "[C") (by decide +kernel) (by decide) (by decide) (by decide) rfl at_205 rfl (by decide) (by decide) ?_
 intro T13 h13 b13 k13 X13 g13 E13 A13 B13 G13
 replace A13 : oArr Z h13 b13 k13 .char [.int 0] := A13
 refine o_astore K X13 at_207 rfl rfl (L' := #[vI i0, vI i1, vI i2, vI i3, vI i4, vI i5, vI 1, vI 2, vI cp, vI 0, vI 1, vI 1, vR ar1, vR ar2, vR ar3, vR b13, uS, uS, uS, uS, uS, uS]) rfl ?_
 refine o_aload K X13 at_209 rfl rfl rfl ?_
 refine o_iconst K X13 at_211 rfl (z := 0) rfl ?_
 refine o_iload K X13 at_212 rfl rfl ?_
 refine o_if_eq_t K X13 at_214 (by decide) (pc' := 224) (by decide) (by decide) ?_
 refine o_iloadN K X13 at_224 rfl rfl ?_
 refine o_static K X13  (w6 hw) (w7 hw) (w3 hw) (w8 hw) (by decide) (rm_idChar l Z a0 hw i3 h13) (by decide) rfl (argsL := [.int i3]) rfl (lenOf pd11 rfl) (W := 2) rfl (by decide) (by decide) (by decide) at_225 rfl ?_
 intro v14 T14 h14 X14 U14
 obtain ⟨r_14, rfl, rfl, u14_1, u14_2, u14_3⟩ := U14
 show oGoes pp ee bb ss Z T14 (mkF mm 228 _ [.int r_14, .int 0, .ref b13]) _ _ _
 refine o_castore K X14 A13 (by decide) (show (0 : Int32).toNatClampNeg < 1 from (by decide)) G13 (z := (.int r_14)) (congrArg Value.int u14_3) at_228 rfl ?_
 intro T15 h15 X15 W15 A15
 replace A15 : oArr Z h15 b13 k13 .char [.int r_14] := A15
 refine o_iload K X15 at_229 rfl rfl ?_
 refine o_iconst K X15 at_231 rfl (z := 2) rfl ?_
 refine o_icmp_ne_t K X15 at_232 (by decide) (pc' := 258) (by decide) (by decide) ?_
 have n17 := oLz q1.lt (oLe g13)
 have m18 := ((q1.ext E13).other W15 n17)
 have n19 := oLz q2.lt (oLe g13)
 have m20 := ((q2.ext E13).other W15 n19)
 have n21 := oLz q3.lt (oLe g13)
 have m22 := ((q3.ext E13).other W15 n21)
 refine tl_t258_1211 l Z a0 hw i0 i1 i2 i3 i4 i5 cp 0 ar1 kar1 ar2 kar2 ar3 kar3 b13 k13 ca da db ua r_14 fm cs h15 m18 m20 m22 A15 q5 q6 q7 q8 u14_1 q9 q10 q11 q12 u14_2 q13 q14 q15 q16 u14_3 q17 q18 q19 q20 (fun v16 h16 U16 => ?_) K (X15.mono (by decide) (by decide))
 obtain rfl : v16 = some (.int 1) := U16
 exact hQ _ _ rfl
 refine o_iload K X0 at_203 rfl rfl ?_
 refine o_newarray K X0 (aty := .char) 2 (w0 hw) (ad := "[C") (by decide +kernel) (by decide) (by decide) (by decide) rfl at_205 rfl (by decide) (by decide) ?_
 intro T23 h23 b23 k23 X23 g23 E23 A23 B23 G23
 replace A23 : oArr Z h23 b23 k23 .char [.int 0, .int 0] := A23
 refine o_astore K X23 at_207 rfl rfl (L' := #[vI i0, vI i1, vI i2, vI i3, vI i4, vI i5, vI 1, vI 2, vI cp, vI 0, vI 1, vI 2, vR ar1, vR ar2, vR ar3, vR b23, uS, uS, uS, uS, uS, uS]) rfl ?_
 refine o_aload K X23 at_209 rfl rfl rfl ?_
 refine o_iconst K X23 at_211 rfl (z := 0) rfl ?_
 refine o_iload K X23 at_212 rfl rfl ?_
 refine o_if_eq_t K X23 at_214 (by decide) (pc' := 224) (by decide) (by decide) ?_
 refine o_iloadN K X23 at_224 rfl rfl ?_
 refine o_static K X23  (w6 hw) (w7 hw) (w3 hw) (w8 hw) (by decide) (rm_idChar l Z a0 hw i3 h23) (by decide) rfl (argsL := [.int i3]) rfl (lenOf pd11 rfl) (W := 2) rfl (by decide) (by decide) (by decide) at_225 rfl ?_
 intro v24 T24 h24 X24 U24
 obtain ⟨r_24, rfl, rfl, u24_1, u24_2, u24_3⟩ := U24
 show oGoes pp ee bb ss Z T24 (mkF mm 228 _ [.int r_24, .int 0, .ref b23]) _ _ _
 refine o_castore K X24 A23 (by decide) (show (0 : Int32).toNatClampNeg < 2 from (by decide)) G23 (z := (.int r_24)) (congrArg Value.int u24_3) at_228 rfl ?_
 intro T25 h25 X25 W25 A25
 replace A25 : oArr Z h25 b23 k23 .char [.int r_24, .int 0] := A25
 refine o_iload K X25 at_229 rfl rfl ?_
 refine o_iconst K X25 at_231 rfl (z := 2) rfl ?_
 refine o_icmp_ne_f K X25 at_232 rfl (by decide) ?_
 refine o_aload K X25 at_235 rfl rfl rfl ?_
 refine o_iconst K X25 at_237 rfl (z := 1) rfl ?_
 refine o_iload K X25 at_238 rfl rfl ?_
 refine o_if_eq_t K X25 at_240 (by decide) (pc' := 250) (by decide) (by decide) ?_
 refine o_iloadN K X25 at_250 rfl rfl ?_
 refine o_bipush K X25 at_251 rfl (z := 16) rfl ?_
 refine o_iushr K X25 at_253 rfl (z := ((i3.toUInt32 >>> ((16 : Int32) &&& 31).toUInt32).toInt32)) rfl ?_
 refine o_static K X25  (w6 hw) (w7 hw) (w3 hw) (w8 hw) (by decide) (rm_idChar l Z a0 hw ((i3.toUInt32 >>> ((16 : Int32) &&& 31).toUInt32).toInt32) h25) (by decide) rfl (argsL := [(.int ((i3.toUInt32 >>> ((16 : Int32) &&& 31).toUInt32).toInt32))]) rfl (lenOf pd11 rfl) (W := 2) rfl (by decide) (by decide) (by decide) at_254 rfl ?_
 intro v26 T26 h26 X26 U26
 obtain ⟨r_26, rfl, rfl, u26_1, u26_2, u26_3⟩ := U26
 show oGoes pp ee bb ss Z T26 (mkF mm 257 _ [.int r_26, .int 1, .ref b23]) _ _ _
 refine o_castore K X26 A25 (by decide) (show (1 : Int32).toNatClampNeg < 2 from (by decide)) G23 (z := (.int r_26)) (congrArg Value.int u26_3) at_257 rfl ?_
 intro T27 h27 X27 W27 A27
 replace A27 : oArr Z h27 b23 k23 .char [.int r_24, .int r_26] := A27
 have n29 := oLz q1.lt (oLe g23)
 have m30 := (((q1.ext E23).other W25 n29).other W27 n29)
 have n31 := oLz q2.lt (oLe g23)
 have m32 := (((q2.ext E23).other W25 n31).other W27 n31)
 have n33 := oLz q3.lt (oLe g23)
 have m34 := (((q3.ext E23).other W25 n33).other W27 n33)
 refine tl_t258_1212 l Z a0 hw i0 i1 i2 i3 i4 i5 cp 0 ar1 kar1 ar2 kar2 ar3 kar3 b23 k23 ca da db ua r_24 r_26 fm cs h27 m30 m32 m34 A27 q5 q6 q7 q8 u24_1 u26_1 q9 q10 q11 q12 u24_2 u26_2 q13 q14 q15 q16 u24_3 u26_3 q17 q18 q19 q20 (fun v28 h28 U28 => ?_) K (X27.mono (by decide) (by decide))
 obtain rfl : v28 = some (.int 1) := U28
 exact hQ _ _ rfl
def Q_t203_122 (Z : State) (i0 i1 i2 i3 i4 i5 cp cq gd : Int32) (ar1 : Addr) (kar1 : ClassId) (ar2 : Addr) (kar2 : ClassId) (ar3 : Addr) (kar3 : ClassId) (ca da db ua ub : Int32) (fm : Value) (cs : Int32) (h0 : Heap) (v : Option Value) (h : Heap) : Prop := v = some (.int 1)
theorem tl_t203_122 (l : Launch) (Z : State) (a0 : Array Value) (hw : oHw Z a0) (i0 i1 i2 i3 i4 i5 cp cq gd : Int32) (ar1 : Addr) (kar1 : ClassId) (ar2 : Addr) (kar2 : ClassId) (ar3 : Addr) (kar3 : ClassId) (ca da db ua ub : Int32) (fm : Value) (cs : Int32) (h0 : Heap) (q0 : (cq = (1 : Int32) ∧ gd = (2 : Int32)) ∨ (cq = (0 : Int32) ∧ gd = (1 : Int32)) ∨ (cq = (0 : Int32) ∧ gd = (2 : Int32))) (q1 : oArr Z h0 ar1 kar1 .char [.int ca]) (q2 : oArr Z h0 ar2 kar2 .char [.int da, .int db]) (q3 : oArr Z h0 ar3 kar3 .char [.int ua, .int ub]) (q4 : Z.heap.size ≤ ar2) (q5 : oSh ca) (q6 : oId da) (q7 : oId db) (q8 : oSh ua) (q9 : oSh ub) (q10 : oCh ca) (q11 : oCh da) (q12 : oCh db) (q13 : oCh ua) (q14 : oCh ub) (q15 : nar .char ca = ca) (q16 : nar .char da = da) (q17 : nar .char db = db) (q18 : nar .char ua = ua) (q19 : nar .char ub = ub) (q20 : Sta Z Z.heap z3 z5 z6 fm) (q21 : fm.isRef = true) (q22 : Sta Z Z.heap z0 z4 "Z" (.int cs)) (q23 : ¬ (cs = (0 : Int32))) {Q : Option Value → Heap → Prop} (hQ : ∀ v h, Q_t203_122 Z i0 i1 i2 i3 i4 i5 cp cq gd ar1 kar1 ar2 kar2 ar3 kar3 ca da db ua ub fm cs h0 v h → Q v h) {pp : Program} {ee : Env} {ss : State} {mm : MethodId} {bb : List Frame} {mtd : Method} {cc : Code} {A : Array Value} {T0 : State} (K : oCtx pp ss mm mtd cc Z z7 code maxLocals "law" ret x) (X0 : oSt pp l ee room_1 ss mm A bb mtd cc Z T0 h0 3 6) : oGoes pp ee bb ss Z T0 (mkF mm 203 #[vI i0, vI i1, vI i2, vI i3, vI i4, vI i5, vI 1, vI 2, vI cp, vI cq, vI 2, vI gd, vR ar1, vR ar2, vR ar3, uS, uS, uS, uS, uS, uS, uS] []) Q room_1.cells room_1.slots := by
 have E0 := X0.ext0
 rcases q0 with ⟨rfl, rfl⟩ | ⟨rfl, rfl⟩ | ⟨rfl, rfl⟩
 refine o_iload K X0 at_203 rfl rfl ?_
 refine o_newarray K X0 (aty := .char) 2 (w0 hw) (ad := "[C") (by decide +kernel) (by decide) (by decide) (by decide) rfl at_205 rfl (by decide) (by decide) ?_
 intro T1 h1 b1 k1 X1 g1 E1 A1 B1 G1
 replace A1 : oArr Z h1 b1 k1 .char [.int 0, .int 0] := A1
 refine o_astore K X1 at_207 rfl rfl (L' := #[vI i0, vI i1, vI i2, vI i3, vI i4, vI i5, vI 1, vI 2, vI cp, vI 1, vI 2, vI 2, vR ar1, vR ar2, vR ar3, vR b1, uS, uS, uS, uS, uS, uS]) rfl ?_
 refine o_aload K X1 at_209 rfl rfl rfl ?_
 refine o_iconst K X1 at_211 rfl (z := 0) rfl ?_
 refine o_iload K X1 at_212 rfl rfl ?_
 refine o_if_eq_f K X1 at_214 rfl (by decide) ?_
 refine o_aload K X1 at_217 rfl rfl rfl ?_
 refine o_iconst K X1 at_219 rfl (z := 0) rfl ?_
 have m2 := (q2.ext E1)
 refine o_caload K X1 m2 (by decide) (v := (.int da)) rfl at_220 rfl ?_
 refine o_goto K X1 at_221 (by decide) (pc' := 228) (by decide) ?_
 refine o_castore K X1 A1 (by decide) (show (0 : Int32).toNatClampNeg < 2 from (by decide)) G1 (z := (.int da)) (congrArg Value.int q16) at_228 rfl ?_
 intro T3 h3 X3 W3 A3
 replace A3 : oArr Z h3 b1 k1 .char [.int da, .int 0] := A3
 refine o_iload K X3 at_229 rfl rfl ?_
 refine o_iconst K X3 at_231 rfl (z := 2) rfl ?_
 refine o_icmp_ne_f K X3 at_232 rfl (by decide) ?_
 refine o_aload K X3 at_235 rfl rfl rfl ?_
 refine o_iconst K X3 at_237 rfl (z := 1) rfl ?_
 refine o_iload K X3 at_238 rfl rfl ?_
 refine o_if_eq_f K X3 at_240 rfl (by decide) ?_
 refine o_aload K X3 at_243 rfl rfl rfl ?_
 refine o_iconst K X3 at_245 rfl (z := 1) rfl ?_
 have n4 := oLz q2.lt (oLe g1)
 have m5 := (m2.other W3 n4)
 refine o_caload K X3 m5 (by decide) (v := (.int db)) rfl at_246 rfl ?_
 refine o_goto K X3 at_247 (by decide) (pc' := 257) (by decide) ?_
 refine o_castore K X3 A3 (by decide) (show (1 : Int32).toNatClampNeg < 2 from (by decide)) G1 (z := (.int db)) (congrArg Value.int q17) at_257 rfl ?_
 intro T6 h6 X6 W6 A6
 replace A6 : oArr Z h6 b1 k1 .char [.int da, .int db] := A6
 have n8 := oLz q1.lt (oLe g1)
 have m9 := (((q1.ext E1).other W3 n8).other W6 n8)
 have m10 := (m5.other W6 n4)
 have n11 := oLz q3.lt (oLe g1)
 have m12 := (((q3.ext E1).other W3 n11).other W6 n11)
 refine tl_t258_1222 l Z a0 hw i0 i1 i2 i3 i4 i5 cp 1 ar1 kar1 ar2 kar2 ar3 kar3 b1 k1 ca da db ua ub da db fm cs h6 m9 m10 m12 A6 q5 q6 q7 q8 q9 q6 q7 q10 q11 q12 q13 q14 q11 q12 q15 q16 q17 q18 q19 q16 q17 q20 q21 q22 q23 (fun v7 h7 U7 => ?_) K (X6.mono (by decide) (by decide))
 obtain rfl : v7 = some (.int 1) := U7
 exact hQ _ _ rfl
 refine o_iload K X0 at_203 rfl rfl ?_
 refine o_newarray K X0 (aty := .char) 1 (w0 hw) (ad := "[C") (by decide +kernel) (by decide) (by decide) (by decide) rfl at_205 rfl (by decide) (by decide) ?_
 intro T13 h13 b13 k13 X13 g13 E13 A13 B13 G13
 replace A13 : oArr Z h13 b13 k13 .char [.int 0] := A13
 refine o_astore K X13 at_207 rfl rfl (L' := #[vI i0, vI i1, vI i2, vI i3, vI i4, vI i5, vI 1, vI 2, vI cp, vI 0, vI 2, vI 1, vR ar1, vR ar2, vR ar3, vR b13, uS, uS, uS, uS, uS, uS]) rfl ?_
 refine o_aload K X13 at_209 rfl rfl rfl ?_
 refine o_iconst K X13 at_211 rfl (z := 0) rfl ?_
 refine o_iload K X13 at_212 rfl rfl ?_
 refine o_if_eq_t K X13 at_214 (by decide) (pc' := 224) (by decide) (by decide) ?_
 refine o_iloadN K X13 at_224 rfl rfl ?_
 refine o_static K X13  (w6 hw) (w7 hw) (w3 hw) (w8 hw) (by decide) (rm_idChar l Z a0 hw i3 h13) (by decide) rfl (argsL := [.int i3]) rfl (lenOf pd11 rfl) (W := 2) rfl (by decide) (by decide) (by decide) at_225 rfl ?_
 intro v14 T14 h14 X14 U14
 obtain ⟨r_14, rfl, rfl, u14_1, u14_2, u14_3⟩ := U14
 show oGoes pp ee bb ss Z T14 (mkF mm 228 _ [.int r_14, .int 0, .ref b13]) _ _ _
 refine o_castore K X14 A13 (by decide) (show (0 : Int32).toNatClampNeg < 1 from (by decide)) G13 (z := (.int r_14)) (congrArg Value.int u14_3) at_228 rfl ?_
 intro T15 h15 X15 W15 A15
 replace A15 : oArr Z h15 b13 k13 .char [.int r_14] := A15
 refine o_iload K X15 at_229 rfl rfl ?_
 refine o_iconst K X15 at_231 rfl (z := 2) rfl ?_
 refine o_icmp_ne_t K X15 at_232 (by decide) (pc' := 258) (by decide) (by decide) ?_
 have n17 := oLz q1.lt (oLe g13)
 have m18 := ((q1.ext E13).other W15 n17)
 have n19 := oLz q2.lt (oLe g13)
 have m20 := ((q2.ext E13).other W15 n19)
 have n21 := oLz q3.lt (oLe g13)
 have m22 := ((q3.ext E13).other W15 n21)
 refine tl_t258_1221 l Z a0 hw i0 i1 i2 i3 i4 i5 cp 0 ar1 kar1 ar2 kar2 ar3 kar3 b13 k13 ca da db ua ub r_14 fm cs h15 m18 m20 m22 A15 q5 q6 q7 q8 q9 u14_1 q10 q11 q12 q13 q14 u14_2 q15 q16 q17 q18 q19 u14_3 q20 q21 q22 q23 (fun v16 h16 U16 => ?_) K (X15.mono (by decide) (by decide))
 obtain rfl : v16 = some (.int 1) := U16
 exact hQ _ _ rfl
 refine o_iload K X0 at_203 rfl rfl ?_
 refine o_newarray K X0 (aty := .char) 2 (w0 hw) (ad := "[C") (by decide +kernel) (by decide) (by decide) (by decide) rfl at_205 rfl (by decide) (by decide) ?_
 intro T23 h23 b23 k23 X23 g23 E23 A23 B23 G23
 replace A23 : oArr Z h23 b23 k23 .char [.int 0, .int 0] := A23
 refine o_astore K X23 at_207 rfl rfl (L' := #[vI i0, vI i1, vI i2, vI i3, vI i4, vI i5, vI 1, vI 2, vI cp, vI 0, vI 2, vI 2, vR ar1, vR ar2, vR ar3, vR b23, uS, uS, uS, uS, uS, uS]) rfl ?_
 refine o_aload K X23 at_209 rfl rfl rfl ?_
 refine o_iconst K X23 at_211 rfl (z := 0) rfl ?_
 refine o_iload K X23 at_212 rfl rfl ?_
 refine o_if_eq_t K X23 at_214 (by decide) (pc' := 224) (by decide) (by decide) ?_
 refine o_iloadN K X23 at_224 rfl rfl ?_
 refine o_static K X23  (w6 hw) (w7 hw) (w3 hw) (w8 hw) (by decide) (rm_idChar l Z a0 hw i3 h23) (by decide) rfl (argsL := [.int i3]) rfl (lenOf pd11 rfl) (W := 2) rfl (by decide) (by decide) (by decide) at_225 rfl ?_
 intro v24 T24 h24 X24 U24
 obtain ⟨r_24, rfl, rfl, u24_1, u24_2, u24_3⟩ := U24
 show oGoes pp ee bb ss Z T24 (mkF mm 228 _ [.int r_24, .int 0, .ref b23]) _ _ _
 refine o_castore K X24 A23 (by decide) (show (0 : Int32).toNatClampNeg < 2 from (by decide)) G23 (z := (.int r_24)) (congrArg Value.int u24_3) at_228 rfl ?_
 intro T25 h25 X25 W25 A25
 replace A25 : oArr Z h25 b23 k23 .char [.int r_24, .int 0] := A25
 refine o_iload K X25 at_229 rfl rfl ?_
 refine o_iconst K X25 at_231 rfl (z := 2) rfl ?_
 refine o_icmp_ne_f K X25 at_232 rfl (by decide) ?_
 refine o_aload K X25 at_235 rfl rfl rfl ?_
 refine o_iconst K X25 at_237 rfl (z := 1) rfl ?_
 refine o_iload K X25 at_238 rfl rfl ?_
 refine o_if_eq_t K X25 at_240 (by decide) (pc' := 250) (by decide) (by decide) ?_
 refine o_iloadN K X25 at_250 rfl rfl ?_
 refine o_bipush K X25 at_251 rfl (z := 16) rfl ?_
 refine o_iushr K X25 at_253 rfl (z := ((i3.toUInt32 >>> ((16 : Int32) &&& 31).toUInt32).toInt32)) rfl ?_
 refine o_static K X25  (w6 hw) (w7 hw) (w3 hw) (w8 hw) (by decide) (rm_idChar l Z a0 hw ((i3.toUInt32 >>> ((16 : Int32) &&& 31).toUInt32).toInt32) h25) (by decide) rfl (argsL := [(.int ((i3.toUInt32 >>> ((16 : Int32) &&& 31).toUInt32).toInt32))]) rfl (lenOf pd11 rfl) (W := 2) rfl (by decide) (by decide) (by decide) at_254 rfl ?_
 intro v26 T26 h26 X26 U26
 obtain ⟨r_26, rfl, rfl, u26_1, u26_2, u26_3⟩ := U26
 show oGoes pp ee bb ss Z T26 (mkF mm 257 _ [.int r_26, .int 1, .ref b23]) _ _ _
 refine o_castore K X26 A25 (by decide) (show (1 : Int32).toNatClampNeg < 2 from (by decide)) G23 (z := (.int r_26)) (congrArg Value.int u26_3) at_257 rfl ?_
 intro T27 h27 X27 W27 A27
 replace A27 : oArr Z h27 b23 k23 .char [.int r_24, .int r_26] := A27
 have n29 := oLz q1.lt (oLe g23)
 have m30 := (((q1.ext E23).other W25 n29).other W27 n29)
 have n31 := oLz q2.lt (oLe g23)
 have m32 := (((q2.ext E23).other W25 n31).other W27 n31)
 have n33 := oLz q3.lt (oLe g23)
 have m34 := (((q3.ext E23).other W25 n33).other W27 n33)
 refine tl_t258_1222 l Z a0 hw i0 i1 i2 i3 i4 i5 cp 0 ar1 kar1 ar2 kar2 ar3 kar3 b23 k23 ca da db ua ub r_24 r_26 fm cs h27 m30 m32 m34 A27 q5 q6 q7 q8 q9 u24_1 u26_1 q10 q11 q12 q13 q14 u24_2 u26_2 q15 q16 q17 q18 q19 u24_3 u26_3 q20 q21 q22 q23 (fun v28 h28 U28 => ?_) K (X27.mono (by decide) (by decide))
 obtain rfl : v28 = some (.int 1) := U28
 exact hQ _ _ rfl
def Q_t203_211 (Z : State) (i0 i1 i2 i3 i4 i5 cp cq gd : Int32) (ar1 : Addr) (kar1 : ClassId) (ar2 : Addr) (kar2 : ClassId) (ar3 : Addr) (kar3 : ClassId) (ca cb da ua : Int32) (fm : Value) (cs : Int32) (h0 : Heap) (v : Option Value) (h : Heap) : Prop := v = some (.int 1)
theorem tl_t203_211 (l : Launch) (Z : State) (a0 : Array Value) (hw : oHw Z a0) (i0 i1 i2 i3 i4 i5 cp cq gd : Int32) (ar1 : Addr) (kar1 : ClassId) (ar2 : Addr) (kar2 : ClassId) (ar3 : Addr) (kar3 : ClassId) (ca cb da ua : Int32) (fm : Value) (cs : Int32) (h0 : Heap) (q0 : (cq = (1 : Int32) ∧ gd = (1 : Int32)) ∨ (cq = (0 : Int32) ∧ gd = (1 : Int32)) ∨ (cq = (0 : Int32) ∧ gd = (2 : Int32))) (q1 : oArr Z h0 ar1 kar1 .char [.int ca, .int cb]) (q2 : oArr Z h0 ar2 kar2 .char [.int da]) (q3 : oArr Z h0 ar3 kar3 .char [.int ua]) (q4 : Z.heap.size ≤ ar2) (q5 : oSh ca) (q6 : oSh cb) (q7 : oId da) (q8 : oSh ua) (q9 : oCh ca) (q10 : oCh cb) (q11 : oCh da) (q12 : oCh ua) (q13 : nar .char ca = ca) (q14 : nar .char cb = cb) (q15 : nar .char da = da) (q16 : nar .char ua = ua) (q17 : Sta Z Z.heap z3 z5 z6 fm) (q18 : fm.isRef = true) (q19 : Sta Z Z.heap z0 z4 "Z" (.int cs)) (q20 : ¬ (cs = (0 : Int32))) {Q : Option Value → Heap → Prop} (hQ : ∀ v h, Q_t203_211 Z i0 i1 i2 i3 i4 i5 cp cq gd ar1 kar1 ar2 kar2 ar3 kar3 ca cb da ua fm cs h0 v h → Q v h) {pp : Program} {ee : Env} {ss : State} {mm : MethodId} {bb : List Frame} {mtd : Method} {cc : Code} {A : Array Value} {T0 : State} (K : oCtx pp ss mm mtd cc Z z7 code maxLocals "law" ret x) (X0 : oSt pp l ee room_1 ss mm A bb mtd cc Z T0 h0 3 6) : oGoes pp ee bb ss Z T0 (mkF mm 203 #[vI i0, vI i1, vI i2, vI i3, vI i4, vI i5, vI 2, vI 1, vI cp, vI cq, vI 1, vI gd, vR ar1, vR ar2, vR ar3, uS, uS, uS, uS, uS, uS, uS] []) Q room_1.cells room_1.slots := by
 have E0 := X0.ext0
 rcases q0 with ⟨rfl, rfl⟩ | ⟨rfl, rfl⟩ | ⟨rfl, rfl⟩
 refine o_iload K X0 at_203 rfl rfl ?_
 refine o_newarray K X0 (aty := .char) 1 (w0 hw) (ad := "[C") (by decide +kernel) (by decide) (by decide) (by decide) rfl at_205 rfl (by decide) (by decide) ?_
 intro T1 h1 b1 k1 X1 g1 E1 A1 B1 G1
 replace A1 : oArr Z h1 b1 k1 .char [.int 0] := A1
 refine o_astore K X1 at_207 rfl rfl (L' := #[vI i0, vI i1, vI i2, vI i3, vI i4, vI i5, vI 2, vI 1, vI cp, vI 1, vI 1, vI 1, vR ar1, vR ar2, vR ar3, vR b1, uS, uS, uS, uS, uS, uS]) rfl ?_
 refine o_aload K X1 at_209 rfl rfl rfl ?_
 refine o_iconst K X1 at_211 rfl (z := 0) rfl ?_
 refine o_iload K X1 at_212 rfl rfl ?_
 refine o_if_eq_f K X1 at_214 rfl (by decide) ?_
 refine o_aload K X1 at_217 rfl rfl rfl ?_
 refine o_iconst K X1 at_219 rfl (z := 0) rfl ?_
 have m2 := (q2.ext E1)
 refine o_caload K X1 m2 (by decide) (v := (.int da)) rfl at_220 rfl ?_
 refine o_goto K X1 at_221 (by decide) (pc' := 228) (by decide) ?_
 refine o_castore K X1 A1 (by decide) (show (0 : Int32).toNatClampNeg < 1 from (by decide)) G1 (z := (.int da)) (congrArg Value.int q15) at_228 rfl ?_
 intro T3 h3 X3 W3 A3
 replace A3 : oArr Z h3 b1 k1 .char [.int da] := A3
 refine o_iload K X3 at_229 rfl rfl ?_
 refine o_iconst K X3 at_231 rfl (z := 2) rfl ?_
 refine o_icmp_ne_t K X3 at_232 (by decide) (pc' := 258) (by decide) (by decide) ?_
 have n5 := oLz q1.lt (oLe g1)
 have m6 := ((q1.ext E1).other W3 n5)
 have n7 := oLz q2.lt (oLe g1)
 have m8 := (m2.other W3 n7)
 have n9 := oLz q3.lt (oLe g1)
 have m10 := ((q3.ext E1).other W3 n9)
 refine tl_t258_2111 l Z a0 hw i0 i1 i2 i3 i4 i5 cp 1 ar1 kar1 ar2 kar2 ar3 kar3 b1 k1 ca cb da ua da fm cs h3 m6 m8 m10 A3 q5 q6 q7 q8 q7 q9 q10 q11 q12 q11 q13 q14 q15 q16 q15 q17 q18 q19 q20 (fun v4 h4 U4 => ?_) K (X3.mono (by decide) (by decide))
 obtain rfl : v4 = some (.int 1) := U4
 exact hQ _ _ rfl
 refine o_iload K X0 at_203 rfl rfl ?_
 refine o_newarray K X0 (aty := .char) 1 (w0 hw) (ad := "[C") (by decide +kernel) (by decide) (by decide) (by decide) rfl at_205 rfl (by decide) (by decide) ?_
 intro T11 h11 b11 k11 X11 g11 E11 A11 B11 G11
 replace A11 : oArr Z h11 b11 k11 .char [.int 0] := A11
 refine o_astore K X11 at_207 rfl rfl (L' := #[vI i0, vI i1, vI i2, vI i3, vI i4, vI i5, vI 2, vI 1, vI cp, vI 0, vI 1, vI 1, vR ar1, vR ar2, vR ar3, vR b11, uS, uS, uS, uS, uS, uS]) rfl ?_
 refine o_aload K X11 at_209 rfl rfl rfl ?_
 refine o_iconst K X11 at_211 rfl (z := 0) rfl ?_
 refine o_iload K X11 at_212 rfl rfl ?_
 refine o_if_eq_t K X11 at_214 (by decide) (pc' := 224) (by decide) (by decide) ?_
 refine o_iloadN K X11 at_224 rfl rfl ?_
 refine o_static K X11  (w6 hw) (w7 hw) (w3 hw) (w8 hw) (by decide) (rm_idChar l Z a0 hw i3 h11) (by decide) rfl (argsL := [.int i3]) rfl (lenOf pd11 rfl) (W := 2) rfl (by decide) (by decide) (by decide) at_225 rfl ?_
 intro v12 T12 h12 X12 U12
 obtain ⟨r_12, rfl, rfl, u12_1, u12_2, u12_3⟩ := U12
 show oGoes pp ee bb ss Z T12 (mkF mm 228 _ [.int r_12, .int 0, .ref b11]) _ _ _
 refine o_castore K X12 A11 (by decide) (show (0 : Int32).toNatClampNeg < 1 from (by decide)) G11 (z := (.int r_12)) (congrArg Value.int u12_3) at_228 rfl ?_
 intro T13 h13 X13 W13 A13
 replace A13 : oArr Z h13 b11 k11 .char [.int r_12] := A13
 refine o_iload K X13 at_229 rfl rfl ?_
 refine o_iconst K X13 at_231 rfl (z := 2) rfl ?_
 refine o_icmp_ne_t K X13 at_232 (by decide) (pc' := 258) (by decide) (by decide) ?_
 have n15 := oLz q1.lt (oLe g11)
 have m16 := ((q1.ext E11).other W13 n15)
 have n17 := oLz q2.lt (oLe g11)
 have m18 := ((q2.ext E11).other W13 n17)
 have n19 := oLz q3.lt (oLe g11)
 have m20 := ((q3.ext E11).other W13 n19)
 refine tl_t258_2111 l Z a0 hw i0 i1 i2 i3 i4 i5 cp 0 ar1 kar1 ar2 kar2 ar3 kar3 b11 k11 ca cb da ua r_12 fm cs h13 m16 m18 m20 A13 q5 q6 q7 q8 u12_1 q9 q10 q11 q12 u12_2 q13 q14 q15 q16 u12_3 q17 q18 q19 q20 (fun v14 h14 U14 => ?_) K (X13.mono (by decide) (by decide))
 obtain rfl : v14 = some (.int 1) := U14
 exact hQ _ _ rfl
 refine o_iload K X0 at_203 rfl rfl ?_
 refine o_newarray K X0 (aty := .char) 2 (w0 hw) (ad := "[C") (by decide +kernel) (by decide) (by decide) (by decide) rfl at_205 rfl (by decide) (by decide) ?_
 intro T21 h21 b21 k21 X21 g21 E21 A21 B21 G21
 replace A21 : oArr Z h21 b21 k21 .char [.int 0, .int 0] := A21
 refine o_astore K X21 at_207 rfl rfl (L' := #[vI i0, vI i1, vI i2, vI i3, vI i4, vI i5, vI 2, vI 1, vI cp, vI 0, vI 1, vI 2, vR ar1, vR ar2, vR ar3, vR b21, uS, uS, uS, uS, uS, uS]) rfl ?_
 refine o_aload K X21 at_209 rfl rfl rfl ?_
 refine o_iconst K X21 at_211 rfl (z := 0) rfl ?_
 refine o_iload K X21 at_212 rfl rfl ?_
 refine o_if_eq_t K X21 at_214 (by decide) (pc' := 224) (by decide) (by decide) ?_
 refine o_iloadN K X21 at_224 rfl rfl ?_
 refine o_static K X21  (w6 hw) (w7 hw) (w3 hw) (w8 hw) (by decide) (rm_idChar l Z a0 hw i3 h21) (by decide) rfl (argsL := [.int i3]) rfl (lenOf pd11 rfl) (W := 2) rfl (by decide) (by decide) (by decide) at_225 rfl ?_
 intro v22 T22 h22 X22 U22
 obtain ⟨r_22, rfl, rfl, u22_1, u22_2, u22_3⟩ := U22
 show oGoes pp ee bb ss Z T22 (mkF mm 228 _ [.int r_22, .int 0, .ref b21]) _ _ _
 refine o_castore K X22 A21 (by decide) (show (0 : Int32).toNatClampNeg < 2 from (by decide)) G21 (z := (.int r_22)) (congrArg Value.int u22_3) at_228 rfl ?_
 intro T23 h23 X23 W23 A23
 replace A23 : oArr Z h23 b21 k21 .char [.int r_22, .int 0] := A23
 refine o_iload K X23 at_229 rfl rfl ?_
 refine o_iconst K X23 at_231 rfl (z := 2) rfl ?_
 refine o_icmp_ne_f K X23 at_232 rfl (by decide) ?_
 refine o_aload K X23 at_235 rfl rfl rfl ?_
 refine o_iconst K X23 at_237 rfl (z := 1) rfl ?_
 refine o_iload K X23 at_238 rfl rfl ?_
 refine o_if_eq_t K X23 at_240 (by decide) (pc' := 250) (by decide) (by decide) ?_
 refine o_iloadN K X23 at_250 rfl rfl ?_
 refine o_bipush K X23 at_251 rfl (z := 16) rfl ?_
 refine o_iushr K X23 at_253 rfl (z := ((i3.toUInt32 >>> ((16 : Int32) &&& 31).toUInt32).toInt32)) rfl ?_
 refine o_static K X23  (w6 hw) (w7 hw) (w3 hw) (w8 hw) (by decide) (rm_idChar l Z a0 hw ((i3.toUInt32 >>> ((16 : Int32) &&& 31).toUInt32).toInt32) h23) (by decide) rfl (argsL := [(.int ((i3.toUInt32 >>> ((16 : Int32) &&& 31).toUInt32).toInt32))]) rfl (lenOf pd11 rfl) (W := 2) rfl (by decide) (by decide) (by decide) at_254 rfl ?_
 intro v24 T24 h24 X24 U24
 obtain ⟨r_24, rfl, rfl, u24_1, u24_2, u24_3⟩ := U24
 show oGoes pp ee bb ss Z T24 (mkF mm 257 _ [.int r_24, .int 1, .ref b21]) _ _ _
 refine o_castore K X24 A23 (by decide) (show (1 : Int32).toNatClampNeg < 2 from (by decide)) G21 (z := (.int r_24)) (congrArg Value.int u24_3) at_257 rfl ?_
 intro T25 h25 X25 W25 A25
 replace A25 : oArr Z h25 b21 k21 .char [.int r_22, .int r_24] := A25
 have n27 := oLz q1.lt (oLe g21)
 have m28 := (((q1.ext E21).other W23 n27).other W25 n27)
 have n29 := oLz q2.lt (oLe g21)
 have m30 := (((q2.ext E21).other W23 n29).other W25 n29)
 have n31 := oLz q3.lt (oLe g21)
 have m32 := (((q3.ext E21).other W23 n31).other W25 n31)
 refine tl_t258_2112 l Z a0 hw i0 i1 i2 i3 i4 i5 cp 0 ar1 kar1 ar2 kar2 ar3 kar3 b21 k21 ca cb da ua r_22 r_24 fm cs h25 m28 m30 m32 A25 q5 q6 q7 q8 u22_1 u24_1 q9 q10 q11 q12 u22_2 u24_2 q13 q14 q15 q16 u22_3 u24_3 q17 q18 q19 q20 (fun v26 h26 U26 => ?_) K (X25.mono (by decide) (by decide))
 obtain rfl : v26 = some (.int 1) := U26
 exact hQ _ _ rfl
def Q_t203_212 (Z : State) (i0 i1 i2 i3 i4 i5 cp cq gd : Int32) (ar1 : Addr) (kar1 : ClassId) (ar2 : Addr) (kar2 : ClassId) (ar3 : Addr) (kar3 : ClassId) (ca cb da ua ub : Int32) (fm : Value) (cs : Int32) (h0 : Heap) (v : Option Value) (h : Heap) : Prop := v = some (.int 1)
theorem tl_t203_212 (l : Launch) (Z : State) (a0 : Array Value) (hw : oHw Z a0) (i0 i1 i2 i3 i4 i5 cp cq gd : Int32) (ar1 : Addr) (kar1 : ClassId) (ar2 : Addr) (kar2 : ClassId) (ar3 : Addr) (kar3 : ClassId) (ca cb da ua ub : Int32) (fm : Value) (cs : Int32) (h0 : Heap) (q0 : (cq = (1 : Int32) ∧ gd = (1 : Int32)) ∨ (cq = (0 : Int32) ∧ gd = (1 : Int32)) ∨ (cq = (0 : Int32) ∧ gd = (2 : Int32))) (q1 : oArr Z h0 ar1 kar1 .char [.int ca, .int cb]) (q2 : oArr Z h0 ar2 kar2 .char [.int da]) (q3 : oArr Z h0 ar3 kar3 .char [.int ua, .int ub]) (q4 : Z.heap.size ≤ ar2) (q5 : oSh ca) (q6 : oSh cb) (q7 : oId da) (q8 : oSh ua) (q9 : oSh ub) (q10 : oCh ca) (q11 : oCh cb) (q12 : oCh da) (q13 : oCh ua) (q14 : oCh ub) (q15 : nar .char ca = ca) (q16 : nar .char cb = cb) (q17 : nar .char da = da) (q18 : nar .char ua = ua) (q19 : nar .char ub = ub) (q20 : Sta Z Z.heap z3 z5 z6 fm) (q21 : fm.isRef = true) (q22 : Sta Z Z.heap z0 z4 "Z" (.int cs)) (q23 : ¬ (cs = (0 : Int32))) {Q : Option Value → Heap → Prop} (hQ : ∀ v h, Q_t203_212 Z i0 i1 i2 i3 i4 i5 cp cq gd ar1 kar1 ar2 kar2 ar3 kar3 ca cb da ua ub fm cs h0 v h → Q v h) {pp : Program} {ee : Env} {ss : State} {mm : MethodId} {bb : List Frame} {mtd : Method} {cc : Code} {A : Array Value} {T0 : State} (K : oCtx pp ss mm mtd cc Z z7 code maxLocals "law" ret x) (X0 : oSt pp l ee room_1 ss mm A bb mtd cc Z T0 h0 3 6) : oGoes pp ee bb ss Z T0 (mkF mm 203 #[vI i0, vI i1, vI i2, vI i3, vI i4, vI i5, vI 2, vI 1, vI cp, vI cq, vI 2, vI gd, vR ar1, vR ar2, vR ar3, uS, uS, uS, uS, uS, uS, uS] []) Q room_1.cells room_1.slots := by
 have E0 := X0.ext0
 rcases q0 with ⟨rfl, rfl⟩ | ⟨rfl, rfl⟩ | ⟨rfl, rfl⟩
 refine o_iload K X0 at_203 rfl rfl ?_
 refine o_newarray K X0 (aty := .char) 1 (w0 hw) (ad := "[C") (by decide +kernel) (by decide) (by decide) (by decide) rfl at_205 rfl (by decide) (by decide) ?_
 intro T1 h1 b1 k1 X1 g1 E1 A1 B1 G1
 replace A1 : oArr Z h1 b1 k1 .char [.int 0] := A1
 refine o_astore K X1 at_207 rfl rfl (L' := #[vI i0, vI i1, vI i2, vI i3, vI i4, vI i5, vI 2, vI 1, vI cp, vI 1, vI 2, vI 1, vR ar1, vR ar2, vR ar3, vR b1, uS, uS, uS, uS, uS, uS]) rfl ?_
 refine o_aload K X1 at_209 rfl rfl rfl ?_
 refine o_iconst K X1 at_211 rfl (z := 0) rfl ?_
 refine o_iload K X1 at_212 rfl rfl ?_
 refine o_if_eq_f K X1 at_214 rfl (by decide) ?_
 refine o_aload K X1 at_217 rfl rfl rfl ?_
 refine o_iconst K X1 at_219 rfl (z := 0) rfl ?_
 have m2 := (q2.ext E1)
 refine o_caload K X1 m2 (by decide) (v := (.int da)) rfl at_220 rfl ?_
 refine o_goto K X1 at_221 (by decide) (pc' := 228) (by decide) ?_
 refine o_castore K X1 A1 (by decide) (show (0 : Int32).toNatClampNeg < 1 from (by decide)) G1 (z := (.int da)) (congrArg Value.int q17) at_228 rfl ?_
 intro T3 h3 X3 W3 A3
 replace A3 : oArr Z h3 b1 k1 .char [.int da] := A3
 refine o_iload K X3 at_229 rfl rfl ?_
 refine o_iconst K X3 at_231 rfl (z := 2) rfl ?_
 refine o_icmp_ne_t K X3 at_232 (by decide) (pc' := 258) (by decide) (by decide) ?_
 have n5 := oLz q1.lt (oLe g1)
 have m6 := ((q1.ext E1).other W3 n5)
 have n7 := oLz q2.lt (oLe g1)
 have m8 := (m2.other W3 n7)
 have n9 := oLz q3.lt (oLe g1)
 have m10 := ((q3.ext E1).other W3 n9)
 refine tl_t258_2121 l Z a0 hw i0 i1 i2 i3 i4 i5 cp 1 ar1 kar1 ar2 kar2 ar3 kar3 b1 k1 ca cb da ua ub da fm cs h3 m6 m8 m10 A3 q5 q6 q7 q8 q9 q7 q10 q11 q12 q13 q14 q12 q15 q16 q17 q18 q19 q17 q20 q21 q22 q23 (fun v4 h4 U4 => ?_) K (X3.mono (by decide) (by decide))
 obtain rfl : v4 = some (.int 1) := U4
 exact hQ _ _ rfl
 refine o_iload K X0 at_203 rfl rfl ?_
 refine o_newarray K X0 (aty := .char) 1 (w0 hw) (ad := "[C") (by decide +kernel) (by decide) (by decide) (by decide) rfl at_205 rfl (by decide) (by decide) ?_
 intro T11 h11 b11 k11 X11 g11 E11 A11 B11 G11
 replace A11 : oArr Z h11 b11 k11 .char [.int 0] := A11
 refine o_astore K X11 at_207 rfl rfl (L' := #[vI i0, vI i1, vI i2, vI i3, vI i4, vI i5, vI 2, vI 1, vI cp, vI 0, vI 2, vI 1, vR ar1, vR ar2, vR ar3, vR b11, uS, uS, uS, uS, uS, uS]) rfl ?_
 refine o_aload K X11 at_209 rfl rfl rfl ?_
 refine o_iconst K X11 at_211 rfl (z := 0) rfl ?_
 refine o_iload K X11 at_212 rfl rfl ?_
 refine o_if_eq_t K X11 at_214 (by decide) (pc' := 224) (by decide) (by decide) ?_
 refine o_iloadN K X11 at_224 rfl rfl ?_
 refine o_static K X11  (w6 hw) (w7 hw) (w3 hw) (w8 hw) (by decide) (rm_idChar l Z a0 hw i3 h11) (by decide) rfl (argsL := [.int i3]) rfl (lenOf pd11 rfl) (W := 2) rfl (by decide) (by decide) (by decide) at_225 rfl ?_
 intro v12 T12 h12 X12 U12
 obtain ⟨r_12, rfl, rfl, u12_1, u12_2, u12_3⟩ := U12
 show oGoes pp ee bb ss Z T12 (mkF mm 228 _ [.int r_12, .int 0, .ref b11]) _ _ _
 refine o_castore K X12 A11 (by decide) (show (0 : Int32).toNatClampNeg < 1 from (by decide)) G11 (z := (.int r_12)) (congrArg Value.int u12_3) at_228 rfl ?_
 intro T13 h13 X13 W13 A13
 replace A13 : oArr Z h13 b11 k11 .char [.int r_12] := A13
 refine o_iload K X13 at_229 rfl rfl ?_
 refine o_iconst K X13 at_231 rfl (z := 2) rfl ?_
 refine o_icmp_ne_t K X13 at_232 (by decide) (pc' := 258) (by decide) (by decide) ?_
 have n15 := oLz q1.lt (oLe g11)
 have m16 := ((q1.ext E11).other W13 n15)
 have n17 := oLz q2.lt (oLe g11)
 have m18 := ((q2.ext E11).other W13 n17)
 have n19 := oLz q3.lt (oLe g11)
 have m20 := ((q3.ext E11).other W13 n19)
 refine tl_t258_2121 l Z a0 hw i0 i1 i2 i3 i4 i5 cp 0 ar1 kar1 ar2 kar2 ar3 kar3 b11 k11 ca cb da ua ub r_12 fm cs h13 m16 m18 m20 A13 q5 q6 q7 q8 q9 u12_1 q10 q11 q12 q13 q14 u12_2 q15 q16 q17 q18 q19 u12_3 q20 q21 q22 q23 (fun v14 h14 U14 => ?_) K (X13.mono (by decide) (by decide))
 obtain rfl : v14 = some (.int 1) := U14
 exact hQ _ _ rfl
 refine o_iload K X0 at_203 rfl rfl ?_
 refine o_newarray K X0 (aty := .char) 2 (w0 hw) (ad := "[C") (by decide +kernel) (by decide) (by decide) (by decide) rfl at_205 rfl (by decide) (by decide) ?_
 intro T21 h21 b21 k21 X21 g21 E21 A21 B21 G21
 replace A21 : oArr Z h21 b21 k21 .char [.int 0, .int 0] := A21
 refine o_astore K X21 at_207 rfl rfl (L' := #[vI i0, vI i1, vI i2, vI i3, vI i4, vI i5, vI 2, vI 1, vI cp, vI 0, vI 2, vI 2, vR ar1, vR ar2, vR ar3, vR b21, uS, uS, uS, uS, uS, uS]) rfl ?_
 refine o_aload K X21 at_209 rfl rfl rfl ?_
 refine o_iconst K X21 at_211 rfl (z := 0) rfl ?_
 refine o_iload K X21 at_212 rfl rfl ?_
 refine o_if_eq_t K X21 at_214 (by decide) (pc' := 224) (by decide) (by decide) ?_
 refine o_iloadN K X21 at_224 rfl rfl ?_
 refine o_static K X21  (w6 hw) (w7 hw) (w3 hw) (w8 hw) (by decide) (rm_idChar l Z a0 hw i3 h21) (by decide) rfl (argsL := [.int i3]) rfl (lenOf pd11 rfl) (W := 2) rfl (by decide) (by decide) (by decide) at_225 rfl ?_
 intro v22 T22 h22 X22 U22
 obtain ⟨r_22, rfl, rfl, u22_1, u22_2, u22_3⟩ := U22
 show oGoes pp ee bb ss Z T22 (mkF mm 228 _ [.int r_22, .int 0, .ref b21]) _ _ _
 refine o_castore K X22 A21 (by decide) (show (0 : Int32).toNatClampNeg < 2 from (by decide)) G21 (z := (.int r_22)) (congrArg Value.int u22_3) at_228 rfl ?_
 intro T23 h23 X23 W23 A23
 replace A23 : oArr Z h23 b21 k21 .char [.int r_22, .int 0] := A23
 refine o_iload K X23 at_229 rfl rfl ?_
 refine o_iconst K X23 at_231 rfl (z := 2) rfl ?_
 refine o_icmp_ne_f K X23 at_232 rfl (by decide) ?_
 refine o_aload K X23 at_235 rfl rfl rfl ?_
 refine o_iconst K X23 at_237 rfl (z := 1) rfl ?_
 refine o_iload K X23 at_238 rfl rfl ?_
 refine o_if_eq_t K X23 at_240 (by decide) (pc' := 250) (by decide) (by decide) ?_
 refine o_iloadN K X23 at_250 rfl rfl ?_
 refine o_bipush K X23 at_251 rfl (z := 16) rfl ?_
 refine o_iushr K X23 at_253 rfl (z := ((i3.toUInt32 >>> ((16 : Int32) &&& 31).toUInt32).toInt32)) rfl ?_
 refine o_static K X23  (w6 hw) (w7 hw) (w3 hw) (w8 hw) (by decide) (rm_idChar l Z a0 hw ((i3.toUInt32 >>> ((16 : Int32) &&& 31).toUInt32).toInt32) h23) (by decide) rfl (argsL := [(.int ((i3.toUInt32 >>> ((16 : Int32) &&& 31).toUInt32).toInt32))]) rfl (lenOf pd11 rfl) (W := 2) rfl (by decide) (by decide) (by decide) at_254 rfl ?_
 intro v24 T24 h24 X24 U24
 obtain ⟨r_24, rfl, rfl, u24_1, u24_2, u24_3⟩ := U24
 show oGoes pp ee bb ss Z T24 (mkF mm 257 _ [.int r_24, .int 1, .ref b21]) _ _ _
 refine o_castore K X24 A23 (by decide) (show (1 : Int32).toNatClampNeg < 2 from (by decide)) G21 (z := (.int r_24)) (congrArg Value.int u24_3) at_257 rfl ?_
 intro T25 h25 X25 W25 A25
 replace A25 : oArr Z h25 b21 k21 .char [.int r_22, .int r_24] := A25
 have n27 := oLz q1.lt (oLe g21)
 have m28 := (((q1.ext E21).other W23 n27).other W25 n27)
 have n29 := oLz q2.lt (oLe g21)
 have m30 := (((q2.ext E21).other W23 n29).other W25 n29)
 have n31 := oLz q3.lt (oLe g21)
 have m32 := (((q3.ext E21).other W23 n31).other W25 n31)
 refine tl_t258_2122 l Z a0 hw i0 i1 i2 i3 i4 i5 cp 0 ar1 kar1 ar2 kar2 ar3 kar3 b21 k21 ca cb da ua ub r_22 r_24 fm cs h25 m28 m30 m32 A25 q5 q6 q7 q8 q9 u22_1 u24_1 q10 q11 q12 q13 q14 u22_2 u24_2 q15 q16 q17 q18 q19 u22_3 u24_3 q20 q21 q22 q23 (fun v26 h26 U26 => ?_) K (X25.mono (by decide) (by decide))
 obtain rfl : v26 = some (.int 1) := U26
 exact hQ _ _ rfl
def Q_t203_221 (Z : State) (i0 i1 i2 i3 i4 i5 cp cq gd : Int32) (ar1 : Addr) (kar1 : ClassId) (ar2 : Addr) (kar2 : ClassId) (ar3 : Addr) (kar3 : ClassId) (ca cb da db ua : Int32) (fm : Value) (cs : Int32) (h0 : Heap) (v : Option Value) (h : Heap) : Prop := v = some (.int 1)
theorem tl_t203_221 (l : Launch) (Z : State) (a0 : Array Value) (hw : oHw Z a0) (i0 i1 i2 i3 i4 i5 cp cq gd : Int32) (ar1 : Addr) (kar1 : ClassId) (ar2 : Addr) (kar2 : ClassId) (ar3 : Addr) (kar3 : ClassId) (ca cb da db ua : Int32) (fm : Value) (cs : Int32) (h0 : Heap) (q0 : (cq = (1 : Int32) ∧ gd = (2 : Int32)) ∨ (cq = (0 : Int32) ∧ gd = (1 : Int32)) ∨ (cq = (0 : Int32) ∧ gd = (2 : Int32))) (q1 : oArr Z h0 ar1 kar1 .char [.int ca, .int cb]) (q2 : oArr Z h0 ar2 kar2 .char [.int da, .int db]) (q3 : oArr Z h0 ar3 kar3 .char [.int ua]) (q4 : Z.heap.size ≤ ar2) (q5 : oSh ca) (q6 : oSh cb) (q7 : oId da) (q8 : oId db) (q9 : oSh ua) (q10 : oCh ca) (q11 : oCh cb) (q12 : oCh da) (q13 : oCh db) (q14 : oCh ua) (q15 : nar .char ca = ca) (q16 : nar .char cb = cb) (q17 : nar .char da = da) (q18 : nar .char db = db) (q19 : nar .char ua = ua) (q20 : Sta Z Z.heap z3 z5 z6 fm) (q21 : fm.isRef = true) (q22 : Sta Z Z.heap z0 z4 "Z" (.int cs)) (q23 : ¬ (cs = (0 : Int32))) {Q : Option Value → Heap → Prop} (hQ : ∀ v h, Q_t203_221 Z i0 i1 i2 i3 i4 i5 cp cq gd ar1 kar1 ar2 kar2 ar3 kar3 ca cb da db ua fm cs h0 v h → Q v h) {pp : Program} {ee : Env} {ss : State} {mm : MethodId} {bb : List Frame} {mtd : Method} {cc : Code} {A : Array Value} {T0 : State} (K : oCtx pp ss mm mtd cc Z z7 code maxLocals "law" ret x) (X0 : oSt pp l ee room_1 ss mm A bb mtd cc Z T0 h0 3 6) : oGoes pp ee bb ss Z T0 (mkF mm 203 #[vI i0, vI i1, vI i2, vI i3, vI i4, vI i5, vI 2, vI 2, vI cp, vI cq, vI 1, vI gd, vR ar1, vR ar2, vR ar3, uS, uS, uS, uS, uS, uS, uS] []) Q room_1.cells room_1.slots := by
 have E0 := X0.ext0
 rcases q0 with ⟨rfl, rfl⟩ | ⟨rfl, rfl⟩ | ⟨rfl, rfl⟩
 refine o_iload K X0 at_203 rfl rfl ?_
 refine o_newarray K X0 (aty := .char) 2 (w0 hw) (ad := "[C") (by decide +kernel) (by decide) (by decide) (by decide) rfl at_205 rfl (by decide) (by decide) ?_
 intro T1 h1 b1 k1 X1 g1 E1 A1 B1 G1
 replace A1 : oArr Z h1 b1 k1 .char [.int 0, .int 0] := A1
 refine o_astore K X1 at_207 rfl rfl (L' := #[vI i0, vI i1, vI i2, vI i3, vI i4, vI i5, vI 2, vI 2, vI cp, vI 1, vI 1, vI 2, vR ar1, vR ar2, vR ar3, vR b1, uS, uS, uS, uS, uS, uS]) rfl ?_
 refine o_aload K X1 at_209 rfl rfl rfl ?_
 refine o_iconst K X1 at_211 rfl (z := 0) rfl ?_
 refine o_iload K X1 at_212 rfl rfl ?_
 refine o_if_eq_f K X1 at_214 rfl (by decide) ?_
 refine o_aload K X1 at_217 rfl rfl rfl ?_
 refine o_iconst K X1 at_219 rfl (z := 0) rfl ?_
 have m2 := (q2.ext E1)
 refine o_caload K X1 m2 (by decide) (v := (.int da)) rfl at_220 rfl ?_
 refine o_goto K X1 at_221 (by decide) (pc' := 228) (by decide) ?_
 refine o_castore K X1 A1 (by decide) (show (0 : Int32).toNatClampNeg < 2 from (by decide)) G1 (z := (.int da)) (congrArg Value.int q17) at_228 rfl ?_
 intro T3 h3 X3 W3 A3
 replace A3 : oArr Z h3 b1 k1 .char [.int da, .int 0] := A3
 refine o_iload K X3 at_229 rfl rfl ?_
 refine o_iconst K X3 at_231 rfl (z := 2) rfl ?_
 refine o_icmp_ne_f K X3 at_232 rfl (by decide) ?_
 refine o_aload K X3 at_235 rfl rfl rfl ?_
 refine o_iconst K X3 at_237 rfl (z := 1) rfl ?_
 refine o_iload K X3 at_238 rfl rfl ?_
 refine o_if_eq_f K X3 at_240 rfl (by decide) ?_
 refine o_aload K X3 at_243 rfl rfl rfl ?_
 refine o_iconst K X3 at_245 rfl (z := 1) rfl ?_
 have n4 := oLz q2.lt (oLe g1)
 have m5 := (m2.other W3 n4)
 refine o_caload K X3 m5 (by decide) (v := (.int db)) rfl at_246 rfl ?_
 refine o_goto K X3 at_247 (by decide) (pc' := 257) (by decide) ?_
 refine o_castore K X3 A3 (by decide) (show (1 : Int32).toNatClampNeg < 2 from (by decide)) G1 (z := (.int db)) (congrArg Value.int q18) at_257 rfl ?_
 intro T6 h6 X6 W6 A6
 replace A6 : oArr Z h6 b1 k1 .char [.int da, .int db] := A6
 have n8 := oLz q1.lt (oLe g1)
 have m9 := (((q1.ext E1).other W3 n8).other W6 n8)
 have m10 := (m5.other W6 n4)
 have n11 := oLz q3.lt (oLe g1)
 have m12 := (((q3.ext E1).other W3 n11).other W6 n11)
 refine tl_t258_2212 l Z a0 hw i0 i1 i2 i3 i4 i5 cp 1 ar1 kar1 ar2 kar2 ar3 kar3 b1 k1 ca cb da db ua da db fm cs h6 m9 m10 m12 A6 q5 q6 q7 q8 q9 q7 q8 q10 q11 q12 q13 q14 q12 q13 q15 q16 q17 q18 q19 q17 q18 q20 q21 q22 q23 (fun v7 h7 U7 => ?_) K (X6.mono (by decide) (by decide))
 obtain rfl : v7 = some (.int 1) := U7
 exact hQ _ _ rfl
 refine o_iload K X0 at_203 rfl rfl ?_
 refine o_newarray K X0 (aty := .char) 1 (w0 hw) (ad := "[C") (by decide +kernel) (by decide) (by decide) (by decide) rfl at_205 rfl (by decide) (by decide) ?_
 intro T13 h13 b13 k13 X13 g13 E13 A13 B13 G13
 replace A13 : oArr Z h13 b13 k13 .char [.int 0] := A13
 refine o_astore K X13 at_207 rfl rfl (L' := #[vI i0, vI i1, vI i2, vI i3, vI i4, vI i5, vI 2, vI 2, vI cp, vI 0, vI 1, vI 1, vR ar1, vR ar2, vR ar3, vR b13, uS, uS, uS, uS, uS, uS]) rfl ?_
 refine o_aload K X13 at_209 rfl rfl rfl ?_
 refine o_iconst K X13 at_211 rfl (z := 0) rfl ?_
 refine o_iload K X13 at_212 rfl rfl ?_
 refine o_if_eq_t K X13 at_214 (by decide) (pc' := 224) (by decide) (by decide) ?_
 refine o_iloadN K X13 at_224 rfl rfl ?_
 refine o_static K X13  (w6 hw) (w7 hw) (w3 hw) (w8 hw) (by decide) (rm_idChar l Z a0 hw i3 h13) (by decide) rfl (argsL := [.int i3]) rfl (lenOf pd11 rfl) (W := 2) rfl (by decide) (by decide) (by decide) at_225 rfl ?_
 intro v14 T14 h14 X14 U14
 obtain ⟨r_14, rfl, rfl, u14_1, u14_2, u14_3⟩ := U14
 show oGoes pp ee bb ss Z T14 (mkF mm 228 _ [.int r_14, .int 0, .ref b13]) _ _ _
 refine o_castore K X14 A13 (by decide) (show (0 : Int32).toNatClampNeg < 1 from (by decide)) G13 (z := (.int r_14)) (congrArg Value.int u14_3) at_228 rfl ?_
 intro T15 h15 X15 W15 A15
 replace A15 : oArr Z h15 b13 k13 .char [.int r_14] := A15
 refine o_iload K X15 at_229 rfl rfl ?_
 refine o_iconst K X15 at_231 rfl (z := 2) rfl ?_
 refine o_icmp_ne_t K X15 at_232 (by decide) (pc' := 258) (by decide) (by decide) ?_
 have n17 := oLz q1.lt (oLe g13)
 have m18 := ((q1.ext E13).other W15 n17)
 have n19 := oLz q2.lt (oLe g13)
 have m20 := ((q2.ext E13).other W15 n19)
 have n21 := oLz q3.lt (oLe g13)
 have m22 := ((q3.ext E13).other W15 n21)
 refine tl_t258_2211 l Z a0 hw i0 i1 i2 i3 i4 i5 cp 0 ar1 kar1 ar2 kar2 ar3 kar3 b13 k13 ca cb da db ua r_14 fm cs h15 m18 m20 m22 A15 q5 q6 q7 q8 q9 u14_1 q10 q11 q12 q13 q14 u14_2 q15 q16 q17 q18 q19 u14_3 q20 q21 q22 q23 (fun v16 h16 U16 => ?_) K (X15.mono (by decide) (by decide))
 obtain rfl : v16 = some (.int 1) := U16
 exact hQ _ _ rfl
 refine o_iload K X0 at_203 rfl rfl ?_
 refine o_newarray K X0 (aty := .char) 2 (w0 hw) (ad := "[C") (by decide +kernel) (by decide) (by decide) (by decide) rfl at_205 rfl (by decide) (by decide) ?_
 intro T23 h23 b23 k23 X23 g23 E23 A23 B23 G23
 replace A23 : oArr Z h23 b23 k23 .char [.int 0, .int 0] := A23
 refine o_astore K X23 at_207 rfl rfl (L' := #[vI i0, vI i1, vI i2, vI i3, vI i4, vI i5, vI 2, vI 2, vI cp, vI 0, vI 1, vI 2, vR ar1, vR ar2, vR ar3, vR b23, uS, uS, uS, uS, uS, uS]) rfl ?_
 refine o_aload K X23 at_209 rfl rfl rfl ?_
 refine o_iconst K X23 at_211 rfl (z := 0) rfl ?_
 refine o_iload K X23 at_212 rfl rfl ?_
 refine o_if_eq_t K X23 at_214 (by decide) (pc' := 224) (by decide) (by decide) ?_
 refine o_iloadN K X23 at_224 rfl rfl ?_
 refine o_static K X23  (w6 hw) (w7 hw) (w3 hw) (w8 hw) (by decide) (rm_idChar l Z a0 hw i3 h23) (by decide) rfl (argsL := [.int i3]) rfl (lenOf pd11 rfl) (W := 2) rfl (by decide) (by decide) (by decide) at_225 rfl ?_
 intro v24 T24 h24 X24 U24
 obtain ⟨r_24, rfl, rfl, u24_1, u24_2, u24_3⟩ := U24
 show oGoes pp ee bb ss Z T24 (mkF mm 228 _ [.int r_24, .int 0, .ref b23]) _ _ _
 refine o_castore K X24 A23 (by decide) (show (0 : Int32).toNatClampNeg < 2 from (by decide)) G23 (z := (.int r_24)) (congrArg Value.int u24_3) at_228 rfl ?_
 intro T25 h25 X25 W25 A25
 replace A25 : oArr Z h25 b23 k23 .char [.int r_24, .int 0] := A25
 refine o_iload K X25 at_229 rfl rfl ?_
 refine o_iconst K X25 at_231 rfl (z := 2) rfl ?_
 refine o_icmp_ne_f K X25 at_232 rfl (by decide) ?_
 refine o_aload K X25 at_235 rfl rfl rfl ?_
 refine o_iconst K X25 at_237 rfl (z := 1) rfl ?_
 refine o_iload K X25 at_238 rfl rfl ?_
 refine o_if_eq_t K X25 at_240 (by decide) (pc' := 250) (by decide) (by decide) ?_
 refine o_iloadN K X25 at_250 rfl rfl ?_
 refine o_bipush K X25 at_251 rfl (z := 16) rfl ?_
 refine o_iushr K X25 at_253 rfl (z := ((i3.toUInt32 >>> ((16 : Int32) &&& 31).toUInt32).toInt32)) rfl ?_
 refine o_static K X25  (w6 hw) (w7 hw) (w3 hw) (w8 hw) (by decide) (rm_idChar l Z a0 hw ((i3.toUInt32 >>> ((16 : Int32) &&& 31).toUInt32).toInt32) h25) (by decide) rfl (argsL := [(.int ((i3.toUInt32 >>> ((16 : Int32) &&& 31).toUInt32).toInt32))]) rfl (lenOf pd11 rfl) (W := 2) rfl (by decide) (by decide) (by decide) at_254 rfl ?_
 intro v26 T26 h26 X26 U26
 obtain ⟨r_26, rfl, rfl, u26_1, u26_2, u26_3⟩ := U26
 show oGoes pp ee bb ss Z T26 (mkF mm 257 _ [.int r_26, .int 1, .ref b23]) _ _ _
 refine o_castore K X26 A25 (by decide) (show (1 : Int32).toNatClampNeg < 2 from (by decide)) G23 (z := (.int r_26)) (congrArg Value.int u26_3) at_257 rfl ?_
 intro T27 h27 X27 W27 A27
 replace A27 : oArr Z h27 b23 k23 .char [.int r_24, .int r_26] := A27
 have n29 := oLz q1.lt (oLe g23)
 have m30 := (((q1.ext E23).other W25 n29).other W27 n29)
 have n31 := oLz q2.lt (oLe g23)
 have m32 := (((q2.ext E23).other W25 n31).other W27 n31)
 have n33 := oLz q3.lt (oLe g23)
 have m34 := (((q3.ext E23).other W25 n33).other W27 n33)
 refine tl_t258_2212 l Z a0 hw i0 i1 i2 i3 i4 i5 cp 0 ar1 kar1 ar2 kar2 ar3 kar3 b23 k23 ca cb da db ua r_24 r_26 fm cs h27 m30 m32 m34 A27 q5 q6 q7 q8 q9 u24_1 u26_1 q10 q11 q12 q13 q14 u24_2 u26_2 q15 q16 q17 q18 q19 u24_3 u26_3 q20 q21 q22 q23 (fun v28 h28 U28 => ?_) K (X27.mono (by decide) (by decide))
 obtain rfl : v28 = some (.int 1) := U28
 exact hQ _ _ rfl
def Q_t203_222 (Z : State) (i0 i1 i2 i3 i4 i5 cp cq gd : Int32) (ar1 : Addr) (kar1 : ClassId) (ar2 : Addr) (kar2 : ClassId) (ar3 : Addr) (kar3 : ClassId) (ca cb da db ua ub : Int32) (fm : Value) (cs : Int32) (h0 : Heap) (v : Option Value) (h : Heap) : Prop := v = some (.int 1)
theorem tl_t203_222 (l : Launch) (Z : State) (a0 : Array Value) (hw : oHw Z a0) (i0 i1 i2 i3 i4 i5 cp cq gd : Int32) (ar1 : Addr) (kar1 : ClassId) (ar2 : Addr) (kar2 : ClassId) (ar3 : Addr) (kar3 : ClassId) (ca cb da db ua ub : Int32) (fm : Value) (cs : Int32) (h0 : Heap) (q0 : (cq = (1 : Int32) ∧ gd = (2 : Int32)) ∨ (cq = (0 : Int32) ∧ gd = (1 : Int32)) ∨ (cq = (0 : Int32) ∧ gd = (2 : Int32))) (q1 : oArr Z h0 ar1 kar1 .char [.int ca, .int cb]) (q2 : oArr Z h0 ar2 kar2 .char [.int da, .int db]) (q3 : oArr Z h0 ar3 kar3 .char [.int ua, .int ub]) (q4 : Z.heap.size ≤ ar2) (q5 : oSh ca) (q6 : oSh cb) (q7 : oId da) (q8 : oId db) (q9 : oSh ua) (q10 : oSh ub) (q11 : oCh ca) (q12 : oCh cb) (q13 : oCh da) (q14 : oCh db) (q15 : oCh ua) (q16 : oCh ub) (q17 : nar .char ca = ca) (q18 : nar .char cb = cb) (q19 : nar .char da = da) (q20 : nar .char db = db) (q21 : nar .char ua = ua) (q22 : nar .char ub = ub) (q23 : Sta Z Z.heap z3 z5 z6 fm) (q24 : fm.isRef = true) (q25 : Sta Z Z.heap z0 z4 "Z" (.int cs)) (q26 : ¬ (cs = (0 : Int32))) {Q : Option Value → Heap → Prop} (hQ : ∀ v h, Q_t203_222 Z i0 i1 i2 i3 i4 i5 cp cq gd ar1 kar1 ar2 kar2 ar3 kar3 ca cb da db ua ub fm cs h0 v h → Q v h) {pp : Program} {ee : Env} {ss : State} {mm : MethodId} {bb : List Frame} {mtd : Method} {cc : Code} {A : Array Value} {T0 : State} (K : oCtx pp ss mm mtd cc Z z7 code maxLocals "law" ret x) (X0 : oSt pp l ee room_1 ss mm A bb mtd cc Z T0 h0 3 6) : oGoes pp ee bb ss Z T0 (mkF mm 203 #[vI i0, vI i1, vI i2, vI i3, vI i4, vI i5, vI 2, vI 2, vI cp, vI cq, vI 2, vI gd, vR ar1, vR ar2, vR ar3, uS, uS, uS, uS, uS, uS, uS] []) Q room_1.cells room_1.slots := by
 have E0 := X0.ext0
 rcases q0 with ⟨rfl, rfl⟩ | ⟨rfl, rfl⟩ | ⟨rfl, rfl⟩
 refine o_iload K X0 at_203 rfl rfl ?_
 refine o_newarray K X0 (aty := .char) 2 (w0 hw) (ad := "[C") (by decide +kernel) (by decide) (by decide) (by decide) rfl at_205 rfl (by decide) (by decide) ?_
 intro T1 h1 b1 k1 X1 g1 E1 A1 B1 G1
 replace A1 : oArr Z h1 b1 k1 .char [.int 0, .int 0] := A1
 refine o_astore K X1 at_207 rfl rfl (L' := #[vI i0, vI i1, vI i2, vI i3, vI i4, vI i5, vI 2, vI 2, vI cp, vI 1, vI 2, vI 2, vR ar1, vR ar2, vR ar3, vR b1, uS, uS, uS, uS, uS, uS]) rfl ?_
 refine o_aload K X1 at_209 rfl rfl rfl ?_
 refine o_iconst K X1 at_211 rfl (z := 0) rfl ?_
 refine o_iload K X1 at_212 rfl rfl ?_
 refine o_if_eq_f K X1 at_214 rfl (by decide) ?_
 refine o_aload K X1 at_217 rfl rfl rfl ?_
 refine o_iconst K X1 at_219 rfl (z := 0) rfl ?_
 have m2 := (q2.ext E1)
 refine o_caload K X1 m2 (by decide) (v := (.int da)) rfl at_220 rfl ?_
 refine o_goto K X1 at_221 (by decide) (pc' := 228) (by decide) ?_
 refine o_castore K X1 A1 (by decide) (show (0 : Int32).toNatClampNeg < 2 from (by decide)) G1 (z := (.int da)) (congrArg Value.int q19) at_228 rfl ?_
 intro T3 h3 X3 W3 A3
 replace A3 : oArr Z h3 b1 k1 .char [.int da, .int 0] := A3
 refine o_iload K X3 at_229 rfl rfl ?_
 refine o_iconst K X3 at_231 rfl (z := 2) rfl ?_
 refine o_icmp_ne_f K X3 at_232 rfl (by decide) ?_
 refine o_aload K X3 at_235 rfl rfl rfl ?_
 refine o_iconst K X3 at_237 rfl (z := 1) rfl ?_
 refine o_iload K X3 at_238 rfl rfl ?_
 refine o_if_eq_f K X3 at_240 rfl (by decide) ?_
 refine o_aload K X3 at_243 rfl rfl rfl ?_
 refine o_iconst K X3 at_245 rfl (z := 1) rfl ?_
 have n4 := oLz q2.lt (oLe g1)
 have m5 := (m2.other W3 n4)
 refine o_caload K X3 m5 (by decide) (v := (.int db)) rfl at_246 rfl ?_
 refine o_goto K X3 at_247 (by decide) (pc' := 257) (by decide) ?_
 refine o_castore K X3 A3 (by decide) (show (1 : Int32).toNatClampNeg < 2 from (by decide)) G1 (z := (.int db)) (congrArg Value.int q20) at_257 rfl ?_
 intro T6 h6 X6 W6 A6
 replace A6 : oArr Z h6 b1 k1 .char [.int da, .int db] := A6
 have n8 := oLz q1.lt (oLe g1)
 have m9 := (((q1.ext E1).other W3 n8).other W6 n8)
 have m10 := (m5.other W6 n4)
 have n11 := oLz q3.lt (oLe g1)
 have m12 := (((q3.ext E1).other W3 n11).other W6 n11)
 refine tl_t258_2222 l Z a0 hw i0 i1 i2 i3 i4 i5 cp 1 ar1 kar1 ar2 kar2 ar3 kar3 b1 k1 ca cb da db ua ub da db fm cs h6 m9 m10 m12 A6 q5 q6 q7 q8 q9 q10 q7 q8 q11 q12 q13 q14 q15 q16 q13 q14 q17 q18 q19 q20 q21 q22 q19 q20 q23 q24 q25 q26 (fun v7 h7 U7 => ?_) K (X6.mono (by decide) (by decide))
 obtain rfl : v7 = some (.int 1) := U7
 exact hQ _ _ rfl
 refine o_iload K X0 at_203 rfl rfl ?_
 refine o_newarray K X0 (aty := .char) 1 (w0 hw) (ad := "[C") (by decide +kernel) (by decide) (by decide) (by decide) rfl at_205 rfl (by decide) (by decide) ?_
 intro T13 h13 b13 k13 X13 g13 E13 A13 B13 G13
 replace A13 : oArr Z h13 b13 k13 .char [.int 0] := A13
 refine o_astore K X13 at_207 rfl rfl (L' := #[vI i0, vI i1, vI i2, vI i3, vI i4, vI i5, vI 2, vI 2, vI cp, vI 0, vI 2, vI 1, vR ar1, vR ar2, vR ar3, vR b13, uS, uS, uS, uS, uS, uS]) rfl ?_
 refine o_aload K X13 at_209 rfl rfl rfl ?_
 refine o_iconst K X13 at_211 rfl (z := 0) rfl ?_
 refine o_iload K X13 at_212 rfl rfl ?_
 refine o_if_eq_t K X13 at_214 (by decide) (pc' := 224) (by decide) (by decide) ?_
 refine o_iloadN K X13 at_224 rfl rfl ?_
 refine o_static K X13  (w6 hw) (w7 hw) (w3 hw) (w8 hw) (by decide) (rm_idChar l Z a0 hw i3 h13) (by decide) rfl (argsL := [.int i3]) rfl (lenOf pd11 rfl) (W := 2) rfl (by decide) (by decide) (by decide) at_225 rfl ?_
 intro v14 T14 h14 X14 U14
 obtain ⟨r_14, rfl, rfl, u14_1, u14_2, u14_3⟩ := U14
 show oGoes pp ee bb ss Z T14 (mkF mm 228 _ [.int r_14, .int 0, .ref b13]) _ _ _
 refine o_castore K X14 A13 (by decide) (show (0 : Int32).toNatClampNeg < 1 from (by decide)) G13 (z := (.int r_14)) (congrArg Value.int u14_3) at_228 rfl ?_
 intro T15 h15 X15 W15 A15
 replace A15 : oArr Z h15 b13 k13 .char [.int r_14] := A15
 refine o_iload K X15 at_229 rfl rfl ?_
 refine o_iconst K X15 at_231 rfl (z := 2) rfl ?_
 refine o_icmp_ne_t K X15 at_232 (by decide) (pc' := 258) (by decide) (by decide) ?_
 have n17 := oLz q1.lt (oLe g13)
 have m18 := ((q1.ext E13).other W15 n17)
 have n19 := oLz q2.lt (oLe g13)
 have m20 := ((q2.ext E13).other W15 n19)
 have n21 := oLz q3.lt (oLe g13)
 have m22 := ((q3.ext E13).other W15 n21)
 refine tl_t258_2221 l Z a0 hw i0 i1 i2 i3 i4 i5 cp 0 ar1 kar1 ar2 kar2 ar3 kar3 b13 k13 ca cb da db ua ub r_14 fm cs h15 m18 m20 m22 A15 q5 q6 q7 q8 q9 q10 u14_1 q11 q12 q13 q14 q15 q16 u14_2 q17 q18 q19 q20 q21 q22 u14_3 q23 q24 q25 q26 (fun v16 h16 U16 => ?_) K (X15.mono (by decide) (by decide))
 obtain rfl : v16 = some (.int 1) := U16
 exact hQ _ _ rfl
 refine o_iload K X0 at_203 rfl rfl ?_
 refine o_newarray K X0 (aty := .char) 2 (w0 hw) (ad := "[C") (by decide +kernel) (by decide) (by decide) (by decide) rfl at_205 rfl (by decide) (by decide) ?_
 intro T23 h23 b23 k23 X23 g23 E23 A23 B23 G23
 replace A23 : oArr Z h23 b23 k23 .char [.int 0, .int 0] := A23
 refine o_astore K X23 at_207 rfl rfl (L' := #[vI i0, vI i1, vI i2, vI i3, vI i4, vI i5, vI 2, vI 2, vI cp, vI 0, vI 2, vI 2, vR ar1, vR ar2, vR ar3, vR b23, uS, uS, uS, uS, uS, uS]) rfl ?_
 refine o_aload K X23 at_209 rfl rfl rfl ?_
 refine o_iconst K X23 at_211 rfl (z := 0) rfl ?_
 refine o_iload K X23 at_212 rfl rfl ?_
 refine o_if_eq_t K X23 at_214 (by decide) (pc' := 224) (by decide) (by decide) ?_
 refine o_iloadN K X23 at_224 rfl rfl ?_
 refine o_static K X23  (w6 hw) (w7 hw) (w3 hw) (w8 hw) (by decide) (rm_idChar l Z a0 hw i3 h23) (by decide) rfl (argsL := [.int i3]) rfl (lenOf pd11 rfl) (W := 2) rfl (by decide) (by decide) (by decide) at_225 rfl ?_
 intro v24 T24 h24 X24 U24
 obtain ⟨r_24, rfl, rfl, u24_1, u24_2, u24_3⟩ := U24
 show oGoes pp ee bb ss Z T24 (mkF mm 228 _ [.int r_24, .int 0, .ref b23]) _ _ _
 refine o_castore K X24 A23 (by decide) (show (0 : Int32).toNatClampNeg < 2 from (by decide)) G23 (z := (.int r_24)) (congrArg Value.int u24_3) at_228 rfl ?_
 intro T25 h25 X25 W25 A25
 replace A25 : oArr Z h25 b23 k23 .char [.int r_24, .int 0] := A25
 refine o_iload K X25 at_229 rfl rfl ?_
 refine o_iconst K X25 at_231 rfl (z := 2) rfl ?_
 refine o_icmp_ne_f K X25 at_232 rfl (by decide) ?_
 refine o_aload K X25 at_235 rfl rfl rfl ?_
 refine o_iconst K X25 at_237 rfl (z := 1) rfl ?_
 refine o_iload K X25 at_238 rfl rfl ?_
 refine o_if_eq_t K X25 at_240 (by decide) (pc' := 250) (by decide) (by decide) ?_
 refine o_iloadN K X25 at_250 rfl rfl ?_
 refine o_bipush K X25 at_251 rfl (z := 16) rfl ?_
 refine o_iushr K X25 at_253 rfl (z := ((i3.toUInt32 >>> ((16 : Int32) &&& 31).toUInt32).toInt32)) rfl ?_
 refine o_static K X25  (w6 hw) (w7 hw) (w3 hw) (w8 hw) (by decide) (rm_idChar l Z a0 hw ((i3.toUInt32 >>> ((16 : Int32) &&& 31).toUInt32).toInt32) h25) (by decide) rfl (argsL := [(.int ((i3.toUInt32 >>> ((16 : Int32) &&& 31).toUInt32).toInt32))]) rfl (lenOf pd11 rfl) (W := 2) rfl (by decide) (by decide) (by decide) at_254 rfl ?_
 intro v26 T26 h26 X26 U26
 obtain ⟨r_26, rfl, rfl, u26_1, u26_2, u26_3⟩ := U26
 show oGoes pp ee bb ss Z T26 (mkF mm 257 _ [.int r_26, .int 1, .ref b23]) _ _ _
 refine o_castore K X26 A25 (by decide) (show (1 : Int32).toNatClampNeg < 2 from (by decide)) G23 (z := (.int r_26)) (congrArg Value.int u26_3) at_257 rfl ?_
 intro T27 h27 X27 W27 A27
 replace A27 : oArr Z h27 b23 k23 .char [.int r_24, .int r_26] := A27
 have n29 := oLz q1.lt (oLe g23)
 have m30 := (((q1.ext E23).other W25 n29).other W27 n29)
 have n31 := oLz q2.lt (oLe g23)
 have m32 := (((q2.ext E23).other W25 n31).other W27 n31)
 have n33 := oLz q3.lt (oLe g23)
 have m34 := (((q3.ext E23).other W25 n33).other W27 n33)
 refine tl_t258_2222 l Z a0 hw i0 i1 i2 i3 i4 i5 cp 0 ar1 kar1 ar2 kar2 ar3 kar3 b23 k23 ca cb da db ua ub r_24 r_26 fm cs h27 m30 m32 m34 A27 q5 q6 q7 q8 q9 q10 u24_1 u26_1 q11 q12 q13 q14 q15 q16 u24_2 u26_2 q17 q18 q19 q20 q21 q22 u24_3 u26_3 q23 q24 q25 q26 (fun v28 h28 U28 => ?_) K (X27.mono (by decide) (by decide))
 obtain rfl : v28 = some (.int 1) := U28
 exact hQ _ _ rfl
def Q_t148_11 (Z : State) (i0 i1 i2 i3 i4 i5 cp cq gc gd : Int32) (ar1 : Addr) (kar1 : ClassId) (ar2 : Addr) (kar2 : ClassId) (ca da : Int32) (fm : Value) (cs : Int32) (h0 : Heap) (v : Option Value) (h : Heap) : Prop := v = some (.int 1)
theorem tl_t148_11 (l : Launch) (Z : State) (a0 : Array Value) (hw : oHw Z a0) (i0 i1 i2 i3 i4 i5 cp cq gc gd : Int32) (ar1 : Addr) (kar1 : ClassId) (ar2 : Addr) (kar2 : ClassId) (ca da : Int32) (fm : Value) (cs : Int32) (h0 : Heap) (q0 : (cp = (1 : Int32) ∧ gc = (1 : Int32)) ∨ (cp = (0 : Int32) ∧ gc = (1 : Int32)) ∨ (cp = (0 : Int32) ∧ gc = (2 : Int32))) (q1 : (cq = (1 : Int32) ∧ gd = (1 : Int32)) ∨ (cq = (0 : Int32) ∧ gd = (1 : Int32)) ∨ (cq = (0 : Int32) ∧ gd = (2 : Int32))) (q2 : oArr Z h0 ar1 kar1 .char [.int ca]) (q3 : oArr Z h0 ar2 kar2 .char [.int da]) (q4 : Z.heap.size ≤ ar1) (q5 : Z.heap.size ≤ ar2) (q6 : oSh ca) (q7 : oId da) (q8 : oCh ca) (q9 : oCh da) (q10 : nar .char ca = ca) (q11 : nar .char da = da) (q12 : Sta Z Z.heap z3 z5 z6 fm) (q13 : fm.isRef = true) (q14 : Sta Z Z.heap z0 z4 "Z" (.int cs)) (q15 : ¬ (cs = (0 : Int32))) {Q : Option Value → Heap → Prop} (hQ : ∀ v h, Q_t148_11 Z i0 i1 i2 i3 i4 i5 cp cq gc gd ar1 kar1 ar2 kar2 ca da fm cs h0 v h → Q v h) {pp : Program} {ee : Env} {ss : State} {mm : MethodId} {bb : List Frame} {mtd : Method} {cc : Code} {A : Array Value} {T0 : State} (K : oCtx pp ss mm mtd cc Z z7 code maxLocals "law" ret x) (X0 : oSt pp l ee room_1 ss mm A bb mtd cc Z T0 h0 2 4) : oGoes pp ee bb ss Z T0 (mkF mm 148 #[vI i0, vI i1, vI i2, vI i3, vI i4, vI i5, vI 1, vI 1, vI cp, vI cq, vI gc, vI gd, vR ar1, vR ar2, uS, uS, uS, uS, uS, uS, uS, uS] []) Q room_1.cells room_1.slots := by
 have E0 := X0.ext0
 rcases q0 with ⟨rfl, rfl⟩ | ⟨rfl, rfl⟩ | ⟨rfl, rfl⟩
 refine o_iload K X0 at_148 rfl rfl ?_
 refine o_newarray K X0 (aty := .char) 1 (w0 hw) (ad := "[C") (by decide +kernel) (by decide) (by decide) (by decide) rfl at_150 rfl (by decide) (by decide) ?_
 intro T1 h1 b1 k1 X1 g1 E1 A1 B1 G1
 replace A1 : oArr Z h1 b1 k1 .char [.int 0] := A1
 refine o_astore K X1 at_152 rfl rfl (L' := #[vI i0, vI i1, vI i2, vI i3, vI i4, vI i5, vI 1, vI 1, vI 1, vI cq, vI 1, vI gd, vR ar1, vR ar2, vR b1, uS, uS, uS, uS, uS, uS, uS]) rfl ?_
 refine o_aload K X1 at_154 rfl rfl rfl ?_
 refine o_iconst K X1 at_156 rfl (z := 0) rfl ?_
 refine o_iload K X1 at_157 rfl rfl ?_
 refine o_if_eq_f K X1 at_159 rfl (by decide) ?_
 refine o_aload K X1 at_162 rfl rfl rfl ?_
 refine o_iconst K X1 at_164 rfl (z := 0) rfl ?_
 have m2 := (q2.ext E1)
 refine o_caload K X1 m2 (by decide) (v := (.int ca)) rfl at_165 rfl ?_
 refine o_goto K X1 at_166 (by decide) (pc' := 173) (by decide) ?_
 refine o_castore K X1 A1 (by decide) (show (0 : Int32).toNatClampNeg < 1 from (by decide)) G1 (z := (.int ca)) (congrArg Value.int q10) at_173 rfl ?_
 intro T3 h3 X3 W3 A3
 replace A3 : oArr Z h3 b1 k1 .char [.int ca] := A3
 refine o_iload K X3 at_174 rfl rfl ?_
 refine o_iconst K X3 at_176 rfl (z := 2) rfl ?_
 refine o_icmp_ne_t K X3 at_177 (by decide) (pc' := 203) (by decide) (by decide) ?_
 have n5 := oLz q2.lt (oLe g1)
 have m6 := (m2.other W3 n5)
 have n7 := oLz q3.lt (oLe g1)
 have m8 := ((q3.ext E1).other W3 n7)
 refine tl_t203_111 l Z a0 hw i0 i1 i2 i3 i4 i5 1 cq gd ar1 kar1 ar2 kar2 b1 k1 ca da ca fm cs h3 q1 m6 m8 A3 q5 q6 q7 q6 q8 q9 q8 q10 q11 q10 q12 q13 q14 q15 (fun v4 h4 U4 => ?_) K (X3.mono (by decide) (by decide))
 obtain rfl : v4 = some (.int 1) := U4
 exact hQ _ _ rfl
 refine o_iload K X0 at_148 rfl rfl ?_
 refine o_newarray K X0 (aty := .char) 1 (w0 hw) (ad := "[C") (by decide +kernel) (by decide) (by decide) (by decide) rfl at_150 rfl (by decide) (by decide) ?_
 intro T9 h9 b9 k9 X9 g9 E9 A9 B9 G9
 replace A9 : oArr Z h9 b9 k9 .char [.int 0] := A9
 refine o_astore K X9 at_152 rfl rfl (L' := #[vI i0, vI i1, vI i2, vI i3, vI i4, vI i5, vI 1, vI 1, vI 0, vI cq, vI 1, vI gd, vR ar1, vR ar2, vR b9, uS, uS, uS, uS, uS, uS, uS]) rfl ?_
 refine o_aload K X9 at_154 rfl rfl rfl ?_
 refine o_iconst K X9 at_156 rfl (z := 0) rfl ?_
 refine o_iload K X9 at_157 rfl rfl ?_
 refine o_if_eq_t K X9 at_159 (by decide) (pc' := 169) (by decide) (by decide) ?_
 refine o_iloadN K X9 at_169 rfl rfl ?_
 refine o_static K X9  (w1 hw) (w2 hw) (w3 hw) (w4 hw) (by decide) (rm_shelfChar l Z a0 hw i2 h9) (by decide) rfl (argsL := [.int i2]) rfl (lenOf pd11 rfl) (W := 2) rfl (by decide) (by decide) (by decide) at_170 rfl ?_
 intro v10 T10 h10 X10 U10
 obtain ⟨r_10, rfl, rfl, u10_1, u10_2, u10_3⟩ := U10
 show oGoes pp ee bb ss Z T10 (mkF mm 173 _ [.int r_10, .int 0, .ref b9]) _ _ _
 refine o_castore K X10 A9 (by decide) (show (0 : Int32).toNatClampNeg < 1 from (by decide)) G9 (z := (.int r_10)) (congrArg Value.int u10_3) at_173 rfl ?_
 intro T11 h11 X11 W11 A11
 replace A11 : oArr Z h11 b9 k9 .char [.int r_10] := A11
 refine o_iload K X11 at_174 rfl rfl ?_
 refine o_iconst K X11 at_176 rfl (z := 2) rfl ?_
 refine o_icmp_ne_t K X11 at_177 (by decide) (pc' := 203) (by decide) (by decide) ?_
 have n13 := oLz q2.lt (oLe g9)
 have m14 := ((q2.ext E9).other W11 n13)
 have n15 := oLz q3.lt (oLe g9)
 have m16 := ((q3.ext E9).other W11 n15)
 refine tl_t203_111 l Z a0 hw i0 i1 i2 i3 i4 i5 0 cq gd ar1 kar1 ar2 kar2 b9 k9 ca da r_10 fm cs h11 q1 m14 m16 A11 q5 q6 q7 u10_1 q8 q9 u10_2 q10 q11 u10_3 q12 q13 q14 q15 (fun v12 h12 U12 => ?_) K (X11.mono (by decide) (by decide))
 obtain rfl : v12 = some (.int 1) := U12
 exact hQ _ _ rfl
 refine o_iload K X0 at_148 rfl rfl ?_
 refine o_newarray K X0 (aty := .char) 2 (w0 hw) (ad := "[C") (by decide +kernel) (by decide) (by decide) (by decide) rfl at_150 rfl (by decide) (by decide) ?_
 intro T17 h17 b17 k17 X17 g17 E17 A17 B17 G17
 replace A17 : oArr Z h17 b17 k17 .char [.int 0, .int 0] := A17
 refine o_astore K X17 at_152 rfl rfl (L' := #[vI i0, vI i1, vI i2, vI i3, vI i4, vI i5, vI 1, vI 1, vI 0, vI cq, vI 2, vI gd, vR ar1, vR ar2, vR b17, uS, uS, uS, uS, uS, uS, uS]) rfl ?_
 refine o_aload K X17 at_154 rfl rfl rfl ?_
 refine o_iconst K X17 at_156 rfl (z := 0) rfl ?_
 refine o_iload K X17 at_157 rfl rfl ?_
 refine o_if_eq_t K X17 at_159 (by decide) (pc' := 169) (by decide) (by decide) ?_
 refine o_iloadN K X17 at_169 rfl rfl ?_
 refine o_static K X17  (w1 hw) (w2 hw) (w3 hw) (w4 hw) (by decide) (rm_shelfChar l Z a0 hw i2 h17) (by decide) rfl (argsL := [.int i2]) rfl (lenOf pd11 rfl) (W := 2) rfl (by decide) (by decide) (by decide) at_170 rfl ?_
 intro v18 T18 h18 X18 U18
 obtain ⟨r_18, rfl, rfl, u18_1, u18_2, u18_3⟩ := U18
 show oGoes pp ee bb ss Z T18 (mkF mm 173 _ [.int r_18, .int 0, .ref b17]) _ _ _
 refine o_castore K X18 A17 (by decide) (show (0 : Int32).toNatClampNeg < 2 from (by decide)) G17 (z := (.int r_18)) (congrArg Value.int u18_3) at_173 rfl ?_
 intro T19 h19 X19 W19 A19
 replace A19 : oArr Z h19 b17 k17 .char [.int r_18, .int 0] := A19
 refine o_iload K X19 at_174 rfl rfl ?_
 refine o_iconst K X19 at_176 rfl (z := 2) rfl ?_
 refine o_icmp_ne_f K X19 at_177 rfl (by decide) ?_
 refine o_aload K X19 at_180 rfl rfl rfl ?_
 refine o_iconst K X19 at_182 rfl (z := 1) rfl ?_
 refine o_iload K X19 at_183 rfl rfl ?_
 refine o_if_eq_t K X19 at_185 (by decide) (pc' := 195) (by decide) (by decide) ?_
 refine o_iloadN K X19 at_195 rfl rfl ?_
 refine o_bipush K X19 at_196 rfl (z := 16) rfl ?_
 refine o_iushr K X19 at_198 rfl (z := ((i2.toUInt32 >>> ((16 : Int32) &&& 31).toUInt32).toInt32)) rfl ?_
 refine o_static K X19  (w1 hw) (w2 hw) (w3 hw) (w4 hw) (by decide) (rm_shelfChar l Z a0 hw ((i2.toUInt32 >>> ((16 : Int32) &&& 31).toUInt32).toInt32) h19) (by decide) rfl (argsL := [(.int ((i2.toUInt32 >>> ((16 : Int32) &&& 31).toUInt32).toInt32))]) rfl (lenOf pd11 rfl) (W := 2) rfl (by decide) (by decide) (by decide) at_199 rfl ?_
 intro v20 T20 h20 X20 U20
 obtain ⟨r_20, rfl, rfl, u20_1, u20_2, u20_3⟩ := U20
 show oGoes pp ee bb ss Z T20 (mkF mm 202 _ [.int r_20, .int 1, .ref b17]) _ _ _
 refine o_castore K X20 A19 (by decide) (show (1 : Int32).toNatClampNeg < 2 from (by decide)) G17 (z := (.int r_20)) (congrArg Value.int u20_3) at_202 rfl ?_
 intro T21 h21 X21 W21 A21
 replace A21 : oArr Z h21 b17 k17 .char [.int r_18, .int r_20] := A21
 have n23 := oLz q2.lt (oLe g17)
 have m24 := (((q2.ext E17).other W19 n23).other W21 n23)
 have n25 := oLz q3.lt (oLe g17)
 have m26 := (((q3.ext E17).other W19 n25).other W21 n25)
 refine tl_t203_112 l Z a0 hw i0 i1 i2 i3 i4 i5 0 cq gd ar1 kar1 ar2 kar2 b17 k17 ca da r_18 r_20 fm cs h21 q1 m24 m26 A21 q5 q6 q7 u18_1 u20_1 q8 q9 u18_2 u20_2 q10 q11 u18_3 u20_3 q12 q13 q14 q15 (fun v22 h22 U22 => ?_) K (X21.mono (by decide) (by decide))
 obtain rfl : v22 = some (.int 1) := U22
 exact hQ _ _ rfl
def Q_t148_12 (Z : State) (i0 i1 i2 i3 i4 i5 cp cq gc gd : Int32) (ar1 : Addr) (kar1 : ClassId) (ar2 : Addr) (kar2 : ClassId) (ca da db : Int32) (fm : Value) (cs : Int32) (h0 : Heap) (v : Option Value) (h : Heap) : Prop := v = some (.int 1)
theorem tl_t148_12 (l : Launch) (Z : State) (a0 : Array Value) (hw : oHw Z a0) (i0 i1 i2 i3 i4 i5 cp cq gc gd : Int32) (ar1 : Addr) (kar1 : ClassId) (ar2 : Addr) (kar2 : ClassId) (ca da db : Int32) (fm : Value) (cs : Int32) (h0 : Heap) (q0 : (cp = (1 : Int32) ∧ gc = (1 : Int32)) ∨ (cp = (0 : Int32) ∧ gc = (1 : Int32)) ∨ (cp = (0 : Int32) ∧ gc = (2 : Int32))) (q1 : (cq = (1 : Int32) ∧ gd = (2 : Int32)) ∨ (cq = (0 : Int32) ∧ gd = (1 : Int32)) ∨ (cq = (0 : Int32) ∧ gd = (2 : Int32))) (q2 : oArr Z h0 ar1 kar1 .char [.int ca]) (q3 : oArr Z h0 ar2 kar2 .char [.int da, .int db]) (q4 : Z.heap.size ≤ ar1) (q5 : Z.heap.size ≤ ar2) (q6 : oSh ca) (q7 : oId da) (q8 : oId db) (q9 : oCh ca) (q10 : oCh da) (q11 : oCh db) (q12 : nar .char ca = ca) (q13 : nar .char da = da) (q14 : nar .char db = db) (q15 : Sta Z Z.heap z3 z5 z6 fm) (q16 : fm.isRef = true) (q17 : Sta Z Z.heap z0 z4 "Z" (.int cs)) (q18 : ¬ (cs = (0 : Int32))) {Q : Option Value → Heap → Prop} (hQ : ∀ v h, Q_t148_12 Z i0 i1 i2 i3 i4 i5 cp cq gc gd ar1 kar1 ar2 kar2 ca da db fm cs h0 v h → Q v h) {pp : Program} {ee : Env} {ss : State} {mm : MethodId} {bb : List Frame} {mtd : Method} {cc : Code} {A : Array Value} {T0 : State} (K : oCtx pp ss mm mtd cc Z z7 code maxLocals "law" ret x) (X0 : oSt pp l ee room_1 ss mm A bb mtd cc Z T0 h0 2 4) : oGoes pp ee bb ss Z T0 (mkF mm 148 #[vI i0, vI i1, vI i2, vI i3, vI i4, vI i5, vI 1, vI 2, vI cp, vI cq, vI gc, vI gd, vR ar1, vR ar2, uS, uS, uS, uS, uS, uS, uS, uS] []) Q room_1.cells room_1.slots := by
 have E0 := X0.ext0
 rcases q0 with ⟨rfl, rfl⟩ | ⟨rfl, rfl⟩ | ⟨rfl, rfl⟩
 refine o_iload K X0 at_148 rfl rfl ?_
 refine o_newarray K X0 (aty := .char) 1 (w0 hw) (ad := "[C") (by decide +kernel) (by decide) (by decide) (by decide) rfl at_150 rfl (by decide) (by decide) ?_
 intro T1 h1 b1 k1 X1 g1 E1 A1 B1 G1
 replace A1 : oArr Z h1 b1 k1 .char [.int 0] := A1
 refine o_astore K X1 at_152 rfl rfl (L' := #[vI i0, vI i1, vI i2, vI i3, vI i4, vI i5, vI 1, vI 2, vI 1, vI cq, vI 1, vI gd, vR ar1, vR ar2, vR b1, uS, uS, uS, uS, uS, uS, uS]) rfl ?_
 refine o_aload K X1 at_154 rfl rfl rfl ?_
 refine o_iconst K X1 at_156 rfl (z := 0) rfl ?_
 refine o_iload K X1 at_157 rfl rfl ?_
 refine o_if_eq_f K X1 at_159 rfl (by decide) ?_
 refine o_aload K X1 at_162 rfl rfl rfl ?_
 refine o_iconst K X1 at_164 rfl (z := 0) rfl ?_
 have m2 := (q2.ext E1)
 refine o_caload K X1 m2 (by decide) (v := (.int ca)) rfl at_165 rfl ?_
 refine o_goto K X1 at_166 (by decide) (pc' := 173) (by decide) ?_
 refine o_castore K X1 A1 (by decide) (show (0 : Int32).toNatClampNeg < 1 from (by decide)) G1 (z := (.int ca)) (congrArg Value.int q12) at_173 rfl ?_
 intro T3 h3 X3 W3 A3
 replace A3 : oArr Z h3 b1 k1 .char [.int ca] := A3
 refine o_iload K X3 at_174 rfl rfl ?_
 refine o_iconst K X3 at_176 rfl (z := 2) rfl ?_
 refine o_icmp_ne_t K X3 at_177 (by decide) (pc' := 203) (by decide) (by decide) ?_
 have n5 := oLz q2.lt (oLe g1)
 have m6 := (m2.other W3 n5)
 have n7 := oLz q3.lt (oLe g1)
 have m8 := ((q3.ext E1).other W3 n7)
 refine tl_t203_121 l Z a0 hw i0 i1 i2 i3 i4 i5 1 cq gd ar1 kar1 ar2 kar2 b1 k1 ca da db ca fm cs h3 q1 m6 m8 A3 q5 q6 q7 q8 q6 q9 q10 q11 q9 q12 q13 q14 q12 q15 q16 q17 q18 (fun v4 h4 U4 => ?_) K (X3.mono (by decide) (by decide))
 obtain rfl : v4 = some (.int 1) := U4
 exact hQ _ _ rfl
 refine o_iload K X0 at_148 rfl rfl ?_
 refine o_newarray K X0 (aty := .char) 1 (w0 hw) (ad := "[C") (by decide +kernel) (by decide) (by decide) (by decide) rfl at_150 rfl (by decide) (by decide) ?_
 intro T9 h9 b9 k9 X9 g9 E9 A9 B9 G9
 replace A9 : oArr Z h9 b9 k9 .char [.int 0] := A9
 refine o_astore K X9 at_152 rfl rfl (L' := #[vI i0, vI i1, vI i2, vI i3, vI i4, vI i5, vI 1, vI 2, vI 0, vI cq, vI 1, vI gd, vR ar1, vR ar2, vR b9, uS, uS, uS, uS, uS, uS, uS]) rfl ?_
 refine o_aload K X9 at_154 rfl rfl rfl ?_
 refine o_iconst K X9 at_156 rfl (z := 0) rfl ?_
 refine o_iload K X9 at_157 rfl rfl ?_
 refine o_if_eq_t K X9 at_159 (by decide) (pc' := 169) (by decide) (by decide) ?_
 refine o_iloadN K X9 at_169 rfl rfl ?_
 refine o_static K X9  (w1 hw) (w2 hw) (w3 hw) (w4 hw) (by decide) (rm_shelfChar l Z a0 hw i2 h9) (by decide) rfl (argsL := [.int i2]) rfl (lenOf pd11 rfl) (W := 2) rfl (by decide) (by decide) (by decide) at_170 rfl ?_
 intro v10 T10 h10 X10 U10
 obtain ⟨r_10, rfl, rfl, u10_1, u10_2, u10_3⟩ := U10
 show oGoes pp ee bb ss Z T10 (mkF mm 173 _ [.int r_10, .int 0, .ref b9]) _ _ _
 refine o_castore K X10 A9 (by decide) (show (0 : Int32).toNatClampNeg < 1 from (by decide)) G9 (z := (.int r_10)) (congrArg Value.int u10_3) at_173 rfl ?_
 intro T11 h11 X11 W11 A11
 replace A11 : oArr Z h11 b9 k9 .char [.int r_10] := A11
 refine o_iload K X11 at_174 rfl rfl ?_
 refine o_iconst K X11 at_176 rfl (z := 2) rfl ?_
 refine o_icmp_ne_t K X11 at_177 (by decide) (pc' := 203) (by decide) (by decide) ?_
 have n13 := oLz q2.lt (oLe g9)
 have m14 := ((q2.ext E9).other W11 n13)
 have n15 := oLz q3.lt (oLe g9)
 have m16 := ((q3.ext E9).other W11 n15)
 refine tl_t203_121 l Z a0 hw i0 i1 i2 i3 i4 i5 0 cq gd ar1 kar1 ar2 kar2 b9 k9 ca da db r_10 fm cs h11 q1 m14 m16 A11 q5 q6 q7 q8 u10_1 q9 q10 q11 u10_2 q12 q13 q14 u10_3 q15 q16 q17 q18 (fun v12 h12 U12 => ?_) K (X11.mono (by decide) (by decide))
 obtain rfl : v12 = some (.int 1) := U12
 exact hQ _ _ rfl
 refine o_iload K X0 at_148 rfl rfl ?_
 refine o_newarray K X0 (aty := .char) 2 (w0 hw) (ad := "[C") (by decide +kernel) (by decide) (by decide) (by decide) rfl at_150 rfl (by decide) (by decide) ?_
 intro T17 h17 b17 k17 X17 g17 E17 A17 B17 G17
 replace A17 : oArr Z h17 b17 k17 .char [.int 0, .int 0] := A17
 refine o_astore K X17 at_152 rfl rfl (L' := #[vI i0, vI i1, vI i2, vI i3, vI i4, vI i5, vI 1, vI 2, vI 0, vI cq, vI 2, vI gd, vR ar1, vR ar2, vR b17, uS, uS, uS, uS, uS, uS, uS]) rfl ?_
 refine o_aload K X17 at_154 rfl rfl rfl ?_
 refine o_iconst K X17 at_156 rfl (z := 0) rfl ?_
 refine o_iload K X17 at_157 rfl rfl ?_
 refine o_if_eq_t K X17 at_159 (by decide) (pc' := 169) (by decide) (by decide) ?_
 refine o_iloadN K X17 at_169 rfl rfl ?_
 refine o_static K X17  (w1 hw) (w2 hw) (w3 hw) (w4 hw) (by decide) (rm_shelfChar l Z a0 hw i2 h17) (by decide) rfl (argsL := [.int i2]) rfl (lenOf pd11 rfl) (W := 2) rfl (by decide) (by decide) (by decide) at_170 rfl ?_
 intro v18 T18 h18 X18 U18
 obtain ⟨r_18, rfl, rfl, u18_1, u18_2, u18_3⟩ := U18
 show oGoes pp ee bb ss Z T18 (mkF mm 173 _ [.int r_18, .int 0, .ref b17]) _ _ _
 refine o_castore K X18 A17 (by decide) (show (0 : Int32).toNatClampNeg < 2 from (by decide)) G17 (z := (.int r_18)) (congrArg Value.int u18_3) at_173 rfl ?_
 intro T19 h19 X19 W19 A19
 replace A19 : oArr Z h19 b17 k17 .char [.int r_18, .int 0] := A19
 refine o_iload K X19 at_174 rfl rfl ?_
 refine o_iconst K X19 at_176 rfl (z := 2) rfl ?_
 refine o_icmp_ne_f K X19 at_177 rfl (by decide) ?_
 refine o_aload K X19 at_180 rfl rfl rfl ?_
 refine o_iconst K X19 at_182 rfl (z := 1) rfl ?_
 refine o_iload K X19 at_183 rfl rfl ?_
 refine o_if_eq_t K X19 at_185 (by decide) (pc' := 195) (by decide) (by decide) ?_
 refine o_iloadN K X19 at_195 rfl rfl ?_
 refine o_bipush K X19 at_196 rfl (z := 16) rfl ?_
 refine o_iushr K X19 at_198 rfl (z := ((i2.toUInt32 >>> ((16 : Int32) &&& 31).toUInt32).toInt32)) rfl ?_
 refine o_static K X19  (w1 hw) (w2 hw) (w3 hw) (w4 hw) (by decide) (rm_shelfChar l Z a0 hw ((i2.toUInt32 >>> ((16 : Int32) &&& 31).toUInt32).toInt32) h19) (by decide) rfl (argsL := [(.int ((i2.toUInt32 >>> ((16 : Int32) &&& 31).toUInt32).toInt32))]) rfl (lenOf pd11 rfl) (W := 2) rfl (by decide) (by decide) (by decide) at_199 rfl ?_
 intro v20 T20 h20 X20 U20
 obtain ⟨r_20, rfl, rfl, u20_1, u20_2, u20_3⟩ := U20
 show oGoes pp ee bb ss Z T20 (mkF mm 202 _ [.int r_20, .int 1, .ref b17]) _ _ _
 refine o_castore K X20 A19 (by decide) (show (1 : Int32).toNatClampNeg < 2 from (by decide)) G17 (z := (.int r_20)) (congrArg Value.int u20_3) at_202 rfl ?_
 intro T21 h21 X21 W21 A21
 replace A21 : oArr Z h21 b17 k17 .char [.int r_18, .int r_20] := A21
 have n23 := oLz q2.lt (oLe g17)
 have m24 := (((q2.ext E17).other W19 n23).other W21 n23)
 have n25 := oLz q3.lt (oLe g17)
 have m26 := (((q3.ext E17).other W19 n25).other W21 n25)
 refine tl_t203_122 l Z a0 hw i0 i1 i2 i3 i4 i5 0 cq gd ar1 kar1 ar2 kar2 b17 k17 ca da db r_18 r_20 fm cs h21 q1 m24 m26 A21 q5 q6 q7 q8 u18_1 u20_1 q9 q10 q11 u18_2 u20_2 q12 q13 q14 u18_3 u20_3 q15 q16 q17 q18 (fun v22 h22 U22 => ?_) K (X21.mono (by decide) (by decide))
 obtain rfl : v22 = some (.int 1) := U22
 exact hQ _ _ rfl
def Q_t148_21 (Z : State) (i0 i1 i2 i3 i4 i5 cp cq gc gd : Int32) (ar1 : Addr) (kar1 : ClassId) (ar2 : Addr) (kar2 : ClassId) (ca cb da : Int32) (fm : Value) (cs : Int32) (h0 : Heap) (v : Option Value) (h : Heap) : Prop := v = some (.int 1)
theorem tl_t148_21 (l : Launch) (Z : State) (a0 : Array Value) (hw : oHw Z a0) (i0 i1 i2 i3 i4 i5 cp cq gc gd : Int32) (ar1 : Addr) (kar1 : ClassId) (ar2 : Addr) (kar2 : ClassId) (ca cb da : Int32) (fm : Value) (cs : Int32) (h0 : Heap) (q0 : (cp = (1 : Int32) ∧ gc = (2 : Int32)) ∨ (cp = (0 : Int32) ∧ gc = (1 : Int32)) ∨ (cp = (0 : Int32) ∧ gc = (2 : Int32))) (q1 : (cq = (1 : Int32) ∧ gd = (1 : Int32)) ∨ (cq = (0 : Int32) ∧ gd = (1 : Int32)) ∨ (cq = (0 : Int32) ∧ gd = (2 : Int32))) (q2 : oArr Z h0 ar1 kar1 .char [.int ca, .int cb]) (q3 : oArr Z h0 ar2 kar2 .char [.int da]) (q4 : Z.heap.size ≤ ar1) (q5 : Z.heap.size ≤ ar2) (q6 : oSh ca) (q7 : oSh cb) (q8 : oId da) (q9 : oCh ca) (q10 : oCh cb) (q11 : oCh da) (q12 : nar .char ca = ca) (q13 : nar .char cb = cb) (q14 : nar .char da = da) (q15 : Sta Z Z.heap z3 z5 z6 fm) (q16 : fm.isRef = true) (q17 : Sta Z Z.heap z0 z4 "Z" (.int cs)) (q18 : ¬ (cs = (0 : Int32))) {Q : Option Value → Heap → Prop} (hQ : ∀ v h, Q_t148_21 Z i0 i1 i2 i3 i4 i5 cp cq gc gd ar1 kar1 ar2 kar2 ca cb da fm cs h0 v h → Q v h) {pp : Program} {ee : Env} {ss : State} {mm : MethodId} {bb : List Frame} {mtd : Method} {cc : Code} {A : Array Value} {T0 : State} (K : oCtx pp ss mm mtd cc Z z7 code maxLocals "law" ret x) (X0 : oSt pp l ee room_1 ss mm A bb mtd cc Z T0 h0 2 4) : oGoes pp ee bb ss Z T0 (mkF mm 148 #[vI i0, vI i1, vI i2, vI i3, vI i4, vI i5, vI 2, vI 1, vI cp, vI cq, vI gc, vI gd, vR ar1, vR ar2, uS, uS, uS, uS, uS, uS, uS, uS] []) Q room_1.cells room_1.slots := by
 have E0 := X0.ext0
 rcases q0 with ⟨rfl, rfl⟩ | ⟨rfl, rfl⟩ | ⟨rfl, rfl⟩
 refine o_iload K X0 at_148 rfl rfl ?_
 refine o_newarray K X0 (aty := .char) 2 (w0 hw) (ad := "[C") (by decide +kernel) (by decide) (by decide) (by decide) rfl at_150 rfl (by decide) (by decide) ?_
 intro T1 h1 b1 k1 X1 g1 E1 A1 B1 G1
 replace A1 : oArr Z h1 b1 k1 .char [.int 0, .int 0] := A1
 refine o_astore K X1 at_152 rfl rfl (L' := #[vI i0, vI i1, vI i2, vI i3, vI i4, vI i5, vI 2, vI 1, vI 1, vI cq, vI 2, vI gd, vR ar1, vR ar2, vR b1, uS, uS, uS, uS, uS, uS, uS]) rfl ?_
 refine o_aload K X1 at_154 rfl rfl rfl ?_
 refine o_iconst K X1 at_156 rfl (z := 0) rfl ?_
 refine o_iload K X1 at_157 rfl rfl ?_
 refine o_if_eq_f K X1 at_159 rfl (by decide) ?_
 refine o_aload K X1 at_162 rfl rfl rfl ?_
 refine o_iconst K X1 at_164 rfl (z := 0) rfl ?_
 have m2 := (q2.ext E1)
 refine o_caload K X1 m2 (by decide) (v := (.int ca)) rfl at_165 rfl ?_
 refine o_goto K X1 at_166 (by decide) (pc' := 173) (by decide) ?_
 refine o_castore K X1 A1 (by decide) (show (0 : Int32).toNatClampNeg < 2 from (by decide)) G1 (z := (.int ca)) (congrArg Value.int q12) at_173 rfl ?_
 intro T3 h3 X3 W3 A3
 replace A3 : oArr Z h3 b1 k1 .char [.int ca, .int 0] := A3
 refine o_iload K X3 at_174 rfl rfl ?_
 refine o_iconst K X3 at_176 rfl (z := 2) rfl ?_
 refine o_icmp_ne_f K X3 at_177 rfl (by decide) ?_
 refine o_aload K X3 at_180 rfl rfl rfl ?_
 refine o_iconst K X3 at_182 rfl (z := 1) rfl ?_
 refine o_iload K X3 at_183 rfl rfl ?_
 refine o_if_eq_f K X3 at_185 rfl (by decide) ?_
 refine o_aload K X3 at_188 rfl rfl rfl ?_
 refine o_iconst K X3 at_190 rfl (z := 1) rfl ?_
 have n4 := oLz q2.lt (oLe g1)
 have m5 := (m2.other W3 n4)
 refine o_caload K X3 m5 (by decide) (v := (.int cb)) rfl at_191 rfl ?_
 refine o_goto K X3 at_192 (by decide) (pc' := 202) (by decide) ?_
 refine o_castore K X3 A3 (by decide) (show (1 : Int32).toNatClampNeg < 2 from (by decide)) G1 (z := (.int cb)) (congrArg Value.int q13) at_202 rfl ?_
 intro T6 h6 X6 W6 A6
 replace A6 : oArr Z h6 b1 k1 .char [.int ca, .int cb] := A6
 have m8 := (m5.other W6 n4)
 have n9 := oLz q3.lt (oLe g1)
 have m10 := (((q3.ext E1).other W3 n9).other W6 n9)
 refine tl_t203_212 l Z a0 hw i0 i1 i2 i3 i4 i5 1 cq gd ar1 kar1 ar2 kar2 b1 k1 ca cb da ca cb fm cs h6 q1 m8 m10 A6 q5 q6 q7 q8 q6 q7 q9 q10 q11 q9 q10 q12 q13 q14 q12 q13 q15 q16 q17 q18 (fun v7 h7 U7 => ?_) K (X6.mono (by decide) (by decide))
 obtain rfl : v7 = some (.int 1) := U7
 exact hQ _ _ rfl
 refine o_iload K X0 at_148 rfl rfl ?_
 refine o_newarray K X0 (aty := .char) 1 (w0 hw) (ad := "[C") (by decide +kernel) (by decide) (by decide) (by decide) rfl at_150 rfl (by decide) (by decide) ?_
 intro T11 h11 b11 k11 X11 g11 E11 A11 B11 G11
 replace A11 : oArr Z h11 b11 k11 .char [.int 0] := A11
 refine o_astore K X11 at_152 rfl rfl (L' := #[vI i0, vI i1, vI i2, vI i3, vI i4, vI i5, vI 2, vI 1, vI 0, vI cq, vI 1, vI gd, vR ar1, vR ar2, vR b11, uS, uS, uS, uS, uS, uS, uS]) rfl ?_
 refine o_aload K X11 at_154 rfl rfl rfl ?_
 refine o_iconst K X11 at_156 rfl (z := 0) rfl ?_
 refine o_iload K X11 at_157 rfl rfl ?_
 refine o_if_eq_t K X11 at_159 (by decide) (pc' := 169) (by decide) (by decide) ?_
 refine o_iloadN K X11 at_169 rfl rfl ?_
 refine o_static K X11  (w1 hw) (w2 hw) (w3 hw) (w4 hw) (by decide) (rm_shelfChar l Z a0 hw i2 h11) (by decide) rfl (argsL := [.int i2]) rfl (lenOf pd11 rfl) (W := 2) rfl (by decide) (by decide) (by decide) at_170 rfl ?_
 intro v12 T12 h12 X12 U12
 obtain ⟨r_12, rfl, rfl, u12_1, u12_2, u12_3⟩ := U12
 show oGoes pp ee bb ss Z T12 (mkF mm 173 _ [.int r_12, .int 0, .ref b11]) _ _ _
 refine o_castore K X12 A11 (by decide) (show (0 : Int32).toNatClampNeg < 1 from (by decide)) G11 (z := (.int r_12)) (congrArg Value.int u12_3) at_173 rfl ?_
 intro T13 h13 X13 W13 A13
 replace A13 : oArr Z h13 b11 k11 .char [.int r_12] := A13
 refine o_iload K X13 at_174 rfl rfl ?_
 refine o_iconst K X13 at_176 rfl (z := 2) rfl ?_
 refine o_icmp_ne_t K X13 at_177 (by decide) (pc' := 203) (by decide) (by decide) ?_
 have n15 := oLz q2.lt (oLe g11)
 have m16 := ((q2.ext E11).other W13 n15)
 have n17 := oLz q3.lt (oLe g11)
 have m18 := ((q3.ext E11).other W13 n17)
 refine tl_t203_211 l Z a0 hw i0 i1 i2 i3 i4 i5 0 cq gd ar1 kar1 ar2 kar2 b11 k11 ca cb da r_12 fm cs h13 q1 m16 m18 A13 q5 q6 q7 q8 u12_1 q9 q10 q11 u12_2 q12 q13 q14 u12_3 q15 q16 q17 q18 (fun v14 h14 U14 => ?_) K (X13.mono (by decide) (by decide))
 obtain rfl : v14 = some (.int 1) := U14
 exact hQ _ _ rfl
 refine o_iload K X0 at_148 rfl rfl ?_
 refine o_newarray K X0 (aty := .char) 2 (w0 hw) (ad := "[C") (by decide +kernel) (by decide) (by decide) (by decide) rfl at_150 rfl (by decide) (by decide) ?_
 intro T19 h19 b19 k19 X19 g19 E19 A19 B19 G19
 replace A19 : oArr Z h19 b19 k19 .char [.int 0, .int 0] := A19
 refine o_astore K X19 at_152 rfl rfl (L' := #[vI i0, vI i1, vI i2, vI i3, vI i4, vI i5, vI 2, vI 1, vI 0, vI cq, vI 2, vI gd, vR ar1, vR ar2, vR b19, uS, uS, uS, uS, uS, uS, uS]) rfl ?_
 refine o_aload K X19 at_154 rfl rfl rfl ?_
 refine o_iconst K X19 at_156 rfl (z := 0) rfl ?_
 refine o_iload K X19 at_157 rfl rfl ?_
 refine o_if_eq_t K X19 at_159 (by decide) (pc' := 169) (by decide) (by decide) ?_
 refine o_iloadN K X19 at_169 rfl rfl ?_
 refine o_static K X19  (w1 hw) (w2 hw) (w3 hw) (w4 hw) (by decide) (rm_shelfChar l Z a0 hw i2 h19) (by decide) rfl (argsL := [.int i2]) rfl (lenOf pd11 rfl) (W := 2) rfl (by decide) (by decide) (by decide) at_170 rfl ?_
 intro v20 T20 h20 X20 U20
 obtain ⟨r_20, rfl, rfl, u20_1, u20_2, u20_3⟩ := U20
 show oGoes pp ee bb ss Z T20 (mkF mm 173 _ [.int r_20, .int 0, .ref b19]) _ _ _
 refine o_castore K X20 A19 (by decide) (show (0 : Int32).toNatClampNeg < 2 from (by decide)) G19 (z := (.int r_20)) (congrArg Value.int u20_3) at_173 rfl ?_
 intro T21 h21 X21 W21 A21
 replace A21 : oArr Z h21 b19 k19 .char [.int r_20, .int 0] := A21
 refine o_iload K X21 at_174 rfl rfl ?_
 refine o_iconst K X21 at_176 rfl (z := 2) rfl ?_
 refine o_icmp_ne_f K X21 at_177 rfl (by decide) ?_
 refine o_aload K X21 at_180 rfl rfl rfl ?_
 refine o_iconst K X21 at_182 rfl (z := 1) rfl ?_
 refine o_iload K X21 at_183 rfl rfl ?_
 refine o_if_eq_t K X21 at_185 (by decide) (pc' := 195) (by decide) (by decide) ?_
 refine o_iloadN K X21 at_195 rfl rfl ?_
 refine o_bipush K X21 at_196 rfl (z := 16) rfl ?_
 refine o_iushr K X21 at_198 rfl (z := ((i2.toUInt32 >>> ((16 : Int32) &&& 31).toUInt32).toInt32)) rfl ?_
 refine o_static K X21  (w1 hw) (w2 hw) (w3 hw) (w4 hw) (by decide) (rm_shelfChar l Z a0 hw ((i2.toUInt32 >>> ((16 : Int32) &&& 31).toUInt32).toInt32) h21) (by decide) rfl (argsL := [(.int ((i2.toUInt32 >>> ((16 : Int32) &&& 31).toUInt32).toInt32))]) rfl (lenOf pd11 rfl) (W := 2) rfl (by decide) (by decide) (by decide) at_199 rfl ?_
 intro v22 T22 h22 X22 U22
 obtain ⟨r_22, rfl, rfl, u22_1, u22_2, u22_3⟩ := U22
 show oGoes pp ee bb ss Z T22 (mkF mm 202 _ [.int r_22, .int 1, .ref b19]) _ _ _
 refine o_castore K X22 A21 (by decide) (show (1 : Int32).toNatClampNeg < 2 from (by decide)) G19 (z := (.int r_22)) (congrArg Value.int u22_3) at_202 rfl ?_
 intro T23 h23 X23 W23 A23
 replace A23 : oArr Z h23 b19 k19 .char [.int r_20, .int r_22] := A23
 have n25 := oLz q2.lt (oLe g19)
 have m26 := (((q2.ext E19).other W21 n25).other W23 n25)
 have n27 := oLz q3.lt (oLe g19)
 have m28 := (((q3.ext E19).other W21 n27).other W23 n27)
 refine tl_t203_212 l Z a0 hw i0 i1 i2 i3 i4 i5 0 cq gd ar1 kar1 ar2 kar2 b19 k19 ca cb da r_20 r_22 fm cs h23 q1 m26 m28 A23 q5 q6 q7 q8 u20_1 u22_1 q9 q10 q11 u20_2 u22_2 q12 q13 q14 u20_3 u22_3 q15 q16 q17 q18 (fun v24 h24 U24 => ?_) K (X23.mono (by decide) (by decide))
 obtain rfl : v24 = some (.int 1) := U24
 exact hQ _ _ rfl
def Q_t148_22 (Z : State) (i0 i1 i2 i3 i4 i5 cp cq gc gd : Int32) (ar1 : Addr) (kar1 : ClassId) (ar2 : Addr) (kar2 : ClassId) (ca cb da db : Int32) (fm : Value) (cs : Int32) (h0 : Heap) (v : Option Value) (h : Heap) : Prop := v = some (.int 1)
theorem tl_t148_22 (l : Launch) (Z : State) (a0 : Array Value) (hw : oHw Z a0) (i0 i1 i2 i3 i4 i5 cp cq gc gd : Int32) (ar1 : Addr) (kar1 : ClassId) (ar2 : Addr) (kar2 : ClassId) (ca cb da db : Int32) (fm : Value) (cs : Int32) (h0 : Heap) (q0 : (cp = (1 : Int32) ∧ gc = (2 : Int32)) ∨ (cp = (0 : Int32) ∧ gc = (1 : Int32)) ∨ (cp = (0 : Int32) ∧ gc = (2 : Int32))) (q1 : (cq = (1 : Int32) ∧ gd = (2 : Int32)) ∨ (cq = (0 : Int32) ∧ gd = (1 : Int32)) ∨ (cq = (0 : Int32) ∧ gd = (2 : Int32))) (q2 : oArr Z h0 ar1 kar1 .char [.int ca, .int cb]) (q3 : oArr Z h0 ar2 kar2 .char [.int da, .int db]) (q4 : Z.heap.size ≤ ar1) (q5 : Z.heap.size ≤ ar2) (q6 : oSh ca) (q7 : oSh cb) (q8 : oId da) (q9 : oId db) (q10 : oCh ca) (q11 : oCh cb) (q12 : oCh da) (q13 : oCh db) (q14 : nar .char ca = ca) (q15 : nar .char cb = cb) (q16 : nar .char da = da) (q17 : nar .char db = db) (q18 : Sta Z Z.heap z3 z5 z6 fm) (q19 : fm.isRef = true) (q20 : Sta Z Z.heap z0 z4 "Z" (.int cs)) (q21 : ¬ (cs = (0 : Int32))) {Q : Option Value → Heap → Prop} (hQ : ∀ v h, Q_t148_22 Z i0 i1 i2 i3 i4 i5 cp cq gc gd ar1 kar1 ar2 kar2 ca cb da db fm cs h0 v h → Q v h) {pp : Program} {ee : Env} {ss : State} {mm : MethodId} {bb : List Frame} {mtd : Method} {cc : Code} {A : Array Value} {T0 : State} (K : oCtx pp ss mm mtd cc Z z7 code maxLocals "law" ret x) (X0 : oSt pp l ee room_1 ss mm A bb mtd cc Z T0 h0 2 4) : oGoes pp ee bb ss Z T0 (mkF mm 148 #[vI i0, vI i1, vI i2, vI i3, vI i4, vI i5, vI 2, vI 2, vI cp, vI cq, vI gc, vI gd, vR ar1, vR ar2, uS, uS, uS, uS, uS, uS, uS, uS] []) Q room_1.cells room_1.slots := by
 have E0 := X0.ext0
 rcases q0 with ⟨rfl, rfl⟩ | ⟨rfl, rfl⟩ | ⟨rfl, rfl⟩
 refine o_iload K X0 at_148 rfl rfl ?_
 refine o_newarray K X0 (aty := .char) 2 (w0 hw) (ad := "[C") (by decide +kernel) (by decide) (by decide) (by decide) rfl at_150 rfl (by decide) (by decide) ?_
 intro T1 h1 b1 k1 X1 g1 E1 A1 B1 G1
 replace A1 : oArr Z h1 b1 k1 .char [.int 0, .int 0] := A1
 refine o_astore K X1 at_152 rfl rfl (L' := #[vI i0, vI i1, vI i2, vI i3, vI i4, vI i5, vI 2, vI 2, vI 1, vI cq, vI 2, vI gd, vR ar1, vR ar2, vR b1, uS, uS, uS, uS, uS, uS, uS]) rfl ?_
 refine o_aload K X1 at_154 rfl rfl rfl ?_
 refine o_iconst K X1 at_156 rfl (z := 0) rfl ?_
 refine o_iload K X1 at_157 rfl rfl ?_
 refine o_if_eq_f K X1 at_159 rfl (by decide) ?_
 refine o_aload K X1 at_162 rfl rfl rfl ?_
 refine o_iconst K X1 at_164 rfl (z := 0) rfl ?_
 have m2 := (q2.ext E1)
 refine o_caload K X1 m2 (by decide) (v := (.int ca)) rfl at_165 rfl ?_
 refine o_goto K X1 at_166 (by decide) (pc' := 173) (by decide) ?_
 refine o_castore K X1 A1 (by decide) (show (0 : Int32).toNatClampNeg < 2 from (by decide)) G1 (z := (.int ca)) (congrArg Value.int q14) at_173 rfl ?_
 intro T3 h3 X3 W3 A3
 replace A3 : oArr Z h3 b1 k1 .char [.int ca, .int 0] := A3
 refine o_iload K X3 at_174 rfl rfl ?_
 refine o_iconst K X3 at_176 rfl (z := 2) rfl ?_
 refine o_icmp_ne_f K X3 at_177 rfl (by decide) ?_
 refine o_aload K X3 at_180 rfl rfl rfl ?_
 refine o_iconst K X3 at_182 rfl (z := 1) rfl ?_
 refine o_iload K X3 at_183 rfl rfl ?_
 refine o_if_eq_f K X3 at_185 rfl (by decide) ?_
 refine o_aload K X3 at_188 rfl rfl rfl ?_
 refine o_iconst K X3 at_190 rfl (z := 1) rfl ?_
 have n4 := oLz q2.lt (oLe g1)
 have m5 := (m2.other W3 n4)
 refine o_caload K X3 m5 (by decide) (v := (.int cb)) rfl at_191 rfl ?_
 refine o_goto K X3 at_192 (by decide) (pc' := 202) (by decide) ?_
 refine o_castore K X3 A3 (by decide) (show (1 : Int32).toNatClampNeg < 2 from (by decide)) G1 (z := (.int cb)) (congrArg Value.int q15) at_202 rfl ?_
 intro T6 h6 X6 W6 A6
 replace A6 : oArr Z h6 b1 k1 .char [.int ca, .int cb] := A6
 have m8 := (m5.other W6 n4)
 have n9 := oLz q3.lt (oLe g1)
 have m10 := (((q3.ext E1).other W3 n9).other W6 n9)
 refine tl_t203_222 l Z a0 hw i0 i1 i2 i3 i4 i5 1 cq gd ar1 kar1 ar2 kar2 b1 k1 ca cb da db ca cb fm cs h6 q1 m8 m10 A6 q5 q6 q7 q8 q9 q6 q7 q10 q11 q12 q13 q10 q11 q14 q15 q16 q17 q14 q15 q18 q19 q20 q21 (fun v7 h7 U7 => ?_) K (X6.mono (by decide) (by decide))
 obtain rfl : v7 = some (.int 1) := U7
 exact hQ _ _ rfl
 refine o_iload K X0 at_148 rfl rfl ?_
 refine o_newarray K X0 (aty := .char) 1 (w0 hw) (ad := "[C") (by decide +kernel) (by decide) (by decide) (by decide) rfl at_150 rfl (by decide) (by decide) ?_
 intro T11 h11 b11 k11 X11 g11 E11 A11 B11 G11
 replace A11 : oArr Z h11 b11 k11 .char [.int 0] := A11
 refine o_astore K X11 at_152 rfl rfl (L' := #[vI i0, vI i1, vI i2, vI i3, vI i4, vI i5, vI 2, vI 2, vI 0, vI cq, vI 1, vI gd, vR ar1, vR ar2, vR b11, uS, uS, uS, uS, uS, uS, uS]) rfl ?_
 refine o_aload K X11 at_154 rfl rfl rfl ?_
 refine o_iconst K X11 at_156 rfl (z := 0) rfl ?_
 refine o_iload K X11 at_157 rfl rfl ?_
 refine o_if_eq_t K X11 at_159 (by decide) (pc' := 169) (by decide) (by decide) ?_
 refine o_iloadN K X11 at_169 rfl rfl ?_
 refine o_static K X11  (w1 hw) (w2 hw) (w3 hw) (w4 hw) (by decide) (rm_shelfChar l Z a0 hw i2 h11) (by decide) rfl (argsL := [.int i2]) rfl (lenOf pd11 rfl) (W := 2) rfl (by decide) (by decide) (by decide) at_170 rfl ?_
 intro v12 T12 h12 X12 U12
 obtain ⟨r_12, rfl, rfl, u12_1, u12_2, u12_3⟩ := U12
 show oGoes pp ee bb ss Z T12 (mkF mm 173 _ [.int r_12, .int 0, .ref b11]) _ _ _
 refine o_castore K X12 A11 (by decide) (show (0 : Int32).toNatClampNeg < 1 from (by decide)) G11 (z := (.int r_12)) (congrArg Value.int u12_3) at_173 rfl ?_
 intro T13 h13 X13 W13 A13
 replace A13 : oArr Z h13 b11 k11 .char [.int r_12] := A13
 refine o_iload K X13 at_174 rfl rfl ?_
 refine o_iconst K X13 at_176 rfl (z := 2) rfl ?_
 refine o_icmp_ne_t K X13 at_177 (by decide) (pc' := 203) (by decide) (by decide) ?_
 have n15 := oLz q2.lt (oLe g11)
 have m16 := ((q2.ext E11).other W13 n15)
 have n17 := oLz q3.lt (oLe g11)
 have m18 := ((q3.ext E11).other W13 n17)
 refine tl_t203_221 l Z a0 hw i0 i1 i2 i3 i4 i5 0 cq gd ar1 kar1 ar2 kar2 b11 k11 ca cb da db r_12 fm cs h13 q1 m16 m18 A13 q5 q6 q7 q8 q9 u12_1 q10 q11 q12 q13 u12_2 q14 q15 q16 q17 u12_3 q18 q19 q20 q21 (fun v14 h14 U14 => ?_) K (X13.mono (by decide) (by decide))
 obtain rfl : v14 = some (.int 1) := U14
 exact hQ _ _ rfl
 refine o_iload K X0 at_148 rfl rfl ?_
 refine o_newarray K X0 (aty := .char) 2 (w0 hw) (ad := "[C") (by decide +kernel) (by decide) (by decide) (by decide) rfl at_150 rfl (by decide) (by decide) ?_
 intro T19 h19 b19 k19 X19 g19 E19 A19 B19 G19
 replace A19 : oArr Z h19 b19 k19 .char [.int 0, .int 0] := A19
 refine o_astore K X19 at_152 rfl rfl (L' := #[vI i0, vI i1, vI i2, vI i3, vI i4, vI i5, vI 2, vI 2, vI 0, vI cq, vI 2, vI gd, vR ar1, vR ar2, vR b19, uS, uS, uS, uS, uS, uS, uS]) rfl ?_
 refine o_aload K X19 at_154 rfl rfl rfl ?_
 refine o_iconst K X19 at_156 rfl (z := 0) rfl ?_
 refine o_iload K X19 at_157 rfl rfl ?_
 refine o_if_eq_t K X19 at_159 (by decide) (pc' := 169) (by decide) (by decide) ?_
 refine o_iloadN K X19 at_169 rfl rfl ?_
 refine o_static K X19  (w1 hw) (w2 hw) (w3 hw) (w4 hw) (by decide) (rm_shelfChar l Z a0 hw i2 h19) (by decide) rfl (argsL := [.int i2]) rfl (lenOf pd11 rfl) (W := 2) rfl (by decide) (by decide) (by decide) at_170 rfl ?_
 intro v20 T20 h20 X20 U20
 obtain ⟨r_20, rfl, rfl, u20_1, u20_2, u20_3⟩ := U20
 show oGoes pp ee bb ss Z T20 (mkF mm 173 _ [.int r_20, .int 0, .ref b19]) _ _ _
 refine o_castore K X20 A19 (by decide) (show (0 : Int32).toNatClampNeg < 2 from (by decide)) G19 (z := (.int r_20)) (congrArg Value.int u20_3) at_173 rfl ?_
 intro T21 h21 X21 W21 A21
 replace A21 : oArr Z h21 b19 k19 .char [.int r_20, .int 0] := A21
 refine o_iload K X21 at_174 rfl rfl ?_
 refine o_iconst K X21 at_176 rfl (z := 2) rfl ?_
 refine o_icmp_ne_f K X21 at_177 rfl (by decide) ?_
 refine o_aload K X21 at_180 rfl rfl rfl ?_
 refine o_iconst K X21 at_182 rfl (z := 1) rfl ?_
 refine o_iload K X21 at_183 rfl rfl ?_
 refine o_if_eq_t K X21 at_185 (by decide) (pc' := 195) (by decide) (by decide) ?_
 refine o_iloadN K X21 at_195 rfl rfl ?_
 refine o_bipush K X21 at_196 rfl (z := 16) rfl ?_
 refine o_iushr K X21 at_198 rfl (z := ((i2.toUInt32 >>> ((16 : Int32) &&& 31).toUInt32).toInt32)) rfl ?_
 refine o_static K X21  (w1 hw) (w2 hw) (w3 hw) (w4 hw) (by decide) (rm_shelfChar l Z a0 hw ((i2.toUInt32 >>> ((16 : Int32) &&& 31).toUInt32).toInt32) h21) (by decide) rfl (argsL := [(.int ((i2.toUInt32 >>> ((16 : Int32) &&& 31).toUInt32).toInt32))]) rfl (lenOf pd11 rfl) (W := 2) rfl (by decide) (by decide) (by decide) at_199 rfl ?_
 intro v22 T22 h22 X22 U22
 obtain ⟨r_22, rfl, rfl, u22_1, u22_2, u22_3⟩ := U22
 show oGoes pp ee bb ss Z T22 (mkF mm 202 _ [.int r_22, .int 1, .ref b19]) _ _ _
 refine o_castore K X22 A21 (by decide) (show (1 : Int32).toNatClampNeg < 2 from (by decide)) G19 (z := (.int r_22)) (congrArg Value.int u22_3) at_202 rfl ?_
 intro T23 h23 X23 W23 A23
 replace A23 : oArr Z h23 b19 k19 .char [.int r_20, .int r_22] := A23
 have n25 := oLz q2.lt (oLe g19)
 have m26 := (((q2.ext E19).other W21 n25).other W23 n25)
 have n27 := oLz q3.lt (oLe g19)
 have m28 := (((q3.ext E19).other W21 n27).other W23 n27)
 refine tl_t203_222 l Z a0 hw i0 i1 i2 i3 i4 i5 0 cq gd ar1 kar1 ar2 kar2 b19 k19 ca cb da db r_20 r_22 fm cs h23 q1 m26 m28 A23 q5 q6 q7 q8 q9 u20_1 u22_1 q10 q11 q12 q13 u20_2 u22_2 q14 q15 q16 q17 u20_3 u22_3 q18 q19 q20 q21 (fun v24 h24 U24 => ?_) K (X23.mono (by decide) (by decide))
 obtain rfl : v24 = some (.int 1) := U24
 exact hQ _ _ rfl
def Q_law (Z : State) (i0 i1 i2 i3 i4 i5 : Int32) (fm : Value) (cs : Int32) (h0 : Heap) (v : Option Value) (h : Heap) : Prop := v = some (.int 1)
theorem rm_law (l : Launch) (Z : State) (a0 : Array Value) (hw : oHw Z a0) (i0 i1 i2 i3 i4 i5 : Int32) (fm : Value) (cs : Int32) (h0 : Heap) (q0 : Sta Z Z.heap z3 z5 z6 fm) (q1 : fm.isRef = true) (q2 : Sta Z Z.heap z0 z4 "Z" (.int cs)) (q3 : ¬ (cs = (0 : Int32))) (ws : List Jvm.Cond) : oMet l Z x code maxLocals ret room_1 ws #[.int i0, .int i1, .int i2, .int i3, .int i4, .int i5] h0 (Q_law Z i0 i1 i2 i3 i4 i5 fm cs h0) := by
 refine oEnter (plainFor_of_name (by first | (simp [plainName, overriddenIn]; done) | decide +kernel)) (own := z7) (nm := "law") rfl rfl (L := #[.val (.int i0), .val (.int i1), .val (.int i2), .val (.int i3), .val (.int i4), .val (.int i5), .unset, .unset, .unset, .unset, .unset, .unset, .unset, .unset, .unset, .unset, .unset, .unset, .unset, .unset, .unset, .unset]) (fun m => by first | (simp [entryFrame, mkF, argsToLocals, Value.category, maxLocals, oCatRef q1]; done) | rfl) ?_
 intro pp ee ss mm bb mtd cc T0 K X0
 have E0 := X0.ext0
 refine o_iconst K X0 at_0 rfl (z := 1) rfl ?_
 refine o_iload K X0 at_1 rfl rfl ?_
 refine o_iconst K X0 at_3 rfl (z := 1) rfl ?_
 refine o_iand K X0 at_4 rfl (z := (i4 &&& (1 : Int32))) rfl ?_
 refine o_iadd K X0 at_5 rfl (z := ((1 : Int32) + (i4 &&& (1 : Int32)))) rfl ?_
 refine o_istore K X0 at_6 rfl (L' := #[vI i0, vI i1, vI i2, vI i3, vI i4, vI i5, vI ((1 : Int32) + (i4 &&& (1 : Int32))), uS, uS, uS, uS, uS, uS, uS, uS, uS, uS, uS, uS, uS, uS, uS]) rfl ?_
 refine o_iconst K X0 at_8 rfl (z := 1) rfl ?_
 refine o_iload K X0 at_9 rfl rfl ?_
 refine o_iconst K X0 at_11 rfl (z := 1) rfl ?_
 refine o_iushr K X0 at_12 rfl (z := ((i4.toUInt32 >>> ((1 : Int32) &&& 31).toUInt32).toInt32)) rfl ?_
 refine o_iconst K X0 at_13 rfl (z := 1) rfl ?_
 refine o_iand K X0 at_14 rfl (z := (((i4.toUInt32 >>> ((1 : Int32) &&& 31).toUInt32).toInt32) &&& (1 : Int32))) rfl ?_
 refine o_iadd K X0 at_15 rfl (z := ((1 : Int32) + (((i4.toUInt32 >>> ((1 : Int32) &&& 31).toUInt32).toInt32) &&& (1 : Int32)))) rfl ?_
 refine o_istore K X0 at_16 rfl (L' := #[vI i0, vI i1, vI i2, vI i3, vI i4, vI i5, vI ((1 : Int32) + (i4 &&& (1 : Int32))), vI ((1 : Int32) + (((i4.toUInt32 >>> ((1 : Int32) &&& 31).toUInt32).toInt32) &&& (1 : Int32))), uS, uS, uS, uS, uS, uS, uS, uS, uS, uS, uS, uS, uS, uS]) rfl ?_
 refine o_iload K X0 at_18 rfl rfl ?_
 refine o_iconst K X0 at_20 rfl (z := 1) rfl ?_
 refine o_iand K X0 at_21 rfl (z := (i5 &&& (1 : Int32))) rfl ?_
 suffices J2 : oGoes pp ee bb ss Z T0 (mkF mm 30 #[vI i0, vI i1, vI i2, vI i3, vI i4, vI i5, vI ((1 : Int32) + (i4 &&& (1 : Int32))), vI ((1 : Int32) + (((i4.toUInt32 >>> ((1 : Int32) &&& 31).toUInt32).toInt32) &&& (1 : Int32))), uS, uS, uS, uS, uS, uS, uS, uS, uS, uS, uS, uS, uS, uS] [(.int (if (i5 &&& (1 : Int32)) = (0 : Int32) then (0 : Int32) else (1 : Int32)))]) (Q_law Z i0 i1 i2 i3 i4 i5 fm cs h0) room_1.cells room_1.slots by
  by_cases c22_1 : (i5 &&& (1 : Int32)) = (0 : Int32)
  simp only [if_pos c22_1] at J2
  refine o_if_eq_t K X0 at_22 (by decide) (pc' := 29) (by decide) c22_1 ?_
  refine o_iconst K X0 at_29 rfl (z := 0) rfl ?_
  exact J2
  simp only [if_neg c22_1] at J2
  refine o_if_eq_f K X0 at_22 rfl c22_1 ?_
  refine o_iconst K X0 at_25 rfl (z := 1) rfl ?_
  refine o_goto K X0 at_26 (by decide) (pc' := 30) (by decide) ?_
  exact J2
 refine o_istore K X0 at_30 rfl (L' := #[vI i0, vI i1, vI i2, vI i3, vI i4, vI i5, vI ((1 : Int32) + (i4 &&& (1 : Int32))), vI ((1 : Int32) + (((i4.toUInt32 >>> ((1 : Int32) &&& 31).toUInt32).toInt32) &&& (1 : Int32))), vI (if (i5 &&& (1 : Int32)) = (0 : Int32) then (0 : Int32) else (1 : Int32)), uS, uS, uS, uS, uS, uS, uS, uS, uS, uS, uS, uS, uS]) rfl ?_
 refine o_iload K X0 at_32 rfl rfl ?_
 refine o_iconst K X0 at_34 rfl (z := 2) rfl ?_
 refine o_iand K X0 at_35 rfl (z := (i5 &&& (2 : Int32))) rfl ?_
 suffices J4 : oGoes pp ee bb ss Z T0 (mkF mm 44 #[vI i0, vI i1, vI i2, vI i3, vI i4, vI i5, vI ((1 : Int32) + (i4 &&& (1 : Int32))), vI ((1 : Int32) + (((i4.toUInt32 >>> ((1 : Int32) &&& 31).toUInt32).toInt32) &&& (1 : Int32))), vI (if (i5 &&& (1 : Int32)) = (0 : Int32) then (0 : Int32) else (1 : Int32)), uS, uS, uS, uS, uS, uS, uS, uS, uS, uS, uS, uS, uS] [(.int (if (i5 &&& (2 : Int32)) = (0 : Int32) then (0 : Int32) else (1 : Int32)))]) (Q_law Z i0 i1 i2 i3 i4 i5 fm cs h0) room_1.cells room_1.slots by
  by_cases c36_3 : (i5 &&& (2 : Int32)) = (0 : Int32)
  simp only [if_pos c36_3] at J4
  refine o_if_eq_t K X0 at_36 (by decide) (pc' := 43) (by decide) c36_3 ?_
  refine o_iconst K X0 at_43 rfl (z := 0) rfl ?_
  exact J4
  simp only [if_neg c36_3] at J4
  refine o_if_eq_f K X0 at_36 rfl c36_3 ?_
  refine o_iconst K X0 at_39 rfl (z := 1) rfl ?_
  refine o_goto K X0 at_40 (by decide) (pc' := 44) (by decide) ?_
  exact J4
 refine o_istore K X0 at_44 rfl (L' := #[vI i0, vI i1, vI i2, vI i3, vI i4, vI i5, vI ((1 : Int32) + (i4 &&& (1 : Int32))), vI ((1 : Int32) + (((i4.toUInt32 >>> ((1 : Int32) &&& 31).toUInt32).toInt32) &&& (1 : Int32))), vI (if (i5 &&& (1 : Int32)) = (0 : Int32) then (0 : Int32) else (1 : Int32)), vI (if (i5 &&& (2 : Int32)) = (0 : Int32) then (0 : Int32) else (1 : Int32)), uS, uS, uS, uS, uS, uS, uS, uS, uS, uS, uS, uS]) rfl ?_
 obtain ⟨cp, e_cp⟩ : ∃ x : Int32, x = (if (i5 &&& (1 : Int32)) = (0 : Int32) then (0 : Int32) else (1 : Int32)) := ⟨_, rfl⟩
 rw [← e_cp]
 obtain ⟨cq, e_cq⟩ : ∃ x : Int32, x = (if (i5 &&& (2 : Int32)) = (0 : Int32) then (0 : Int32) else (1 : Int32)) := ⟨_, rfl⟩
 rw [← e_cq]
 obtain ⟨ga, e_ga⟩ : ∃ x : Int32, x = ((1 : Int32) + (i4 &&& (1 : Int32))) := ⟨_, rfl⟩
 rw [← e_ga]
 obtain ⟨gb, e_gb⟩ : ∃ x : Int32, x = ((1 : Int32) + (((i4.toUInt32 >>> ((1 : Int32) &&& 31).toUInt32).toInt32) &&& (1 : Int32))) := ⟨_, rfl⟩
 rw [← e_gb]
 refine o_iload K X0 at_46 rfl rfl ?_
 suffices J6 : oGoes pp ee bb ss Z T0 (mkF mm 64 #[vI i0, vI i1, vI i2, vI i3, vI i4, vI i5, vI ga, vI gb, vI cp, vI cq, uS, uS, uS, uS, uS, uS, uS, uS, uS, uS, uS, uS] [(.int (if cp = (0 : Int32) then ((1 : Int32) + (((i4.toUInt32 >>> ((2 : Int32) &&& 31).toUInt32).toInt32) &&& (1 : Int32))) else ga))]) (Q_law Z i0 i1 i2 i3 i4 i5 fm cs h0) room_1.cells room_1.slots by
  by_cases c48_5 : cp = (0 : Int32)
  simp only [if_pos c48_5] at J6
  refine o_if_eq_t K X0 at_48 (by decide) (pc' := 56) (by decide) c48_5 ?_
  refine o_iconst K X0 at_56 rfl (z := 1) rfl ?_
  refine o_iload K X0 at_57 rfl rfl ?_
  refine o_iconst K X0 at_59 rfl (z := 2) rfl ?_
  refine o_iushr K X0 at_60 rfl (z := ((i4.toUInt32 >>> ((2 : Int32) &&& 31).toUInt32).toInt32)) rfl ?_
  refine o_iconst K X0 at_61 rfl (z := 1) rfl ?_
  refine o_iand K X0 at_62 rfl (z := (((i4.toUInt32 >>> ((2 : Int32) &&& 31).toUInt32).toInt32) &&& (1 : Int32))) rfl ?_
  refine o_iadd K X0 at_63 rfl (z := ((1 : Int32) + (((i4.toUInt32 >>> ((2 : Int32) &&& 31).toUInt32).toInt32) &&& (1 : Int32)))) rfl ?_
  exact J6
  simp only [if_neg c48_5] at J6
  refine o_if_eq_f K X0 at_48 rfl c48_5 ?_
  refine o_iload K X0 at_51 rfl rfl ?_
  refine o_goto K X0 at_53 (by decide) (pc' := 64) (by decide) ?_
  exact J6
 refine o_istore K X0 at_64 rfl (L' := #[vI i0, vI i1, vI i2, vI i3, vI i4, vI i5, vI ga, vI gb, vI cp, vI cq, vI (if cp = (0 : Int32) then ((1 : Int32) + (((i4.toUInt32 >>> ((2 : Int32) &&& 31).toUInt32).toInt32) &&& (1 : Int32))) else ga), uS, uS, uS, uS, uS, uS, uS, uS, uS, uS, uS]) rfl ?_
 refine o_iload K X0 at_66 rfl rfl ?_
 suffices J8 : oGoes pp ee bb ss Z T0 (mkF mm 84 #[vI i0, vI i1, vI i2, vI i3, vI i4, vI i5, vI ga, vI gb, vI cp, vI cq, vI (if cp = (0 : Int32) then ((1 : Int32) + (((i4.toUInt32 >>> ((2 : Int32) &&& 31).toUInt32).toInt32) &&& (1 : Int32))) else ga), uS, uS, uS, uS, uS, uS, uS, uS, uS, uS, uS] [(.int (if cq = (0 : Int32) then ((1 : Int32) + (((i4.toUInt32 >>> ((3 : Int32) &&& 31).toUInt32).toInt32) &&& (1 : Int32))) else gb))]) (Q_law Z i0 i1 i2 i3 i4 i5 fm cs h0) room_1.cells room_1.slots by
  by_cases c68_7 : cq = (0 : Int32)
  simp only [if_pos c68_7] at J8
  refine o_if_eq_t K X0 at_68 (by decide) (pc' := 76) (by decide) c68_7 ?_
  refine o_iconst K X0 at_76 rfl (z := 1) rfl ?_
  refine o_iload K X0 at_77 rfl rfl ?_
  refine o_iconst K X0 at_79 rfl (z := 3) rfl ?_
  refine o_iushr K X0 at_80 rfl (z := ((i4.toUInt32 >>> ((3 : Int32) &&& 31).toUInt32).toInt32)) rfl ?_
  refine o_iconst K X0 at_81 rfl (z := 1) rfl ?_
  refine o_iand K X0 at_82 rfl (z := (((i4.toUInt32 >>> ((3 : Int32) &&& 31).toUInt32).toInt32) &&& (1 : Int32))) rfl ?_
  refine o_iadd K X0 at_83 rfl (z := ((1 : Int32) + (((i4.toUInt32 >>> ((3 : Int32) &&& 31).toUInt32).toInt32) &&& (1 : Int32)))) rfl ?_
  exact J8
  simp only [if_neg c68_7] at J8
  refine o_if_eq_f K X0 at_68 rfl c68_7 ?_
  refine o_iload K X0 at_71 rfl rfl ?_
  refine o_goto K X0 at_73 (by decide) (pc' := 84) (by decide) ?_
  exact J8
 refine o_istore K X0 at_84 rfl (L' := #[vI i0, vI i1, vI i2, vI i3, vI i4, vI i5, vI ga, vI gb, vI cp, vI cq, vI (if cp = (0 : Int32) then ((1 : Int32) + (((i4.toUInt32 >>> ((2 : Int32) &&& 31).toUInt32).toInt32) &&& (1 : Int32))) else ga), vI (if cq = (0 : Int32) then ((1 : Int32) + (((i4.toUInt32 >>> ((3 : Int32) &&& 31).toUInt32).toInt32) &&& (1 : Int32))) else gb), uS, uS, uS, uS, uS, uS, uS, uS, uS, uS]) rfl ?_
 obtain ⟨gc, e_gc⟩ : ∃ x : Int32, x = (if cp = (0 : Int32) then ((1 : Int32) + (((i4.toUInt32 >>> ((2 : Int32) &&& 31).toUInt32).toInt32) &&& (1 : Int32))) else ga) := ⟨_, rfl⟩
 rw [← e_gc]
 obtain ⟨gd, e_gd⟩ : ∃ x : Int32, x = (if cq = (0 : Int32) then ((1 : Int32) + (((i4.toUInt32 >>> ((3 : Int32) &&& 31).toUInt32).toInt32) &&& (1 : Int32))) else gb) := ⟨_, rfl⟩
 rw [← e_gd]
 rcases oAnd1 i4 with y | y
 obtain rfl : ga = (1 : Int32) := e_ga.trans (by rw [y]; decide)
 rcases oAnd1 ((i4.toUInt32 >>> ((1 : Int32) &&& 31).toUInt32).toInt32) with y | y
 obtain rfl : gb = (1 : Int32) := e_gb.trans (by rw [y]; decide)
 refine o_iload K X0 at_86 rfl rfl ?_
 refine o_newarray K X0 (aty := .char) 1 (w0 hw) (ad := "[C") (by decide +kernel) (by decide) (by decide) (by decide) rfl at_88 rfl (by decide) (by decide) ?_
 intro T9 h9 b9 k9 X9 g9 E9 A9 B9 G9
 replace A9 : oArr Z h9 b9 k9 .char [.int 0] := A9
 refine o_astore K X9 at_90 rfl rfl (L' := #[vI i0, vI i1, vI i2, vI i3, vI i4, vI i5, vI 1, vI 1, vI cp, vI cq, vI gc, vI gd, vR b9, uS, uS, uS, uS, uS, uS, uS, uS, uS]) rfl ?_
 refine o_aload K X9 at_92 rfl rfl rfl ?_
 refine o_iconst K X9 at_94 rfl (z := 0) rfl ?_
 refine o_iloadN K X9 at_95 rfl rfl ?_
 refine o_static K X9  (w1 hw) (w2 hw) (w3 hw) (w4 hw) (by decide) (rm_shelfChar l Z a0 hw i0 h9) (by decide) rfl (argsL := [.int i0]) rfl (lenOf pd11 rfl) (W := 2) rfl (by decide) (by decide) (by decide) at_96 rfl ?_
 intro v10 T10 h10 X10 U10
 obtain ⟨r_10, rfl, rfl, u10_1, u10_2, u10_3⟩ := U10
 show oGoes pp ee bb ss Z T10 (mkF mm 99 _ [.int r_10, .int 0, .ref b9]) _ _ _
 refine o_castore K X10 A9 (by decide) (show (0 : Int32).toNatClampNeg < 1 from (by decide)) G9 (z := (.int r_10)) (congrArg Value.int u10_3) at_99 rfl ?_
 intro T11 h11 X11 W11 A11
 replace A11 : oArr Z h11 b9 k9 .char [.int r_10] := A11
 refine o_iload K X11 at_100 rfl rfl ?_
 refine o_iconst K X11 at_102 rfl (z := 2) rfl ?_
 refine o_icmp_ne_t K X11 at_103 (by decide) (pc' := 117) (by decide) (by decide) ?_
 refine o_iload K X11 at_117 rfl rfl ?_
 refine o_newarray K X11 (aty := .char) 1 (w0 hw) (ad := "[C") (by decide +kernel) (by decide) (by decide) (by decide) rfl at_119 rfl (by decide) (by decide) ?_
 intro T12 h12 b12 k12 X12 g12 E12 A12 B12 G12
 replace A12 : oArr Z h12 b12 k12 .char [.int 0] := A12
 refine o_astore K X12 at_121 rfl rfl (L' := #[vI i0, vI i1, vI i2, vI i3, vI i4, vI i5, vI 1, vI 1, vI cp, vI cq, vI gc, vI gd, vR b9, vR b12, uS, uS, uS, uS, uS, uS, uS, uS]) rfl ?_
 refine o_aload K X12 at_123 rfl rfl rfl ?_
 refine o_iconst K X12 at_125 rfl (z := 0) rfl ?_
 refine o_iloadN K X12 at_126 rfl rfl ?_
 refine o_static K X12  (w6 hw) (w7 hw) (w3 hw) (w8 hw) (by decide) (rm_idChar l Z a0 hw i1 h12) (by decide) rfl (argsL := [.int i1]) rfl (lenOf pd11 rfl) (W := 2) rfl (by decide) (by decide) (by decide) at_127 rfl ?_
 intro v13 T13 h13 X13 U13
 obtain ⟨r_13, rfl, rfl, u13_1, u13_2, u13_3⟩ := U13
 show oGoes pp ee bb ss Z T13 (mkF mm 130 _ [.int r_13, .int 0, .ref b12]) _ _ _
 refine o_castore K X13 A12 (by decide) (show (0 : Int32).toNatClampNeg < 1 from (by decide)) G12 (z := (.int r_13)) (congrArg Value.int u13_3) at_130 rfl ?_
 intro T14 h14 X14 W14 A14
 replace A14 : oArr Z h14 b12 k12 .char [.int r_13] := A14
 refine o_iload K X14 at_131 rfl rfl ?_
 refine o_iconst K X14 at_133 rfl (z := 2) rfl ?_
 refine o_icmp_ne_t K X14 at_134 (by decide) (pc' := 148) (by decide) (by decide) ?_
 have n16 := oLn A9.lt (Keep.of_wr W11).1 (oLe g12)
 have m17 := ((A11.ext E12).other W14 n16)
 refine tl_t148_11 l Z a0 hw i0 i1 i2 i3 i4 i5 cp cq gc gd b9 k9 b12 k12 r_10 r_13 fm cs h14 (oCp e_cp e_gc) (oCp e_cq e_gd) m17 A14 G9 G12 u10_1 u13_1 u10_2 u13_2 u10_3 u13_3 q0 q1 q2 q3 (fun v15 h15 U15 => ?_) K (X14.mono (by decide) (by decide))
 obtain rfl : v15 = some (.int 1) := U15
 exact rfl
 obtain rfl : gb = (2 : Int32) := e_gb.trans (by rw [y]; decide)
 refine o_iload K X0 at_86 rfl rfl ?_
 refine o_newarray K X0 (aty := .char) 1 (w0 hw) (ad := "[C") (by decide +kernel) (by decide) (by decide) (by decide) rfl at_88 rfl (by decide) (by decide) ?_
 intro T18 h18 b18 k18 X18 g18 E18 A18 B18 G18
 replace A18 : oArr Z h18 b18 k18 .char [.int 0] := A18
 refine o_astore K X18 at_90 rfl rfl (L' := #[vI i0, vI i1, vI i2, vI i3, vI i4, vI i5, vI 1, vI 2, vI cp, vI cq, vI gc, vI gd, vR b18, uS, uS, uS, uS, uS, uS, uS, uS, uS]) rfl ?_
 refine o_aload K X18 at_92 rfl rfl rfl ?_
 refine o_iconst K X18 at_94 rfl (z := 0) rfl ?_
 refine o_iloadN K X18 at_95 rfl rfl ?_
 refine o_static K X18  (w1 hw) (w2 hw) (w3 hw) (w4 hw) (by decide) (rm_shelfChar l Z a0 hw i0 h18) (by decide) rfl (argsL := [.int i0]) rfl (lenOf pd11 rfl) (W := 2) rfl (by decide) (by decide) (by decide) at_96 rfl ?_
 intro v19 T19 h19 X19 U19
 obtain ⟨r_19, rfl, rfl, u19_1, u19_2, u19_3⟩ := U19
 show oGoes pp ee bb ss Z T19 (mkF mm 99 _ [.int r_19, .int 0, .ref b18]) _ _ _
 refine o_castore K X19 A18 (by decide) (show (0 : Int32).toNatClampNeg < 1 from (by decide)) G18 (z := (.int r_19)) (congrArg Value.int u19_3) at_99 rfl ?_
 intro T20 h20 X20 W20 A20
 replace A20 : oArr Z h20 b18 k18 .char [.int r_19] := A20
 refine o_iload K X20 at_100 rfl rfl ?_
 refine o_iconst K X20 at_102 rfl (z := 2) rfl ?_
 refine o_icmp_ne_t K X20 at_103 (by decide) (pc' := 117) (by decide) (by decide) ?_
 refine o_iload K X20 at_117 rfl rfl ?_
 refine o_newarray K X20 (aty := .char) 2 (w0 hw) (ad := "[C") (by decide +kernel) (by decide) (by decide) (by decide) rfl at_119 rfl (by decide) (by decide) ?_
 intro T21 h21 b21 k21 X21 g21 E21 A21 B21 G21
 replace A21 : oArr Z h21 b21 k21 .char [.int 0, .int 0] := A21
 refine o_astore K X21 at_121 rfl rfl (L' := #[vI i0, vI i1, vI i2, vI i3, vI i4, vI i5, vI 1, vI 2, vI cp, vI cq, vI gc, vI gd, vR b18, vR b21, uS, uS, uS, uS, uS, uS, uS, uS]) rfl ?_
 refine o_aload K X21 at_123 rfl rfl rfl ?_
 refine o_iconst K X21 at_125 rfl (z := 0) rfl ?_
 refine o_iloadN K X21 at_126 rfl rfl ?_
 refine o_static K X21  (w6 hw) (w7 hw) (w3 hw) (w8 hw) (by decide) (rm_idChar l Z a0 hw i1 h21) (by decide) rfl (argsL := [.int i1]) rfl (lenOf pd11 rfl) (W := 2) rfl (by decide) (by decide) (by decide) at_127 rfl ?_
 intro v22 T22 h22 X22 U22
 obtain ⟨r_22, rfl, rfl, u22_1, u22_2, u22_3⟩ := U22
 show oGoes pp ee bb ss Z T22 (mkF mm 130 _ [.int r_22, .int 0, .ref b21]) _ _ _
 refine o_castore K X22 A21 (by decide) (show (0 : Int32).toNatClampNeg < 2 from (by decide)) G21 (z := (.int r_22)) (congrArg Value.int u22_3) at_130 rfl ?_
 intro T23 h23 X23 W23 A23
 replace A23 : oArr Z h23 b21 k21 .char [.int r_22, .int 0] := A23
 refine o_iload K X23 at_131 rfl rfl ?_
 refine o_iconst K X23 at_133 rfl (z := 2) rfl ?_
 refine o_icmp_ne_f K X23 at_134 rfl (by decide) ?_
 refine o_aload K X23 at_137 rfl rfl rfl ?_
 refine o_iconst K X23 at_139 rfl (z := 1) rfl ?_
 refine o_iloadN K X23 at_140 rfl rfl ?_
 refine o_bipush K X23 at_141 rfl (z := 16) rfl ?_
 refine o_iushr K X23 at_143 rfl (z := ((i1.toUInt32 >>> ((16 : Int32) &&& 31).toUInt32).toInt32)) rfl ?_
 refine o_static K X23  (w6 hw) (w7 hw) (w3 hw) (w8 hw) (by decide) (rm_idChar l Z a0 hw ((i1.toUInt32 >>> ((16 : Int32) &&& 31).toUInt32).toInt32) h23) (by decide) rfl (argsL := [(.int ((i1.toUInt32 >>> ((16 : Int32) &&& 31).toUInt32).toInt32))]) rfl (lenOf pd11 rfl) (W := 2) rfl (by decide) (by decide) (by decide) at_144 rfl ?_
 intro v24 T24 h24 X24 U24
 obtain ⟨r_24, rfl, rfl, u24_1, u24_2, u24_3⟩ := U24
 show oGoes pp ee bb ss Z T24 (mkF mm 147 _ [.int r_24, .int 1, .ref b21]) _ _ _
 refine o_castore K X24 A23 (by decide) (show (1 : Int32).toNatClampNeg < 2 from (by decide)) G21 (z := (.int r_24)) (congrArg Value.int u24_3) at_147 rfl ?_
 intro T25 h25 X25 W25 A25
 replace A25 : oArr Z h25 b21 k21 .char [.int r_22, .int r_24] := A25
 have n27 := oLn A18.lt (Keep.of_wr W20).1 (oLe g21)
 have m28 := (((A20.ext E21).other W23 n27).other W25 n27)
 refine tl_t148_12 l Z a0 hw i0 i1 i2 i3 i4 i5 cp cq gc gd b18 k18 b21 k21 r_19 r_22 r_24 fm cs h25 (oCp e_cp e_gc) (oCp e_cq e_gd) m28 A25 G18 G21 u19_1 u22_1 u24_1 u19_2 u22_2 u24_2 u19_3 u22_3 u24_3 q0 q1 q2 q3 (fun v26 h26 U26 => ?_) K (X25.mono (by decide) (by decide))
 obtain rfl : v26 = some (.int 1) := U26
 exact rfl
 obtain rfl : ga = (2 : Int32) := e_ga.trans (by rw [y]; decide)
 rcases oAnd1 ((i4.toUInt32 >>> ((1 : Int32) &&& 31).toUInt32).toInt32) with y | y
 obtain rfl : gb = (1 : Int32) := e_gb.trans (by rw [y]; decide)
 refine o_iload K X0 at_86 rfl rfl ?_
 refine o_newarray K X0 (aty := .char) 2 (w0 hw) (ad := "[C") (by decide +kernel) (by decide) (by decide) (by decide) rfl at_88 rfl (by decide) (by decide) ?_
 intro T29 h29 b29 k29 X29 g29 E29 A29 B29 G29
 replace A29 : oArr Z h29 b29 k29 .char [.int 0, .int 0] := A29
 refine o_astore K X29 at_90 rfl rfl (L' := #[vI i0, vI i1, vI i2, vI i3, vI i4, vI i5, vI 2, vI 1, vI cp, vI cq, vI gc, vI gd, vR b29, uS, uS, uS, uS, uS, uS, uS, uS, uS]) rfl ?_
 refine o_aload K X29 at_92 rfl rfl rfl ?_
 refine o_iconst K X29 at_94 rfl (z := 0) rfl ?_
 refine o_iloadN K X29 at_95 rfl rfl ?_
 refine o_static K X29  (w1 hw) (w2 hw) (w3 hw) (w4 hw) (by decide) (rm_shelfChar l Z a0 hw i0 h29) (by decide) rfl (argsL := [.int i0]) rfl (lenOf pd11 rfl) (W := 2) rfl (by decide) (by decide) (by decide) at_96 rfl ?_
 intro v30 T30 h30 X30 U30
 obtain ⟨r_30, rfl, rfl, u30_1, u30_2, u30_3⟩ := U30
 show oGoes pp ee bb ss Z T30 (mkF mm 99 _ [.int r_30, .int 0, .ref b29]) _ _ _
 refine o_castore K X30 A29 (by decide) (show (0 : Int32).toNatClampNeg < 2 from (by decide)) G29 (z := (.int r_30)) (congrArg Value.int u30_3) at_99 rfl ?_
 intro T31 h31 X31 W31 A31
 replace A31 : oArr Z h31 b29 k29 .char [.int r_30, .int 0] := A31
 refine o_iload K X31 at_100 rfl rfl ?_
 refine o_iconst K X31 at_102 rfl (z := 2) rfl ?_
 refine o_icmp_ne_f K X31 at_103 rfl (by decide) ?_
 refine o_aload K X31 at_106 rfl rfl rfl ?_
 refine o_iconst K X31 at_108 rfl (z := 1) rfl ?_
 refine o_iloadN K X31 at_109 rfl rfl ?_
 refine o_bipush K X31 at_110 rfl (z := 16) rfl ?_
 refine o_iushr K X31 at_112 rfl (z := ((i0.toUInt32 >>> ((16 : Int32) &&& 31).toUInt32).toInt32)) rfl ?_
 refine o_static K X31  (w1 hw) (w2 hw) (w3 hw) (w4 hw) (by decide) (rm_shelfChar l Z a0 hw ((i0.toUInt32 >>> ((16 : Int32) &&& 31).toUInt32).toInt32) h31) (by decide) rfl (argsL := [(.int ((i0.toUInt32 >>> ((16 : Int32) &&& 31).toUInt32).toInt32))]) rfl (lenOf pd11 rfl) (W := 2) rfl (by decide) (by decide) (by decide) at_113 rfl ?_
 intro v32 T32 h32 X32 U32
 obtain ⟨r_32, rfl, rfl, u32_1, u32_2, u32_3⟩ := U32
 show oGoes pp ee bb ss Z T32 (mkF mm 116 _ [.int r_32, .int 1, .ref b29]) _ _ _
 refine o_castore K X32 A31 (by decide) (show (1 : Int32).toNatClampNeg < 2 from (by decide)) G29 (z := (.int r_32)) (congrArg Value.int u32_3) at_116 rfl ?_
 intro T33 h33 X33 W33 A33
 replace A33 : oArr Z h33 b29 k29 .char [.int r_30, .int r_32] := A33
 refine o_iload K X33 at_117 rfl rfl ?_
 refine o_newarray K X33 (aty := .char) 1 (w0 hw) (ad := "[C") (by decide +kernel) (by decide) (by decide) (by decide) rfl at_119 rfl (by decide) (by decide) ?_
 intro T34 h34 b34 k34 X34 g34 E34 A34 B34 G34
 replace A34 : oArr Z h34 b34 k34 .char [.int 0] := A34
 refine o_astore K X34 at_121 rfl rfl (L' := #[vI i0, vI i1, vI i2, vI i3, vI i4, vI i5, vI 2, vI 1, vI cp, vI cq, vI gc, vI gd, vR b29, vR b34, uS, uS, uS, uS, uS, uS, uS, uS]) rfl ?_
 refine o_aload K X34 at_123 rfl rfl rfl ?_
 refine o_iconst K X34 at_125 rfl (z := 0) rfl ?_
 refine o_iloadN K X34 at_126 rfl rfl ?_
 refine o_static K X34  (w6 hw) (w7 hw) (w3 hw) (w8 hw) (by decide) (rm_idChar l Z a0 hw i1 h34) (by decide) rfl (argsL := [.int i1]) rfl (lenOf pd11 rfl) (W := 2) rfl (by decide) (by decide) (by decide) at_127 rfl ?_
 intro v35 T35 h35 X35 U35
 obtain ⟨r_35, rfl, rfl, u35_1, u35_2, u35_3⟩ := U35
 show oGoes pp ee bb ss Z T35 (mkF mm 130 _ [.int r_35, .int 0, .ref b34]) _ _ _
 refine o_castore K X35 A34 (by decide) (show (0 : Int32).toNatClampNeg < 1 from (by decide)) G34 (z := (.int r_35)) (congrArg Value.int u35_3) at_130 rfl ?_
 intro T36 h36 X36 W36 A36
 replace A36 : oArr Z h36 b34 k34 .char [.int r_35] := A36
 refine o_iload K X36 at_131 rfl rfl ?_
 refine o_iconst K X36 at_133 rfl (z := 2) rfl ?_
 refine o_icmp_ne_t K X36 at_134 (by decide) (pc' := 148) (by decide) (by decide) ?_
 have n38 := oLn A29.lt (Nat.le_trans (Keep.of_wr W31).1 (Keep.of_wr W33).1) (oLe g34)
 have m39 := ((A33.ext E34).other W36 n38)
 refine tl_t148_21 l Z a0 hw i0 i1 i2 i3 i4 i5 cp cq gc gd b29 k29 b34 k34 r_30 r_32 r_35 fm cs h36 (oCp e_cp e_gc) (oCp e_cq e_gd) m39 A36 G29 G34 u30_1 u32_1 u35_1 u30_2 u32_2 u35_2 u30_3 u32_3 u35_3 q0 q1 q2 q3 (fun v37 h37 U37 => ?_) K (X36.mono (by decide) (by decide))
 obtain rfl : v37 = some (.int 1) := U37
 exact rfl
 obtain rfl : gb = (2 : Int32) := e_gb.trans (by rw [y]; decide)
 refine o_iload K X0 at_86 rfl rfl ?_
 refine o_newarray K X0 (aty := .char) 2 (w0 hw) (ad := "[C") (by decide +kernel) (by decide) (by decide) (by decide) rfl at_88 rfl (by decide) (by decide) ?_
 intro T40 h40 b40 k40 X40 g40 E40 A40 B40 G40
 replace A40 : oArr Z h40 b40 k40 .char [.int 0, .int 0] := A40
 refine o_astore K X40 at_90 rfl rfl (L' := #[vI i0, vI i1, vI i2, vI i3, vI i4, vI i5, vI 2, vI 2, vI cp, vI cq, vI gc, vI gd, vR b40, uS, uS, uS, uS, uS, uS, uS, uS, uS]) rfl ?_
 refine o_aload K X40 at_92 rfl rfl rfl ?_
 refine o_iconst K X40 at_94 rfl (z := 0) rfl ?_
 refine o_iloadN K X40 at_95 rfl rfl ?_
 refine o_static K X40  (w1 hw) (w2 hw) (w3 hw) (w4 hw) (by decide) (rm_shelfChar l Z a0 hw i0 h40) (by decide) rfl (argsL := [.int i0]) rfl (lenOf pd11 rfl) (W := 2) rfl (by decide) (by decide) (by decide) at_96 rfl ?_
 intro v41 T41 h41 X41 U41
 obtain ⟨r_41, rfl, rfl, u41_1, u41_2, u41_3⟩ := U41
 show oGoes pp ee bb ss Z T41 (mkF mm 99 _ [.int r_41, .int 0, .ref b40]) _ _ _
 refine o_castore K X41 A40 (by decide) (show (0 : Int32).toNatClampNeg < 2 from (by decide)) G40 (z := (.int r_41)) (congrArg Value.int u41_3) at_99 rfl ?_
 intro T42 h42 X42 W42 A42
 replace A42 : oArr Z h42 b40 k40 .char [.int r_41, .int 0] := A42
 refine o_iload K X42 at_100 rfl rfl ?_
 refine o_iconst K X42 at_102 rfl (z := 2) rfl ?_
 refine o_icmp_ne_f K X42 at_103 rfl (by decide) ?_
 refine o_aload K X42 at_106 rfl rfl rfl ?_
 refine o_iconst K X42 at_108 rfl (z := 1) rfl ?_
 refine o_iloadN K X42 at_109 rfl rfl ?_
 refine o_bipush K X42 at_110 rfl (z := 16) rfl ?_
 refine o_iushr K X42 at_112 rfl (z := ((i0.toUInt32 >>> ((16 : Int32) &&& 31).toUInt32).toInt32)) rfl ?_
 refine o_static K X42  (w1 hw) (w2 hw) (w3 hw) (w4 hw) (by decide) (rm_shelfChar l Z a0 hw ((i0.toUInt32 >>> ((16 : Int32) &&& 31).toUInt32).toInt32) h42) (by decide) rfl (argsL := [(.int ((i0.toUInt32 >>> ((16 : Int32) &&& 31).toUInt32).toInt32))]) rfl (lenOf pd11 rfl) (W := 2) rfl (by decide) (by decide) (by decide) at_113 rfl ?_
 intro v43 T43 h43 X43 U43
 obtain ⟨r_43, rfl, rfl, u43_1, u43_2, u43_3⟩ := U43
 show oGoes pp ee bb ss Z T43 (mkF mm 116 _ [.int r_43, .int 1, .ref b40]) _ _ _
 refine o_castore K X43 A42 (by decide) (show (1 : Int32).toNatClampNeg < 2 from (by decide)) G40 (z := (.int r_43)) (congrArg Value.int u43_3) at_116 rfl ?_
 intro T44 h44 X44 W44 A44
 replace A44 : oArr Z h44 b40 k40 .char [.int r_41, .int r_43] := A44
 refine o_iload K X44 at_117 rfl rfl ?_
 refine o_newarray K X44 (aty := .char) 2 (w0 hw) (ad := "[C") (by decide +kernel) (by decide) (by decide) (by decide) rfl at_119 rfl (by decide) (by decide) ?_
 intro T45 h45 b45 k45 X45 g45 E45 A45 B45 G45
 replace A45 : oArr Z h45 b45 k45 .char [.int 0, .int 0] := A45
 refine o_astore K X45 at_121 rfl rfl (L' := #[vI i0, vI i1, vI i2, vI i3, vI i4, vI i5, vI 2, vI 2, vI cp, vI cq, vI gc, vI gd, vR b40, vR b45, uS, uS, uS, uS, uS, uS, uS, uS]) rfl ?_
 refine o_aload K X45 at_123 rfl rfl rfl ?_
 refine o_iconst K X45 at_125 rfl (z := 0) rfl ?_
 refine o_iloadN K X45 at_126 rfl rfl ?_
 refine o_static K X45  (w6 hw) (w7 hw) (w3 hw) (w8 hw) (by decide) (rm_idChar l Z a0 hw i1 h45) (by decide) rfl (argsL := [.int i1]) rfl (lenOf pd11 rfl) (W := 2) rfl (by decide) (by decide) (by decide) at_127 rfl ?_
 intro v46 T46 h46 X46 U46
 obtain ⟨r_46, rfl, rfl, u46_1, u46_2, u46_3⟩ := U46
 show oGoes pp ee bb ss Z T46 (mkF mm 130 _ [.int r_46, .int 0, .ref b45]) _ _ _
 refine o_castore K X46 A45 (by decide) (show (0 : Int32).toNatClampNeg < 2 from (by decide)) G45 (z := (.int r_46)) (congrArg Value.int u46_3) at_130 rfl ?_
 intro T47 h47 X47 W47 A47
 replace A47 : oArr Z h47 b45 k45 .char [.int r_46, .int 0] := A47
 refine o_iload K X47 at_131 rfl rfl ?_
 refine o_iconst K X47 at_133 rfl (z := 2) rfl ?_
 refine o_icmp_ne_f K X47 at_134 rfl (by decide) ?_
 refine o_aload K X47 at_137 rfl rfl rfl ?_
 refine o_iconst K X47 at_139 rfl (z := 1) rfl ?_
 refine o_iloadN K X47 at_140 rfl rfl ?_
 refine o_bipush K X47 at_141 rfl (z := 16) rfl ?_
 refine o_iushr K X47 at_143 rfl (z := ((i1.toUInt32 >>> ((16 : Int32) &&& 31).toUInt32).toInt32)) rfl ?_
 refine o_static K X47  (w6 hw) (w7 hw) (w3 hw) (w8 hw) (by decide) (rm_idChar l Z a0 hw ((i1.toUInt32 >>> ((16 : Int32) &&& 31).toUInt32).toInt32) h47) (by decide) rfl (argsL := [(.int ((i1.toUInt32 >>> ((16 : Int32) &&& 31).toUInt32).toInt32))]) rfl (lenOf pd11 rfl) (W := 2) rfl (by decide) (by decide) (by decide) at_144 rfl ?_
 intro v48 T48 h48 X48 U48
 obtain ⟨r_48, rfl, rfl, u48_1, u48_2, u48_3⟩ := U48
 show oGoes pp ee bb ss Z T48 (mkF mm 147 _ [.int r_48, .int 1, .ref b45]) _ _ _
 refine o_castore K X48 A47 (by decide) (show (1 : Int32).toNatClampNeg < 2 from (by decide)) G45 (z := (.int r_48)) (congrArg Value.int u48_3) at_147 rfl ?_
 intro T49 h49 X49 W49 A49
 replace A49 : oArr Z h49 b45 k45 .char [.int r_46, .int r_48] := A49
 have n51 := oLn A40.lt (Nat.le_trans (Keep.of_wr W42).1 (Keep.of_wr W44).1) (oLe g45)
 have m52 := (((A44.ext E45).other W47 n51).other W49 n51)
 refine tl_t148_22 l Z a0 hw i0 i1 i2 i3 i4 i5 cp cq gc gd b40 k40 b45 k45 r_41 r_43 r_46 r_48 fm cs h49 (oCp e_cp e_gc) (oCp e_cq e_gd) m52 A49 G40 G45 u41_1 u43_1 u46_1 u48_1 u41_2 u43_2 u46_2 u48_2 u41_3 u43_3 u46_3 u48_3 q0 q1 q2 q3 (fun v50 h50 U50 => ?_) K (X49.mono (by decide) (by decide))
 obtain rfl : v50 = some (.int 1) := U50
 exact rfl
set_option maxRecDepth 65536 in
set_option maxHeartbeats 40000000 in
theorem comes_1 {Post : Tables → Env → Array Value → State → Outcome → State → Prop} (hpost : ∀ tb e args s v u, (limb_1_1.after args s (.returned v) u = true ∧ limb_1_2.after args s (.returned v) u = true ∧ True) → FrameEnd s (.returned v) u (Jvm.fieldLocs frame_1_writes args s ++ Jvm.arrayLocs frame_1_arrays args s ++ Jvm.staticLocs frame_1_statics s) 40 192 → Post tb e args s (.returned v) u) :
    ArmFor flags0 classFile x code maxLocals ret World_1 tables_1 room_1 Calls_1 rest_1 Pre_1 Post := by
  intro l hfl _ _ p e ha hc hk s m args below hf hA hF happ hP
  obtain ⟨hcalls, hrest, hpre⟩ := hP
  obtain ⟨-, -, -, hnamed, -, -, -, hat⟩ := (Spec.applies_iff hf).mp happ
  obtain ⟨hg, hn⟩ := and_e (Cond.before_iff.mp (show (Jvm.Cond.and given_1 narrow_1).before args s = true from hpre))
  obtain ⟨g0, gr0⟩ := and_e hg
  obtain ⟨g1, gr1⟩ := and_e gr0
  obtain ⟨g2, gr2⟩ := and_e gr1
  obtain ⟨g3, gr3⟩ := and_e gr2
  obtain ⟨g4, gr4⟩ := and_e gr3
  obtain ⟨g5, gr5⟩ := and_e gr4
  obtain ⟨w_0, w_1, w_2, w_3, w_4, w_5, rfl⟩ : ∃ w_0 w_1 w_2 w_3 w_4 w_5 : Value, args = #[w_0, w_1, w_2, w_3, w_4, w_5] := by
    have hs : args.size = 6 := by simpa [Jvm.Cond.value] using g0
    obtain ⟨L⟩ := args
    match L, hs with
    | [w_0, w_1, w_2, w_3, w_4, w_5], _ => exact ⟨w_0, w_1, w_2, w_3, w_4, w_5, rfl⟩
  have hw : oHw s #[w_0, w_1, w_2, w_3, w_4, w_5] := fun d (hd : d ∈ tables_1) => atoms_spec (ws := Jvm.Cond.code x code maxLocals ret :: tables_1) hat d (List.mem_cons_of_mem _ hd)
  have hfit : Fit s := fun {y c} hc i hi => by
    obtain ⟨ha, rfl⟩ := Array.getElem?_eq_some_iff.mp hc
    have q := List.all_eq_true.mp ((Array.all_eq_true_iff_forall_mem.mp hF) _ (Array.getElem_mem ha)) i (List.mem_range.mpr hi)
    simpa [Array.getElem?_eq_getElem hi] using q
  obtain ⟨hsets, hown0⟩ := atoms_of _ (rest_1_c_eq ▸ (show rest_1_c.before _ s = true from hrest))
  obtain ⟨i0, ei0⟩ := is_v g1
  obtain rfl : w_0 = (.int i0) := Option.some.inj ei0
  obtain ⟨i1, ei1⟩ := is_v g2
  obtain rfl : w_1 = (.int i1) := Option.some.inj ei1
  obtain ⟨i2, ei2⟩ := is_v g3
  obtain rfl : w_2 = (.int i2) := Option.some.inj ei2
  obtain ⟨i3, ei3⟩ := is_v g4
  obtain rfl : w_3 = (.int i3) := Option.some.inj ei3
  obtain ⟨i4, ei4⟩ := is_v g5
  obtain rfl : w_4 = (.int i4) := Option.some.inj ei4
  obtain ⟨i5, ei5⟩ := is_v gr5
  obtain rfl : w_5 = (.int i5) := Option.some.inj ei5
  obtain ⟨cs, ecs⟩ := is_v (Cond.before_iff.mp (hsets _ (List.mem_of_getElem? (i := 1) rfl)))
  have Scs := Sta.start ecs (Or.inl (hsets _ (List.mem_of_getElem? (i := 0) rfl)))
  have ncs : ¬ (cs = (0 : Int32)) := oNeInt_v ecs (Cond.before_iff.mp (hsets _ (List.mem_of_getElem? (i := 2) rfl)))
  obtain ⟨fm, efm, rfm⟩ := isR_v (Cond.before_iff.mp (hsets _ (List.mem_of_getElem? (i := 8) rfl)))
  have Sfm := Sta.start efm (Or.inl (hsets _ (List.mem_of_getElem? (i := 7) rfl)))
  obtain ⟨n, o, h1, h2, h3, v, L, rfl, ⟨hQ, N, E⟩, hq⟩ := rm_law l s _ hw i0 i1 i2 i3 i4 i5 fm cs s.heap Sfm rfm Scs ncs tables_1 ⟨Nat.le_refl _, fun _ _ q => q⟩ p e ha hc hk s m _ below hf ((Spec.applies_iff_loose hf).mp happ).1 ⟨rfl, State.WarmedH.refl s, rfl⟩ trivial
  obtain rfl : v = some (.int 1) := hQ
  refine ⟨n, _, h1, h2, h3, hpost _ _ _ _ _ _ ⟨Cond.after_iff.mpr rfl, Cond.after_iff.mpr (eq_i res_at (Term.int_eval (1)) rfl), trivial⟩ ⟨hq.1, hq.2.1, (hq.2.2.sift fun y hy => Or.inr (N y hy)).mono (by decide) (by decide)⟩⟩
theorem main_1_1 : Claimed_1_1 := comes_1 fun _ _ _ _ _ _ h hF => ⟨h.1, Jvm.LamKit.wideOf hF⟩
theorem main_1_2 : Claimed_1_2 := comes_1 fun _ _ _ _ _ _ h hF => ⟨h.2.1, Jvm.LamKit.wideOf hF⟩
end Jvm.Pilot.@@N@@
namespace Jvm.Pilot.@@N@@
open Jvm Jvm.ClassFile Sem Op Lib Jvm.Free Jvm.Stand Jvm.Pilot.@@N@@.Jvm.D
/-! MADE BY PROGRAM (witnessworld.py) out of the Statement's table words and the real class files: 24 classes; the members and pool entries that the words name. The judged class is class 1, her method 3. -/
namespace start1
open Jvm.ClassFile
def u (s : String) : CpInfo := .utf8 (stringToUtf16 s)
/-- a pool by its gaps: so many unusable entries, then the entry; so many at the end -/
def gap : Nat → List CpInfo → List CpInfo
  | 0, r => r
  | n + 1, r => .unusable :: gap n r
def poolList (es : List (Nat × CpInfo)) (last : Nat) : List CpInfo := es.foldr (fun e r => gap e.1 (e.2 :: r)) (gap last [])
def pool (es : List (Nat × CpInfo)) (last : Nat) : Array CpInfo := ⟨poolList es last⟩
def fileOf (pool : Array CpInfo) (this : Nat) (attrs : Array Attribute := #[]) (ms : Array MethodInfo := #[]) (fl : Nat := 33) (sup : Nat := 0) (ifs : Array Nat := #[]) (fds : Array FieldInfo := #[]) : ClassFile where
  minorVersion := 0
  majorVersion := 65
  constantPool := pool
  accessFlags := fl
  thisClass := this
  superClass := sup
  interfaces := ifs
  fields := fds
  methods := ms
  attributes := attrs
def plain (name : String) (sup : Option ClassId) : Class where
  name := name
  kind := .ordinary
  loader := none
  accessFlags := 33
  super := sup
  interfaces := #[]
  cf := none
  fields := #[]
  methods := #[]
  instanceTypes := #[]
  staticTypes := #[]
  resolved := #[]
  callSites := []
  init := .initialized
  statics := none
  mirror := none

def pool0 : Array CpInfo := pool [(5, u "<init>"), (0, u "()V"), (1, .class_ 10), (1, u "java/lang/Object")] 113

def k0c0 : Code := { maxStack := 0, maxLocals := 1, code := object_method_1_code, exceptionTable := #[], attributes := #[] }
def k0m0 : Method := { name := "<init>", desc := "()V", sig := { parameters := [], returnType := none }, accessFlags := 1, code := some k0c0 }
/-- java/lang/Object -/
def k0 : Class := { plain "java/lang/Object" none with
  accessFlags := 33
  interfaces := #[]
  cf := some (fileOf pool0 8 #[] #[{ accessFlags := 1, nameIndex := 5, descriptorIndex := 6, attributes := #[] }] 33 0 #[] #[])
  fields := #[]
  methods := #[k0m0]
  instanceTypes := #[]
  staticTypes := #[]
  resolved := Array.replicate 124 none
  statics := none }

def pool1 : Array CpInfo := pool [(2, .class_ 4), (1, u "java/lang/Object"), (0, u "<init>"), (0, u "()V"), (0, .integer 2147483647), (0, .methodref 9 10), (0, .class_ 11), (0, .nameAndType 12 13), (0, u "com/example/hotshelf/hotshelf/model/RecordKeyEqualsPinLaw"), (0, u "shelfChar"), (0, u "(I)C"), (0, .methodref 9 15), (0, .nameAndType 16 13), (0, u "idChar"), (0, .class_ 18), (0, u "com/example/hotshelf/hotshelf/model/RecordKey"), (0, .class_ 20), (0, u "java/lang/String"), (0, .methodref 19 22), (0, .nameAndType 5 23), (0, u "([C)V"), (0, .methodref 17 25), (0, .nameAndType 5 26), (0, u "(Ljava/lang/String;Ljava/lang/String;)V"), (0, .methodref 17 28), (0, .nameAndType 29 30), (0, u "equals"), (0, u "(Ljava/lang/Object;)Z"), (3, u "law"), (0, u "(IIIIII)Z")] 4

def k1m0 : Method := { name := "<init>", desc := "()V", sig := { parameters := [], returnType := none }, accessFlags := 1, code := none }
def k1c1 : Code := { maxStack := 3, maxLocals := 2, code := method_2_code, exceptionTable := #[], attributes := #[] }
def k1m1 : Method := { name := "shelfChar", desc := "(I)C", sig := { parameters := [.int], returnType := some .char }, accessFlags := 10, code := some k1c1 }
def k1c2 : Code := { maxStack := 3, maxLocals := 2, code := method_3_code, exceptionTable := #[], attributes := #[] }
def k1m2 : Method := { name := "idChar", desc := "(I)C", sig := { parameters := [.int], returnType := some .char }, accessFlags := 10, code := some k1c2 }
def k1c3 : Code := { maxStack := 6, maxLocals := 22, code := code, exceptionTable := #[], attributes := #[] }
def k1m3 : Method := { name := "law", desc := "(IIIIII)Z", sig := { parameters := [.int, .int, .int, .int, .int, .int], returnType := some .boolean }, accessFlags := 9, code := some k1c3 }
/-- com/example/hotshelf/hotshelf/model/RecordKeyEqualsPinLaw -/
def k1 : Class := { plain "com/example/hotshelf/hotshelf/model/RecordKeyEqualsPinLaw" (some 0) with
  accessFlags := 49
  interfaces := #[]
  cf := some (fileOf pool1 9 #[] #[{ accessFlags := 1, nameIndex := 5, descriptorIndex := 6, attributes := #[] }, { accessFlags := 10, nameIndex := 12, descriptorIndex := 13, attributes := #[] }, { accessFlags := 10, nameIndex := 16, descriptorIndex := 13, attributes := #[] }, { accessFlags := 9, nameIndex := 34, descriptorIndex := 35, attributes := #[] }] 49 2 #[] #[])
  fields := #[]
  methods := #[k1m0, k1m1, k1m2, k1m3]
  instanceTypes := #[]
  staticTypes := #[]
  resolved := Array.replicate 40 none
  statics := none }

def pool2 : Array CpInfo := pool [(1, .methodref 2 3), (0, .class_ 4), (0, .nameAndType 5 6), (0, u "java/lang/Object"), (0, u "<init>"), (0, u "()V"), (0, .class_ 8), (0, u "java/lang/Record")] 13

def k2c0 : Code := { maxStack := 1, maxLocals := 1, code := jdk_30_method_1_code, exceptionTable := #[], attributes := #[] }
def k2m0 : Method := { name := "<init>", desc := "()V", sig := { parameters := [], returnType := none }, accessFlags := 4, code := some k2c0 }
/-- java/lang/Record -/
def k2 : Class := { plain "java/lang/Record" (some 0) with
  accessFlags := 1057
  interfaces := #[]
  cf := some (fileOf pool2 7 #[] #[{ accessFlags := 4, nameIndex := 5, descriptorIndex := 6, attributes := #[] }] 1057 2 #[] #[])
  fields := #[]
  methods := #[k2m0]
  instanceTypes := #[]
  staticTypes := #[]
  resolved := Array.replicate 22 none
  statics := none }

def pool3 : Array CpInfo := pool [(1, .class_ 2), (0, u "com/example/hotshelf/hotshelf/model/RecordKey"), (0, .methodref 4 5), (0, .class_ 6), (0, .nameAndType 7 8), (0, u "java/lang/Record"), (0, u "<init>"), (0, u "()V"), (0, .methodref 1 10), (0, .nameAndType 11 12), (0, u "isShelfName"), (0, u "(Ljava/lang/String;)Z"), (7, .methodref 1 21), (0, .nameAndType 22 12), (0, u "isRecordId"), (2, .fieldref 1 26), (0, .nameAndType 27 28), (0, u "shelf"), (0, u "Ljava/lang/String;"), (0, .fieldref 1 30), (0, .nameAndType 31 28), (0, u "id"), (0, .methodref 33 34), (0, .class_ 35), (0, .nameAndType 36 37), (0, u "java/lang/String"), (0, u "equals"), (0, u "(Ljava/lang/Object;)Z"), (3, u "()I"), (0, .invokeDynamic 0 43), (0, .nameAndType 44 45), (0, u "test"), (0, u "()Ljava/util/function/IntPredicate;"), (0, .methodref 1 47), (0, .nameAndType 48 49), (0, u "isMadeOf"), (0, u "(Ljava/lang/String;ILjava/util/function/IntPredicate;)Z"), (0, .invokeDynamic 1 43), (0, .methodref 33 52), (0, .nameAndType 53 54), (0, u "isEmpty"), (0, u "()Z"), (0, .methodref 33 56), (0, .nameAndType 57 41), (0, u "length"), (0, .methodref 33 59), (0, .nameAndType 60 61), (0, u "charAt"), (0, u "(I)C"), (0, .interfaceMethodref 63 64), (0, .class_ 65), (0, .nameAndType 44 66), (0, u "java/util/function/IntPredicate"), (0, u "(I)Z"), (0, .methodref 1 68), (0, .nameAndType 69 66), (0, u "isShelfChar"), (4, u "MAX_SHELF_LENGTH"), (0, u "I"), (2, u "MAX_ID_LENGTH"), (1, u "SHELF_NAME_RULE"), (0, u "RECORD_ID_RULE"), (0, u "(Ljava/lang/String;Ljava/lang/String;)V"), (4, u "isIdChar"), (5, .methodType 66), (0, .methodHandle 6 67), (0, .methodHandle 6 96), (0, .methodref 1 97), (0, .nameAndType 87 66), (4, .methodHandle 6 103), (0, .methodref 104 105), (0, .class_ 106), (0, .nameAndType 107 108), (0, u "java/lang/invoke/LambdaMetafactory"), (0, u "metafactory"), (0, u "(Ljava/lang/invoke/MethodHandles$Lookup;Ljava/lang/String;Ljava/lang/invoke/MethodType;Ljava/lang/invoke/MethodType;Ljava/lang/invoke/MethodHandle;Ljava/lang/invoke/MethodType;)Ljava/lang/invoke/CallSite;")] 13

def k3c0 : Code := { maxStack := 3, maxLocals := 3, code := prog_16_method_1_code, exceptionTable := #[], attributes := #[] }
def k3m0 : Method := { name := "<init>", desc := "(Ljava/lang/String;Ljava/lang/String;)V", sig := { parameters := [(.object "java/lang/String"), (.object "java/lang/String")], returnType := none }, accessFlags := 1, code := some k3c0 }
def k3c1 : Code := { maxStack := 2, maxLocals := 3, code := prog_16_method_2_code, exceptionTable := #[], attributes := #[] }
def k3m1 : Method := { name := "equals", desc := "(Ljava/lang/Object;)Z", sig := { parameters := [(.object "java/lang/Object")], returnType := some .boolean }, accessFlags := 1, code := some k3c1 }
def k3c2 : Code := { maxStack := 3, maxLocals := 1, code := prog_16_method_4_code, exceptionTable := #[], attributes := #[] }
def k3m2 : Method := { name := "isShelfName", desc := "(Ljava/lang/String;)Z", sig := { parameters := [(.object "java/lang/String")], returnType := some .boolean }, accessFlags := 9, code := some k3c2 }
def k3c3 : Code := { maxStack := 3, maxLocals := 1, code := prog_16_method_5_code, exceptionTable := #[], attributes := #[] }
def k3m3 : Method := { name := "isRecordId", desc := "(Ljava/lang/String;)Z", sig := { parameters := [(.object "java/lang/String")], returnType := some .boolean }, accessFlags := 9, code := some k3c3 }
def k3c4 : Code := { maxStack := 3, maxLocals := 4, code := prog_16_method_6_code, exceptionTable := #[], attributes := #[] }
def k3m4 : Method := { name := "isMadeOf", desc := "(Ljava/lang/String;ILjava/util/function/IntPredicate;)Z", sig := { parameters := [(.object "java/lang/String"), .int, (.object "java/util/function/IntPredicate")], returnType := some .boolean }, accessFlags := 10, code := some k3c4 }
def k3c5 : Code := { maxStack := 2, maxLocals := 1, code := prog_16_method_7_code, exceptionTable := #[], attributes := #[] }
def k3m5 : Method := { name := "isShelfChar", desc := "(I)Z", sig := { parameters := [.int], returnType := some .boolean }, accessFlags := 10, code := some k3c5 }
def k3c6 : Code := { maxStack := 2, maxLocals := 1, code := prog_16_method_8_code, exceptionTable := #[], attributes := #[] }
def k3m6 : Method := { name := "isIdChar", desc := "(I)Z", sig := { parameters := [.int], returnType := some .boolean }, accessFlags := 10, code := some k3c6 }
/-- com/example/hotshelf/hotshelf/model/RecordKey -/
def k3 : Class := { plain "com/example/hotshelf/hotshelf/model/RecordKey" (some 2) with
  accessFlags := 49
  interfaces := #[]
  cf := some (fileOf pool3 1 #[.bootstrapMethods #[⟨102, #[93, 94, 93]⟩, ⟨102, #[93, 95, 93]⟩, ⟨0, #[]⟩]] #[{ accessFlags := 1, nameIndex := 7, descriptorIndex := 82, attributes := #[] }, { accessFlags := 1, nameIndex := 36, descriptorIndex := 37, attributes := #[] }, { accessFlags := 9, nameIndex := 11, descriptorIndex := 12, attributes := #[] }, { accessFlags := 9, nameIndex := 22, descriptorIndex := 12, attributes := #[] }, { accessFlags := 10, nameIndex := 48, descriptorIndex := 49, attributes := #[] }, { accessFlags := 10, nameIndex := 69, descriptorIndex := 66, attributes := #[] }, { accessFlags := 10, nameIndex := 87, descriptorIndex := 66, attributes := #[] }] 49 4 #[] #[{ accessFlags := 18, nameIndex := 27, descriptorIndex := 28, attributes := #[] }, { accessFlags := 18, nameIndex := 31, descriptorIndex := 28, attributes := #[] }, { accessFlags := 25, nameIndex := 74, descriptorIndex := 75, attributes := #[] }, { accessFlags := 25, nameIndex := 78, descriptorIndex := 75, attributes := #[] }, { accessFlags := 25, nameIndex := 80, descriptorIndex := 28, attributes := #[] }, { accessFlags := 25, nameIndex := 81, descriptorIndex := 28, attributes := #[] }])
  fields := #[{ name := "shelf", type := (.object "java/lang/String"), accessFlags := 18, slot := 0, constantValue := 0 }, { name := "id", type := (.object "java/lang/String"), accessFlags := 18, slot := 1, constantValue := 0 }, { name := "MAX_SHELF_LENGTH", type := .int, accessFlags := 25, slot := 0, constantValue := 0 }, { name := "MAX_ID_LENGTH", type := .int, accessFlags := 25, slot := 1, constantValue := 0 }, { name := "SHELF_NAME_RULE", type := (.object "java/lang/String"), accessFlags := 25, slot := 2, constantValue := 0 }, { name := "RECORD_ID_RULE", type := (.object "java/lang/String"), accessFlags := 25, slot := 3, constantValue := 0 }]
  methods := #[k3m0, k3m1, k3m2, k3m3, k3m4, k3m5, k3m6]
  instanceTypes := #[(.object "java/lang/String"), (.object "java/lang/String")]
  staticTypes := #[.int, .int, (.object "java/lang/String"), (.object "java/lang/String")]
  resolved := Array.replicate 122 none
  callSites := [(2, 3, .constant 2), (3, 4, .constant 3)]
  statics := none }

def pool4 : Array CpInfo := pool [(1, .class_ 2), (0, u "java/io/Serializable"), (0, .class_ 4), (0, u "java/lang/Object")] 2

/-- java/io/Serializable -/
def k4 : Class := { plain "java/io/Serializable" (some 0) with
  accessFlags := 1537
  interfaces := #[]
  cf := some (fileOf pool4 1 #[] #[] 1537 3 #[] #[])
  fields := #[]
  methods := #[]
  instanceTypes := #[]
  staticTypes := #[]
  resolved := Array.replicate 7 none
  statics := none }

def pool5 : Array CpInfo := pool [(1, .class_ 2), (0, u "java/lang/Comparable"), (0, .class_ 4), (0, u "java/lang/Object")] 7

/-- java/lang/Comparable -/
def k5 : Class := { plain "java/lang/Comparable" (some 0) with
  accessFlags := 1537
  interfaces := #[]
  cf := some (fileOf pool5 1 #[] #[] 1537 3 #[] #[])
  fields := #[]
  methods := #[]
  instanceTypes := #[]
  staticTypes := #[]
  resolved := Array.replicate 12 none
  statics := none }

def pool6 : Array CpInfo := pool [(2, .class_ 4), (1, u "java/lang/CharSequence"), (42, .class_ 48), (0, u "java/lang/CharSequence$1CodePointIterator"), (10, .class_ 60), (0, u "java/lang/CharSequence$1CharIterator"), (5, .class_ 67), (0, u "java/lang/Object")] 63

/-- java/lang/CharSequence -/
def k6 : Class := { plain "java/lang/CharSequence" (some 0) with
  accessFlags := 1537
  interfaces := #[]
  cf := some (fileOf pool6 2 #[.nestMembers #[47, 59]] #[] 1537 66 #[] #[])
  fields := #[]
  methods := #[]
  instanceTypes := #[]
  staticTypes := #[]
  resolved := Array.replicate 131 none
  statics := none }

def pool7 : Array CpInfo := pool [(1, .class_ 2), (0, u "java/lang/constant/Constable"), (0, .class_ 4), (0, u "java/lang/Object")] 6

/-- java/lang/constant/Constable -/
def k7 : Class := { plain "java/lang/constant/Constable" (some 0) with
  accessFlags := 1537
  interfaces := #[]
  cf := some (fileOf pool7 1 #[] #[] 1537 3 #[] #[])
  fields := #[]
  methods := #[]
  instanceTypes := #[]
  staticTypes := #[]
  resolved := Array.replicate 11 none
  statics := none }

def pool8 : Array CpInfo := pool [(1, .class_ 2), (0, u "java/lang/constant/ConstantDesc"), (0, .class_ 4), (0, u "java/lang/Object")] 32

/-- java/lang/constant/ConstantDesc -/
def k8 : Class := { plain "java/lang/constant/ConstantDesc" (some 0) with
  accessFlags := 1537
  interfaces := #[]
  cf := some (fileOf pool8 1 #[] #[] 1537 3 #[] #[])
  fields := #[]
  methods := #[]
  instanceTypes := #[]
  staticTypes := #[]
  resolved := Array.replicate 37 none
  statics := none }

def pool9 : Array CpInfo := pool [(1, .methodref 2 3), (0, .class_ 4), (0, .nameAndType 5 6), (0, u "java/lang/Object"), (0, u "<init>"), (0, u "()V"), (2, .fieldref 10 11), (0, .class_ 12), (0, .nameAndType 13 14), (0, u "java/lang/String"), (0, u "value"), (0, u "[B"), (0, .fieldref 10 16), (0, .nameAndType 17 18), (0, u "coder"), (0, u "B"), (2, u "hash"), (0, u "I"), (2, u "hashIsZero"), (0, u "Z"), (0, .methodref 10 28), (0, .nameAndType 5 29), (0, u "([CIILjava/lang/Void;)V"), (8, .fieldref 10 39), (0, .nameAndType 40 26), (0, u "COMPACT_STRINGS"), (1, .class_ 44), (1, u "java/lang/StringUTF16"), (0, u "compress"), (1, .methodref 42 48), (0, .nameAndType 49 50), (0, u "coderFromArrayLen"), (0, u "([BI)B"), (56, .class_ 109), (1, u "java/lang/StringLatin1"), (32, u "()Z"), (34, .methodref 42 178), (0, .nameAndType 45 179), (0, u "([CII)[B"), (154, u "()I"), (0, .methodref 10 336), (0, .nameAndType 17 337), (0, u "()B"), (25, u "([BI)C"), (27, u "(II)V"), (35, u "(I)C"), (64, .methodref 10 493), (0, .nameAndType 494 142), (0, u "isLatin1"), (0, .methodref 107 496), (0, .nameAndType 497 363), (0, u "charAt"), (3, u "checkIndex"), (5, u "length"), (33, .methodref 107 542), (0, .nameAndType 543 544), (0, u "equals"), (0, u "([B[B)Z"), (28, u "(Ljava/lang/Object;)Z"), (1, .class_ 576), (0, u "java/lang/CharSequence"), (22, u "CASE_INSENSITIVE_ORDER"), (0, u "Ljava/util/Comparator;"), (91, u "isEmpty"), (317, u "([C)V"), (42, .fieldref 1054 1055), (0, .class_ 1056), (0, .nameAndType 1057 1058), (0, u "jdk/internal/util/Preconditions"), (0, u "SIOOBE_FORMATTER"), (0, u "Ljava/util/function/BiFunction;"), (0, .methodref 1054 1060), (0, .nameAndType 501 1061), (0, u "(IILjava/util/function/BiFunction;)I"), (39, u "serialPersistentFields"), (0, u "[Ljava/io/ObjectStreamField;"), (0, .class_ 1104), (0, u "java/lang/String$CaseInsensitiveComparator"), (1, .class_ 1107), (0, u "java/io/Serializable"), (0, .class_ 1109), (0, u "java/lang/Comparable"), (0, .class_ 1111), (0, u "java/lang/constant/Constable"), (0, .class_ 1113), (0, u "java/lang/constant/ConstantDesc"), (2, u "serialVersionUID"), (0, u "J"), (3, u "REPL"), (0, u "C"), (2, u "LATIN1"), (1, u "UTF16")] 323

def k9m0 : Method := { name := "<init>", desc := "()V", sig := { parameters := [], returnType := none }, accessFlags := 1, code := none }
def k9c1 : Code := { maxStack := 5, maxLocals := 2, code := jdk_42_method_3_code, exceptionTable := #[], attributes := #[] }
def k9m1 : Method := { name := "<init>", desc := "([C)V", sig := { parameters := [(.array .char)], returnType := none }, accessFlags := 1, code := some k9c1 }
def k9c2 : Code := { maxStack := 2, maxLocals := 1, code := jdk_42_method_54_code, exceptionTable := #[], attributes := #[] }
def k9m2 : Method := { name := "length", desc := "()I", sig := { parameters := [], returnType := some .int }, accessFlags := 1, code := some k9c2 }
def k9c3 : Code := { maxStack := 1, maxLocals := 1, code := jdk_42_method_55_code, exceptionTable := #[], attributes := #[] }
def k9m3 : Method := { name := "isEmpty", desc := "()Z", sig := { parameters := [], returnType := some .boolean }, accessFlags := 1, code := some k9c3 }
def k9c4 : Code := { maxStack := 2, maxLocals := 2, code := jdk_42_method_56_code, exceptionTable := #[], attributes := #[] }
def k9m4 : Method := { name := "charAt", desc := "(I)C", sig := { parameters := [.int], returnType := some .char }, accessFlags := 1, code := some k9c4 }
def k9c5 : Code := { maxStack := 2, maxLocals := 3, code := jdk_42_method_66_code, exceptionTable := #[], attributes := #[] }
def k9m5 : Method := { name := "equals", desc := "(Ljava/lang/Object;)Z", sig := { parameters := [(.object "java/lang/Object")], returnType := some .boolean }, accessFlags := 1, code := some k9c5 }
def k9c6 : Code := { maxStack := 4, maxLocals := 6, code := jdk_42_method_149_code, exceptionTable := #[], attributes := #[] }
def k9m6 : Method := { name := "<init>", desc := "([CIILjava/lang/Void;)V", sig := { parameters := [(.array .char), .int, .int, (.object "java/lang/Void")], returnType := none }, accessFlags := 2, code := some k9c6 }
def k9c7 : Code := { maxStack := 1, maxLocals := 1, code := jdk_42_method_152_code, exceptionTable := #[], attributes := #[] }
def k9m7 : Method := { name := "coder", desc := "()B", sig := { parameters := [], returnType := some .byte }, accessFlags := 0, code := some k9c7 }
def k9c8 : Code := { maxStack := 1, maxLocals := 1, code := jdk_42_method_154_code, exceptionTable := #[], attributes := #[] }
def k9m8 : Method := { name := "isLatin1", desc := "()Z", sig := { parameters := [], returnType := some .boolean }, accessFlags := 0, code := some k9c8 }
def k9c9 : Code := { maxStack := 3, maxLocals := 2, code := jdk_42_method_155_code, exceptionTable := #[], attributes := #[] }
def k9m9 : Method := { name := "checkIndex", desc := "(II)V", sig := { parameters := [.int, .int], returnType := none }, accessFlags := 8, code := some k9c9 }
/-- java/lang/String -/
def k9 : Class := { plain "java/lang/String" (some 0) with
  accessFlags := 49
  interfaces := #[4, 5, 6, 7, 8]
  cf := some (fileOf pool9 10 #[.nestMembers #[1103]] #[{ accessFlags := 1, nameIndex := 5, descriptorIndex := 6, attributes := #[] }, { accessFlags := 1, nameIndex := 5, descriptorIndex := 1010, attributes := #[] }, { accessFlags := 1, nameIndex := 507, descriptorIndex := 334, attributes := #[] }, { accessFlags := 1, nameIndex := 692, descriptorIndex := 142, attributes := #[] }, { accessFlags := 1, nameIndex := 497, descriptorIndex := 427, attributes := #[] }, { accessFlags := 1, nameIndex := 543, descriptorIndex := 573, attributes := #[] }, { accessFlags := 2, nameIndex := 5, descriptorIndex := 29, attributes := #[] }, { accessFlags := 0, nameIndex := 17, descriptorIndex := 337, attributes := #[] }, { accessFlags := 0, nameIndex := 494, descriptorIndex := 142, attributes := #[] }, { accessFlags := 8, nameIndex := 501, descriptorIndex := 391, attributes := #[] }] 49 2 #[1106, 1108, 575, 1110, 1112] #[{ accessFlags := 18, nameIndex := 13, descriptorIndex := 14, attributes := #[] }, { accessFlags := 18, nameIndex := 17, descriptorIndex := 18, attributes := #[] }, { accessFlags := 2, nameIndex := 21, descriptorIndex := 22, attributes := #[] }, { accessFlags := 2, nameIndex := 25, descriptorIndex := 26, attributes := #[] }, { accessFlags := 26, nameIndex := 1116, descriptorIndex := 1117, attributes := #[] }, { accessFlags := 24, nameIndex := 40, descriptorIndex := 26, attributes := #[] }, { accessFlags := 26, nameIndex := 1101, descriptorIndex := 1102, attributes := #[] }, { accessFlags := 26, nameIndex := 1121, descriptorIndex := 1122, attributes := #[] }, { accessFlags := 25, nameIndex := 599, descriptorIndex := 600, attributes := #[] }, { accessFlags := 24, nameIndex := 1125, descriptorIndex := 18, attributes := #[] }, { accessFlags := 24, nameIndex := 1127, descriptorIndex := 18, attributes := #[] }])
  fields := #[{ name := "value", type := (.array .byte), accessFlags := 18, slot := 0, constantValue := 0 }, { name := "coder", type := .byte, accessFlags := 18, slot := 1, constantValue := 0 }, { name := "hash", type := .int, accessFlags := 2, slot := 2, constantValue := 0 }, { name := "hashIsZero", type := .boolean, accessFlags := 2, slot := 3, constantValue := 0 }, { name := "serialVersionUID", type := .long, accessFlags := 26, slot := 0, constantValue := 0 }, { name := "COMPACT_STRINGS", type := .boolean, accessFlags := 24, slot := 1, constantValue := 0 }, { name := "serialPersistentFields", type := (.array (.object "java/io/ObjectStreamField")), accessFlags := 26, slot := 2, constantValue := 0 }, { name := "REPL", type := .char, accessFlags := 26, slot := 3, constantValue := 0 }, { name := "CASE_INSENSITIVE_ORDER", type := (.object "java/util/Comparator"), accessFlags := 25, slot := 4, constantValue := 0 }, { name := "LATIN1", type := .byte, accessFlags := 24, slot := 5, constantValue := 0 }, { name := "UTF16", type := .byte, accessFlags := 24, slot := 6, constantValue := 0 }]
  methods := #[k9m0, k9m1, k9m2, k9m3, k9m4, k9m5, k9m6, k9m7, k9m8, k9m9]
  instanceTypes := #[(.array .byte), .byte, .int, .boolean]
  staticTypes := #[.long, .boolean, (.array (.object "java/io/ObjectStreamField")), .char, (.object "java/util/Comparator"), .byte, .byte]
  resolved := Array.replicate 1451 none
  statics := some 0 }

def pool10 : Array CpInfo := pool [(6, .class_ 8), (1, u "java/lang/Object"), (0, u "<init>"), (0, u "()V"), (1, .class_ 14), (1, u "java/lang/StringUTF16"), (31, u "$assertionsDisabled"), (0, u "Z"), (13, u "HI_BYTE_SHIFT"), (0, u "I"), (2, u "LO_BYTE_SHIFT"), (49, .methodref 12 116), (0, .nameAndType 117 118), (0, u "compress"), (0, u "([CI[BII)I"), (3, u "([CII)[B"), (138, u "coderFromArrayLen"), (0, u "([BI)B"), (106, .class_ 371), (1, u "java/lang/StringUTF16$LinesSpliterator"), (58, u "MAX_LENGTH"), (196, .class_ 628), (0, u "java/lang/StringUTF16$CodePointsSpliterator"), (0, .class_ 630), (0, u "java/lang/StringUTF16$CharsSpliterator")] 4

def k10m0 : Method := { name := "<init>", desc := "()V", sig := { parameters := [], returnType := none }, accessFlags := 0, code := none }
def k10c1 : Code := { maxStack := 2, maxLocals := 2, code := jdk_52_method_15_code, exceptionTable := #[], attributes := #[] }
def k10m1 : Method := { name := "coderFromArrayLen", desc := "([BI)B", sig := { parameters := [(.array .byte), .int], returnType := some .byte }, accessFlags := 8, code := some k10c1 }
def k10c2 : Code := { maxStack := 5, maxLocals := 6, code := jdk_52_method_16_code, exceptionTable := #[], attributes := #[] }
def k10m2 : Method := { name := "compress", desc := "([CII)[B", sig := { parameters := [(.array .char), .int, .int], returnType := some (.array .byte) }, accessFlags := 9, code := some k10c2 }
def k10c3 : Code := { maxStack := 3, maxLocals := 7, code := jdk_52_method_21_code, exceptionTable := #[], attributes := #[] }
def k10m3 : Method := { name := "compress", desc := "([CI[BII)I", sig := { parameters := [(.array .char), .int, (.array .byte), .int, .int], returnType := some .int }, accessFlags := 9, code := some k10c3 }
/-- java/lang/StringUTF16 -/
def k10 : Class := { plain "java/lang/StringUTF16" (some 0) with
  accessFlags := 48
  interfaces := #[]
  cf := some (fileOf pool10 12 #[.nestMembers #[627, 629, 369]] #[{ accessFlags := 0, nameIndex := 9, descriptorIndex := 10, attributes := #[] }, { accessFlags := 8, nameIndex := 261, descriptorIndex := 262, attributes := #[] }, { accessFlags := 9, nameIndex := 117, descriptorIndex := 122, attributes := #[] }, { accessFlags := 9, nameIndex := 117, descriptorIndex := 118, attributes := #[] }] 48 6 #[] #[{ accessFlags := 26, nameIndex := 61, descriptorIndex := 62, attributes := #[] }, { accessFlags := 26, nameIndex := 65, descriptorIndex := 62, attributes := #[] }, { accessFlags := 24, nameIndex := 430, descriptorIndex := 62, attributes := #[] }, { accessFlags := 4120, nameIndex := 46, descriptorIndex := 47, attributes := #[] }])
  fields := #[{ name := "HI_BYTE_SHIFT", type := .int, accessFlags := 26, slot := 0, constantValue := 0 }, { name := "LO_BYTE_SHIFT", type := .int, accessFlags := 26, slot := 1, constantValue := 0 }, { name := "MAX_LENGTH", type := .int, accessFlags := 24, slot := 2, constantValue := 0 }, { name := "$assertionsDisabled", type := .boolean, accessFlags := 4120, slot := 3, constantValue := 0 }]
  methods := #[k10m0, k10m1, k10m2, k10m3]
  instanceTypes := #[]
  staticTypes := #[.int, .int, .int, .boolean]
  resolved := Array.replicate 635 none
  statics := none }

def pool11 : Array CpInfo := pool [(9, u "test"), (6, .class_ 18), (1, u "java/util/function/IntPredicate"), (0, u "(I)Z"), (0, .class_ 21), (0, u "java/lang/Object")] 45

def k11m0 : Method := { name := "test", desc := "(I)Z", sig := { parameters := [.int], returnType := some .boolean }, accessFlags := 1025, code := none }
/-- java/util/function/IntPredicate -/
def k11 : Class := { plain "java/util/function/IntPredicate" (some 0) with
  accessFlags := 1537
  interfaces := #[]
  cf := some (fileOf pool11 16 #[] #[{ accessFlags := 1025, nameIndex := 9, descriptorIndex := 19, attributes := #[] }] 1537 20 #[] #[])
  fields := #[]
  methods := #[k11m0]
  instanceTypes := #[]
  staticTypes := #[]
  resolved := Array.replicate 67 none
  statics := none }

def pool12 : Array CpInfo := pool [(1, .class_ 2), (0, u "java/lang/String"), (1, .class_ 6), (1, u "java/lang/Object"), (0, u "<init>"), (0, u "()V"), (0, .methodref 1 10), (0, .nameAndType 11 12), (0, u "checkIndex"), (0, u "(II)V"), (1, .class_ 16), (1, u "java/lang/StringLatin1"), (36, u "([BI)C"), (67, u "$assertionsDisabled"), (0, u "Z"), (98, .class_ 223), (1, u "java/lang/StringLatin1$LinesSpliterator"), (28, u "charAt"), (28, u "equals"), (0, u "([B[B)Z"), (107, .class_ 391), (0, u "java/lang/StringLatin1$CharsSpliterator")] 3

def k12m0 : Method := { name := "<init>", desc := "()V", sig := { parameters := [], returnType := none }, accessFlags := 0, code := none }
def k12c1 : Code := { maxStack := 2, maxLocals := 2, code := jdk_43_method_2_code, exceptionTable := #[], attributes := #[] }
def k12m1 : Method := { name := "charAt", desc := "([BI)C", sig := { parameters := [(.array .byte), .int], returnType := some .char }, accessFlags := 9, code := some k12c1 }
def k12c2 : Code := { maxStack := 3, maxLocals := 3, code := jdk_43_method_13_code, exceptionTable := #[], attributes := #[] }
def k12m2 : Method := { name := "equals", desc := "([B[B)Z", sig := { parameters := [(.array .byte), (.array .byte)], returnType := some .boolean }, accessFlags := 9, code := some k12c2 }
/-- java/lang/StringLatin1 -/
def k12 : Class := { plain "java/lang/StringLatin1" (some 0) with
  accessFlags := 48
  interfaces := #[]
  cf := some (fileOf pool12 14 #[.nestMembers #[390, 221]] #[{ accessFlags := 0, nameIndex := 7, descriptorIndex := 8, attributes := #[] }, { accessFlags := 9, nameIndex := 252, descriptorIndex := 53, attributes := #[] }, { accessFlags := 9, nameIndex := 281, descriptorIndex := 282, attributes := #[] }] 48 4 #[] #[{ accessFlags := 4120, nameIndex := 121, descriptorIndex := 122, attributes := #[] }])
  fields := #[{ name := "$assertionsDisabled", type := .boolean, accessFlags := 4120, slot := 0, constantValue := 0 }]
  methods := #[k12m0, k12m1, k12m2]
  instanceTypes := #[]
  staticTypes := #[.boolean]
  resolved := Array.replicate 395 none
  statics := none }

def pool13 : Array CpInfo := pool [(2, .class_ 4), (1, u "java/lang/Object"), (0, u "<init>"), (0, u "()V"), (17, .class_ 26), (1, u "jdk/internal/util/Preconditions"), (6, u "checkIndex"), (21, .class_ 56), (0, u "jdk/internal/util/Preconditions$4"), (57, .class_ 115), (0, u "jdk/internal/util/Preconditions$1"), (7, u "SIOOBE_FORMATTER"), (0, u "Ljava/util/function/BiFunction;"), (0, .class_ 126), (0, u "jdk/internal/util/Preconditions$2"), (3, u "AIOOBE_FORMATTER"), (0, .class_ 132), (0, u "jdk/internal/util/Preconditions$3"), (3, u "IOOBE_FORMATTER"), (41, u "(IILjava/util/function/BiFunction;)I")] 15

def k13m0 : Method := { name := "<init>", desc := "()V", sig := { parameters := [], returnType := none }, accessFlags := 1, code := none }
def k13c1 : Code := { maxStack := 3, maxLocals := 3, code := jdk_41_method_11_code, exceptionTable := #[], attributes := #[] }
def k13m1 : Method := { name := "checkIndex", desc := "(IILjava/util/function/BiFunction;)I", sig := { parameters := [.int, .int, (.object "java/util/function/BiFunction")], returnType := some .int }, accessFlags := 9, code := some k13c1 }
/-- jdk/internal/util/Preconditions -/
def k13 : Class := { plain "jdk/internal/util/Preconditions" (some 0) with
  accessFlags := 33
  interfaces := #[]
  cf := some (fileOf pool13 24 #[.nestMembers #[55, 131, 125, 114]] #[{ accessFlags := 1, nameIndex := 5, descriptorIndex := 6, attributes := #[] }, { accessFlags := 9, nameIndex := 33, descriptorIndex := 178, attributes := #[] }] 33 2 #[] #[{ accessFlags := 25, nameIndex := 123, descriptorIndex := 124, attributes := #[] }, { accessFlags := 25, nameIndex := 130, descriptorIndex := 124, attributes := #[] }, { accessFlags := 25, nameIndex := 136, descriptorIndex := 124, attributes := #[] }])
  fields := #[{ name := "SIOOBE_FORMATTER", type := (.object "java/util/function/BiFunction"), accessFlags := 25, slot := 0, constantValue := 0 }, { name := "AIOOBE_FORMATTER", type := (.object "java/util/function/BiFunction"), accessFlags := 25, slot := 1, constantValue := 0 }, { name := "IOOBE_FORMATTER", type := (.object "java/util/function/BiFunction"), accessFlags := 25, slot := 2, constantValue := 0 }]
  methods := #[k13m0, k13m1]
  instanceTypes := #[]
  staticTypes := #[(.object "java/util/function/BiFunction"), (.object "java/util/function/BiFunction"), (.object "java/util/function/BiFunction")]
  resolved := Array.replicate 194 none
  statics := some 1 }

def pool14 : Array CpInfo := pool [(9, u "<init>"), (6, .class_ 18), (1, u "java/lang/Object"), (0, u "()V"), (1, .class_ 23), (1, u "jdk/internal/util/ArraysSupport"), (0, u "LOG2_ARRAY_LONG_INDEX_SCALE"), (0, u "I"), (2, u "U"), (0, u "Ljdk/internal/misc/Unsafe;"), (8, u "BIG_ENDIAN"), (0, u "Z"), (8, u "LOG2_BYTE_BIT_SIZE"), (4, u "LOG2_ARRAY_INT_INDEX_SCALE"), (54, u "JLA"), (0, u "Ljdk/internal/access/JavaLangAccess;"), (11, u "LOG2_ARRAY_BOOLEAN_INDEX_SCALE"), (9, u "LOG2_ARRAY_BYTE_INDEX_SCALE"), (5, u "LOG2_ARRAY_CHAR_INDEX_SCALE"), (5, u "LOG2_ARRAY_SHORT_INDEX_SCALE"), (18, u "LOG2_ARRAY_FLOAT_INDEX_SCALE"), (24, u "LOG2_ARRAY_DOUBLE_INDEX_SCALE"), (89, u "T_BOOLEAN"), (2, u "T_CHAR"), (1, u "T_FLOAT"), (1, u "T_DOUBLE"), (1, u "T_BYTE"), (1, u "T_SHORT"), (1, u "T_INT"), (1, u "T_LONG"), (1, u "SOFT_MAX_ARRAY_LENGTH")] 83

def k14m0 : Method := { name := "<init>", desc := "()V", sig := { parameters := [], returnType := none }, accessFlags := 2, code := none }
/-- jdk/internal/util/ArraysSupport -/
def k14 : Class := { plain "jdk/internal/util/ArraysSupport" (some 0) with
  accessFlags := 33
  interfaces := #[]
  cf := some (fileOf pool14 21 #[] #[{ accessFlags := 2, nameIndex := 9, descriptorIndex := 19, attributes := #[] }] 33 16 #[] #[{ accessFlags := 24, nameIndex := 28, descriptorIndex := 29, attributes := #[] }, { accessFlags := 26, nameIndex := 38, descriptorIndex := 39, attributes := #[] }, { accessFlags := 25, nameIndex := 121, descriptorIndex := 25, attributes := #[] }, { accessFlags := 25, nameIndex := 131, descriptorIndex := 25, attributes := #[] }, { accessFlags := 25, nameIndex := 137, descriptorIndex := 25, attributes := #[] }, { accessFlags := 25, nameIndex := 143, descriptorIndex := 25, attributes := #[] }, { accessFlags := 25, nameIndex := 53, descriptorIndex := 25, attributes := #[] }, { accessFlags := 25, nameIndex := 24, descriptorIndex := 25, attributes := #[] }, { accessFlags := 25, nameIndex := 162, descriptorIndex := 25, attributes := #[] }, { accessFlags := 25, nameIndex := 187, descriptorIndex := 25, attributes := #[] }, { accessFlags := 26, nameIndex := 48, descriptorIndex := 25, attributes := #[] }, { accessFlags := 25, nameIndex := 277, descriptorIndex := 25, attributes := #[] }, { accessFlags := 25, nameIndex := 280, descriptorIndex := 25, attributes := #[] }, { accessFlags := 25, nameIndex := 282, descriptorIndex := 25, attributes := #[] }, { accessFlags := 25, nameIndex := 284, descriptorIndex := 25, attributes := #[] }, { accessFlags := 25, nameIndex := 286, descriptorIndex := 25, attributes := #[] }, { accessFlags := 25, nameIndex := 288, descriptorIndex := 25, attributes := #[] }, { accessFlags := 25, nameIndex := 290, descriptorIndex := 25, attributes := #[] }, { accessFlags := 25, nameIndex := 292, descriptorIndex := 25, attributes := #[] }, { accessFlags := 26, nameIndex := 108, descriptorIndex := 109, attributes := #[] }, { accessFlags := 25, nameIndex := 294, descriptorIndex := 25, attributes := #[] }])
  fields := #[{ name := "U", type := (.object "jdk/internal/misc/Unsafe"), accessFlags := 24, slot := 0, constantValue := 0 }, { name := "BIG_ENDIAN", type := .boolean, accessFlags := 26, slot := 1, constantValue := 0 }, { name := "LOG2_ARRAY_BOOLEAN_INDEX_SCALE", type := .int, accessFlags := 25, slot := 2, constantValue := 0 }, { name := "LOG2_ARRAY_BYTE_INDEX_SCALE", type := .int, accessFlags := 25, slot := 3, constantValue := 0 }, { name := "LOG2_ARRAY_CHAR_INDEX_SCALE", type := .int, accessFlags := 25, slot := 4, constantValue := 0 }, { name := "LOG2_ARRAY_SHORT_INDEX_SCALE", type := .int, accessFlags := 25, slot := 5, constantValue := 0 }, { name := "LOG2_ARRAY_INT_INDEX_SCALE", type := .int, accessFlags := 25, slot := 6, constantValue := 0 }, { name := "LOG2_ARRAY_LONG_INDEX_SCALE", type := .int, accessFlags := 25, slot := 7, constantValue := 0 }, { name := "LOG2_ARRAY_FLOAT_INDEX_SCALE", type := .int, accessFlags := 25, slot := 8, constantValue := 0 }, { name := "LOG2_ARRAY_DOUBLE_INDEX_SCALE", type := .int, accessFlags := 25, slot := 9, constantValue := 0 }, { name := "LOG2_BYTE_BIT_SIZE", type := .int, accessFlags := 26, slot := 10, constantValue := 0 }, { name := "T_BOOLEAN", type := .int, accessFlags := 25, slot := 11, constantValue := 0 }, { name := "T_CHAR", type := .int, accessFlags := 25, slot := 12, constantValue := 0 }, { name := "T_FLOAT", type := .int, accessFlags := 25, slot := 13, constantValue := 0 }, { name := "T_DOUBLE", type := .int, accessFlags := 25, slot := 14, constantValue := 0 }, { name := "T_BYTE", type := .int, accessFlags := 25, slot := 15, constantValue := 0 }, { name := "T_SHORT", type := .int, accessFlags := 25, slot := 16, constantValue := 0 }, { name := "T_INT", type := .int, accessFlags := 25, slot := 17, constantValue := 0 }, { name := "T_LONG", type := .int, accessFlags := 25, slot := 18, constantValue := 0 }, { name := "JLA", type := (.object "jdk/internal/access/JavaLangAccess"), accessFlags := 26, slot := 19, constantValue := 0 }, { name := "SOFT_MAX_ARRAY_LENGTH", type := .int, accessFlags := 25, slot := 20, constantValue := 0 }]
  methods := #[k14m0]
  instanceTypes := #[]
  staticTypes := #[(.object "jdk/internal/misc/Unsafe"), .boolean, .int, .int, .int, .int, .int, .int, .int, .int, .int, .int, .int, .int, .int, .int, .int, .int, .int, (.object "jdk/internal/access/JavaLangAccess"), .int]
  resolved := Array.replicate 378 none
  statics := none }

def pool15 : Array CpInfo := pool [(1, u "java/lang/Cloneable"), (0, .class_ 1), (0, u "java/lang/Object"), (0, .class_ 3)] 3

/-- java/lang/Cloneable -/
def k15 : Class := { plain "java/lang/Cloneable" (some 0) with
  accessFlags := 1537
  interfaces := #[]
  cf := some (fileOf pool15 2 #[] #[] 1537 4 #[] #[])
  fields := #[]
  methods := #[]
  instanceTypes := #[]
  staticTypes := #[]
  resolved := Array.replicate 8 none
  statics := none }

/-- the primitive byte -/
def k16 : Class := { plain "byte" none with kind := .primitive 'B', accessFlags := 0x411 }
/-- [B -/
def k17 : Class := { plain "[B" (some 0) with kind := .array 16 .byte, interfaces := #[15, 4], accessFlags := 1041 }

/-- the primitive char -/
def k18 : Class := { plain "char" none with kind := .primitive 'C', accessFlags := 0x411 }
/-- [C -/
def k19 : Class := { plain "[C" (some 0) with kind := .array 18 .char, interfaces := #[15, 4], accessFlags := 1041 }

/-- the primitive int -/
def k20 : Class := { plain "int" none with kind := .primitive 'I', accessFlags := 0x411 }
/-- [I -/
def k21 : Class := { plain "[I" (some 0) with kind := .array 20 .int, interfaces := #[15, 4], accessFlags := 1041 }

def classes0 : Array Class := #[k0, k1, k2, k3, k4, k5, k6, k7, k8, k9, k10, k11, k12, k13, k14, k15, k16, k17, k18, k19, k20, k21]
/-- the class that the rule has made for the site at 3 of com/example/hotshelf/hotshelf/model/RecordKey.isShelfName -/
def k22 : Class := Jvm.LamKit.madeRec { classes := classes0 } "com/example/hotshelf/hotshelf/model/RecordKey" (Jvm.Lambda.Shape.mk "java/util/function/IntPredicate" "test" (Jvm.ClassFile.MethodDescriptor.mk ([Jvm.ClassFile.FieldType.int] : List Jvm.ClassFile.FieldType) (Option.some Jvm.ClassFile.FieldType.boolean)) ([] : List Jvm.ClassFile.FieldType) (6 : Nat) "com/example/hotshelf/hotshelf/model/RecordKey" "isShelfChar" (Jvm.ClassFile.MethodDescriptor.mk ([Jvm.ClassFile.FieldType.int] : List Jvm.ClassFile.FieldType) (Option.some Jvm.ClassFile.FieldType.boolean)) false (Jvm.ClassFile.MethodDescriptor.mk ([Jvm.ClassFile.FieldType.int] : List Jvm.ClassFile.FieldType) (Option.some Jvm.ClassFile.FieldType.boolean))) 22

/-- the class that the rule has made for the site at 4 of com/example/hotshelf/hotshelf/model/RecordKey.isRecordId -/
def k23 : Class := Jvm.LamKit.madeRec { classes := classes0 } "com/example/hotshelf/hotshelf/model/RecordKey" (Jvm.Lambda.Shape.mk "java/util/function/IntPredicate" "test" (Jvm.ClassFile.MethodDescriptor.mk ([Jvm.ClassFile.FieldType.int] : List Jvm.ClassFile.FieldType) (Option.some Jvm.ClassFile.FieldType.boolean)) ([] : List Jvm.ClassFile.FieldType) (6 : Nat) "com/example/hotshelf/hotshelf/model/RecordKey" "isIdChar" (Jvm.ClassFile.MethodDescriptor.mk ([Jvm.ClassFile.FieldType.int] : List Jvm.ClassFile.FieldType) (Option.some Jvm.ClassFile.FieldType.boolean)) false (Jvm.ClassFile.MethodDescriptor.mk ([Jvm.ClassFile.FieldType.int] : List Jvm.ClassFile.FieldType) (Option.some Jvm.ClassFile.FieldType.boolean))) 23

def heap : Heap := #[{ cls := 9, slots := #[.long 0, .int 1, .null, .int 0, .null, .int 0, .int 0], vm := .statics 9 },
  { cls := 13, slots := #[.null, .null, .null], vm := .statics 13 },
  { cls := 22, slots := #[], vm := .none },
  { cls := 23, slots := #[], vm := .none }]
def classes : Array Class := #[k0, k1, k2, k3, k4, k5, k6, k7, k8, k9, k10, k11, k12, k13, k14, k15, k16, k17, k18, k19, k20, k21, k22, k23]
def interned : List (Array UInt16 × Addr) := []
def slotsUsed : Nat := 10
def theMethod : MethodId := ⟨1, 3⟩
def args0 : Array Value := #[.int 5, .int 1, .int 3, .int 2, .int 4, .int 7]
def aboutOver (below : List Frame) : State where
  vm := { classes := classes, interned := interned.toArray }
  heap := heap
  slotsUsed := slotsUsed
  threads := #[{ frames := .invoking theMethod args0 :: below }]
def below0 : List Frame := [.native { method := ⟨0, 0⟩, args := #[] }]
def about1 : State := aboutOver below0
def p0 : Program := .bare "" "" ""
def e0 : Env := launch0.env 0 0 0
theorem w_frames : about1.frames = Frame.invoking theMethod args0 :: below0 := rfl
set_option maxRecDepth 65536 in
theorem w_args : argsFit about1.vm theMethod args0 = true := by decide +kernel
set_option maxRecDepth 65536 in
theorem w_heap : heapFits about1 = true := by decide +kernel
set_option maxRecDepth 65536 in
theorem w_runnable : about1.curStatus? = some .runnable := by decide +kernel
set_option maxRecDepth 65536 in
theorem w_alone : about1.alone = true := by decide +kernel
set_option maxRecDepth 65536 in
theorem w_named : about1.methodNamed? x = some theMethod := by decide +kernel
set_option maxRecDepth 65536 in
theorem w_hears : about1.hears theMethod below0 = true := by decide +kernel
set_option maxRecDepth 65536 in
theorem w_ripe : about1.ripe theMethod args0 below0 = true := by decide +kernel
theorem w_running : about1.status = .running := rfl
set_option maxRecDepth 65536 in
theorem w_room : about1.hasRoom e0.platform room_1 = true :=
  launch0.hasRoom_least _ room_1 (by decide +kernel) (by decide +kernel) (by decide +kernel) (by decide +kernel) (by decide +kernel) (by decide +kernel)
theorem allAtoms_all (ts : List Jvm.Cond) (a : Array Jvm.Value) (st : Jvm.State) : (allAtoms ts).before a st = ts.all (fun c => c.before a st) := by
  induction ts with
  | nil => rfl
  | cons c t ih =>
    show (Jvm.Cond.and c (allAtoms t)).before a st = _
    rw [Jvm.Cond.before_and, ih, List.all_cons]
def words1 : List Jvm.Cond := Jvm.Cond.code x code maxLocals ret :: tables_1
/-- a 'code' word, met by the world's own term for the bytes: nothing is compared byte by byte -/
theorem code_word {y : MethodName} {bytes : ByteArray} {mx : Nat} {rt : Option FieldType} {a : Array Value} {s : State} {m : MethodId} {meth : Method} {c : Code} (h1 : s.methodNamed? y = some m) (h2 : s.vm.method? m = some meth) (h3 : meth.code = some c) (h4 : c.code = bytes)
    (h5 : (c.maxLocals == mx && c.exceptionTable.isEmpty && decide (c.maxStack ≤ mostOperands) && decide (meth.sig.returnType = rt) && !meth.locks && decide (parseMethodDescriptor y.desc = some meth.sig)) = true) : (Jvm.Cond.code y bytes mx rt).before a s = true := by
  simp only [Bool.and_eq_true, beq_iff_eq, Bool.not_eq_true', decide_eq_true_eq] at h5
  obtain ⟨⟨⟨⟨⟨g1, g2⟩, g3⟩, g4⟩, g5⟩, g6⟩ := h5
  simp [Cond.before, Cond.holds, Cond.value, h1, h2, h3, h4, g1, g2, g3, g4, g5, g6]
def isCode : Jvm.Cond → Bool
  | .code _ _ _ _ => true
  | _ => false
theorem all_split {L : List Jvm.Cond} {P : Jvm.Cond → Bool} (h1 : L.all (fun c => isCode c || P c) = true) (h2 : ∀ c ∈ L.filter isCode, P c = true) : L.all P = true := by
  refine List.all_eq_true.mpr fun c hc => ?_
  have h := List.all_eq_true.mp h1 c hc
  rcases Bool.eq_false_or_eq_true (isCode c) with hi | hi
  · exact h2 c (List.mem_filter.mpr ⟨hc, hi⟩)
  · simpa [hi] using h
set_option maxRecDepth 65536 in
theorem w_c0 : (Jvm.Cond.code x code maxLocals ret).before args0 about1 = true := code_word (m := ⟨1, 3⟩) (meth := k1m3) (c := k1c3) (by decide +kernel) rfl rfl rfl (by decide +kernel)
set_option maxRecDepth 65536 in
theorem w_c1 : (Jvm.Cond.code ({ cls := "com/example/hotshelf/hotshelf/model/RecordKeyEqualsPinLaw", name := "shelfChar", desc := "(I)C" } : Jvm.MethodName) method_2_code (2 : Nat) (Option.some Jvm.ClassFile.FieldType.char)).before args0 about1 = true := code_word (m := ⟨1, 1⟩) (meth := k1m1) (c := k1c1) (by decide +kernel) rfl rfl rfl (by decide +kernel)
set_option maxRecDepth 65536 in
theorem w_c2 : (Jvm.Cond.code ({ cls := "com/example/hotshelf/hotshelf/model/RecordKeyEqualsPinLaw", name := "idChar", desc := "(I)C" } : Jvm.MethodName) method_3_code (2 : Nat) (Option.some Jvm.ClassFile.FieldType.char)).before args0 about1 = true := code_word (m := ⟨1, 2⟩) (meth := k1m2) (c := k1c2) (by decide +kernel) rfl rfl rfl (by decide +kernel)
set_option maxRecDepth 65536 in
theorem w_c3 : (Jvm.Cond.code ({ cls := "java/lang/String", name := "<init>", desc := "([C)V" } : Jvm.MethodName) jdk_42_method_3_code (2 : Nat) (Option.none : Option Jvm.ClassFile.FieldType)).before args0 about1 = true := code_word (m := ⟨9, 1⟩) (meth := k9m1) (c := k9c1) (by decide +kernel) rfl rfl rfl (by decide +kernel)
set_option maxRecDepth 65536 in
theorem w_c4 : (Jvm.Cond.code ({ cls := "java/lang/String", name := "<init>", desc := "([CIILjava/lang/Void;)V" } : Jvm.MethodName) jdk_42_method_149_code (6 : Nat) (Option.none : Option Jvm.ClassFile.FieldType)).before args0 about1 = true := code_word (m := ⟨9, 6⟩) (meth := k9m6) (c := k9c6) (by decide +kernel) rfl rfl rfl (by decide +kernel)
set_option maxRecDepth 65536 in
theorem w_c5 : (Jvm.Cond.code ({ cls := "java/lang/Object", name := "<init>", desc := "()V" } : Jvm.MethodName) object_method_1_code (1 : Nat) (Option.none : Option Jvm.ClassFile.FieldType)).before args0 about1 = true := code_word (m := ⟨0, 0⟩) (meth := k0m0) (c := k0c0) (by decide +kernel) rfl rfl rfl (by decide +kernel)
set_option maxRecDepth 65536 in
theorem w_c6 : (Jvm.Cond.code ({ cls := "java/lang/StringUTF16", name := "compress", desc := "([CII)[B" } : Jvm.MethodName) jdk_52_method_16_code (6 : Nat) (Option.some (Jvm.ClassFile.FieldType.array Jvm.ClassFile.FieldType.byte))).before args0 about1 = true := code_word (m := ⟨10, 2⟩) (meth := k10m2) (c := k10c2) (by decide +kernel) rfl rfl rfl (by decide +kernel)
set_option maxRecDepth 65536 in
theorem w_c7 : (Jvm.Cond.code ({ cls := "java/lang/StringUTF16", name := "compress", desc := "([CI[BII)I" } : Jvm.MethodName) jdk_52_method_21_code (7 : Nat) (Option.some Jvm.ClassFile.FieldType.int)).before args0 about1 = true := code_word (m := ⟨10, 3⟩) (meth := k10m3) (c := k10c3) (by decide +kernel) rfl rfl rfl (by decide +kernel)
set_option maxRecDepth 65536 in
theorem w_c8 : (Jvm.Cond.code ({ cls := "java/lang/StringUTF16", name := "coderFromArrayLen", desc := "([BI)B" } : Jvm.MethodName) jdk_52_method_15_code (2 : Nat) (Option.some Jvm.ClassFile.FieldType.byte)).before args0 about1 = true := code_word (m := ⟨10, 1⟩) (meth := k10m1) (c := k10c1) (by decide +kernel) rfl rfl rfl (by decide +kernel)
set_option maxRecDepth 65536 in
theorem w_c9 : (Jvm.Cond.code ({ cls := "com/example/hotshelf/hotshelf/model/RecordKey", name := "<init>", desc := "(Ljava/lang/String;Ljava/lang/String;)V" } : Jvm.MethodName) prog_16_method_1_code (3 : Nat) (Option.none : Option Jvm.ClassFile.FieldType)).before args0 about1 = true := code_word (m := ⟨3, 0⟩) (meth := k3m0) (c := k3c0) (by decide +kernel) rfl rfl rfl (by decide +kernel)
set_option maxRecDepth 65536 in
theorem w_c10 : (Jvm.Cond.code ({ cls := "java/lang/Record", name := "<init>", desc := "()V" } : Jvm.MethodName) jdk_30_method_1_code (1 : Nat) (Option.none : Option Jvm.ClassFile.FieldType)).before args0 about1 = true := code_word (m := ⟨2, 0⟩) (meth := k2m0) (c := k2c0) (by decide +kernel) rfl rfl rfl (by decide +kernel)
set_option maxRecDepth 65536 in
theorem w_c11 : (Jvm.Cond.code ({ cls := "com/example/hotshelf/hotshelf/model/RecordKey", name := "isShelfName", desc := "(Ljava/lang/String;)Z" } : Jvm.MethodName) prog_16_method_4_code (1 : Nat) (Option.some Jvm.ClassFile.FieldType.boolean)).before args0 about1 = true := code_word (m := ⟨3, 2⟩) (meth := k3m2) (c := k3c2) (by decide +kernel) rfl rfl rfl (by decide +kernel)
set_option maxRecDepth 65536 in
theorem w_c12 : (Jvm.Cond.code ({ cls := "com/example/hotshelf/hotshelf/model/RecordKey", name := "isMadeOf", desc := "(Ljava/lang/String;ILjava/util/function/IntPredicate;)Z" } : Jvm.MethodName) prog_16_method_6_code (4 : Nat) (Option.some Jvm.ClassFile.FieldType.boolean)).before args0 about1 = true := code_word (m := ⟨3, 4⟩) (meth := k3m4) (c := k3c4) (by decide +kernel) rfl rfl rfl (by decide +kernel)
set_option maxRecDepth 65536 in
theorem w_c13 : (Jvm.Cond.code ({ cls := "java/lang/String", name := "isEmpty", desc := "()Z" } : Jvm.MethodName) jdk_42_method_55_code (1 : Nat) (Option.some Jvm.ClassFile.FieldType.boolean)).before args0 about1 = true := code_word (m := ⟨9, 3⟩) (meth := k9m3) (c := k9c3) (by decide +kernel) rfl rfl rfl (by decide +kernel)
set_option maxRecDepth 65536 in
theorem w_c14 : (Jvm.Cond.code ({ cls := "java/lang/String", name := "length", desc := "()I" } : Jvm.MethodName) jdk_42_method_54_code (1 : Nat) (Option.some Jvm.ClassFile.FieldType.int)).before args0 about1 = true := code_word (m := ⟨9, 2⟩) (meth := k9m2) (c := k9c2) (by decide +kernel) rfl rfl rfl (by decide +kernel)
set_option maxRecDepth 65536 in
theorem w_c15 : (Jvm.Cond.code ({ cls := "java/lang/String", name := "coder", desc := "()B" } : Jvm.MethodName) jdk_42_method_152_code (1 : Nat) (Option.some Jvm.ClassFile.FieldType.byte)).before args0 about1 = true := code_word (m := ⟨9, 7⟩) (meth := k9m7) (c := k9c7) (by decide +kernel) rfl rfl rfl (by decide +kernel)
set_option maxRecDepth 65536 in
theorem w_c16 : (Jvm.Cond.code ({ cls := "java/lang/String", name := "charAt", desc := "(I)C" } : Jvm.MethodName) jdk_42_method_56_code (2 : Nat) (Option.some Jvm.ClassFile.FieldType.char)).before args0 about1 = true := code_word (m := ⟨9, 4⟩) (meth := k9m4) (c := k9c4) (by decide +kernel) rfl rfl rfl (by decide +kernel)
set_option maxRecDepth 65536 in
theorem w_c17 : (Jvm.Cond.code ({ cls := "java/lang/String", name := "isLatin1", desc := "()Z" } : Jvm.MethodName) jdk_42_method_154_code (1 : Nat) (Option.some Jvm.ClassFile.FieldType.boolean)).before args0 about1 = true := code_word (m := ⟨9, 8⟩) (meth := k9m8) (c := k9c8) (by decide +kernel) rfl rfl rfl (by decide +kernel)
set_option maxRecDepth 65536 in
theorem w_c18 : (Jvm.Cond.code ({ cls := "java/lang/StringLatin1", name := "charAt", desc := "([BI)C" } : Jvm.MethodName) jdk_43_method_2_code (2 : Nat) (Option.some Jvm.ClassFile.FieldType.char)).before args0 about1 = true := code_word (m := ⟨12, 1⟩) (meth := k12m1) (c := k12c1) (by decide +kernel) rfl rfl rfl (by decide +kernel)
set_option maxRecDepth 65536 in
theorem w_c19 : (Jvm.Cond.code ({ cls := "java/lang/String", name := "checkIndex", desc := "(II)V" } : Jvm.MethodName) jdk_42_method_155_code (2 : Nat) (Option.none : Option Jvm.ClassFile.FieldType)).before args0 about1 = true := code_word (m := ⟨9, 9⟩) (meth := k9m9) (c := k9c9) (by decide +kernel) rfl rfl rfl (by decide +kernel)
set_option maxRecDepth 65536 in
theorem w_c20 : (Jvm.Cond.code ({ cls := "jdk/internal/util/Preconditions", name := "checkIndex", desc := "(IILjava/util/function/BiFunction;)I" } : Jvm.MethodName) jdk_41_method_11_code (3 : Nat) (Option.some Jvm.ClassFile.FieldType.int)).before args0 about1 = true := code_word (m := ⟨13, 1⟩) (meth := k13m1) (c := k13c1) (by decide +kernel) rfl rfl rfl (by decide +kernel)
set_option maxRecDepth 65536 in
theorem w_c21 : (Jvm.Cond.code ({ cls := "com/example/hotshelf/hotshelf/model/RecordKey", name := "isShelfChar", desc := "(I)Z" } : Jvm.MethodName) prog_16_method_7_code (1 : Nat) (Option.some Jvm.ClassFile.FieldType.boolean)).before args0 about1 = true := code_word (m := ⟨3, 5⟩) (meth := k3m5) (c := k3c5) (by decide +kernel) rfl rfl rfl (by decide +kernel)
set_option maxRecDepth 65536 in
theorem w_c22 : (Jvm.Cond.code ({ cls := "com/example/hotshelf/hotshelf/model/RecordKey", name := "isRecordId", desc := "(Ljava/lang/String;)Z" } : Jvm.MethodName) prog_16_method_5_code (1 : Nat) (Option.some Jvm.ClassFile.FieldType.boolean)).before args0 about1 = true := code_word (m := ⟨3, 3⟩) (meth := k3m3) (c := k3c3) (by decide +kernel) rfl rfl rfl (by decide +kernel)
set_option maxRecDepth 65536 in
theorem w_c23 : (Jvm.Cond.code ({ cls := "com/example/hotshelf/hotshelf/model/RecordKey", name := "isIdChar", desc := "(I)Z" } : Jvm.MethodName) prog_16_method_8_code (1 : Nat) (Option.some Jvm.ClassFile.FieldType.boolean)).before args0 about1 = true := code_word (m := ⟨3, 6⟩) (meth := k3m6) (c := k3c6) (by decide +kernel) rfl rfl rfl (by decide +kernel)
set_option maxRecDepth 65536 in
theorem w_c24 : (Jvm.Cond.code ({ cls := "com/example/hotshelf/hotshelf/model/RecordKey", name := "equals", desc := "(Ljava/lang/Object;)Z" } : Jvm.MethodName) prog_16_method_2_code (3 : Nat) (Option.some Jvm.ClassFile.FieldType.boolean)).before args0 about1 = true := code_word (m := ⟨3, 1⟩) (meth := k3m1) (c := k3c1) (by decide +kernel) rfl rfl rfl (by decide +kernel)
set_option maxRecDepth 65536 in
theorem w_c25 : (Jvm.Cond.code ({ cls := "java/lang/String", name := "equals", desc := "(Ljava/lang/Object;)Z" } : Jvm.MethodName) jdk_42_method_66_code (3 : Nat) (Option.some Jvm.ClassFile.FieldType.boolean)).before args0 about1 = true := code_word (m := ⟨9, 5⟩) (meth := k9m5) (c := k9c5) (by decide +kernel) rfl rfl rfl (by decide +kernel)
set_option maxRecDepth 65536 in
theorem w_c26 : (Jvm.Cond.code ({ cls := "java/lang/StringLatin1", name := "equals", desc := "([B[B)Z" } : Jvm.MethodName) jdk_43_method_13_code (3 : Nat) (Option.some Jvm.ClassFile.FieldType.boolean)).before args0 about1 = true := code_word (m := ⟨12, 2⟩) (meth := k12m2) (c := k12c2) (by decide +kernel) rfl rfl rfl (by decide +kernel)
def codes1 : List Jvm.Cond := [Jvm.Cond.code x code maxLocals ret, Jvm.Cond.code ({ cls := "com/example/hotshelf/hotshelf/model/RecordKeyEqualsPinLaw", name := "shelfChar", desc := "(I)C" } : Jvm.MethodName) method_2_code (2 : Nat) (Option.some Jvm.ClassFile.FieldType.char), Jvm.Cond.code ({ cls := "com/example/hotshelf/hotshelf/model/RecordKeyEqualsPinLaw", name := "idChar", desc := "(I)C" } : Jvm.MethodName) method_3_code (2 : Nat) (Option.some Jvm.ClassFile.FieldType.char), Jvm.Cond.code ({ cls := "java/lang/String", name := "<init>", desc := "([C)V" } : Jvm.MethodName) jdk_42_method_3_code (2 : Nat) (Option.none : Option Jvm.ClassFile.FieldType), Jvm.Cond.code ({ cls := "java/lang/String", name := "<init>", desc := "([CIILjava/lang/Void;)V" } : Jvm.MethodName) jdk_42_method_149_code (6 : Nat) (Option.none : Option Jvm.ClassFile.FieldType), Jvm.Cond.code ({ cls := "java/lang/Object", name := "<init>", desc := "()V" } : Jvm.MethodName) object_method_1_code (1 : Nat) (Option.none : Option Jvm.ClassFile.FieldType), Jvm.Cond.code ({ cls := "java/lang/StringUTF16", name := "compress", desc := "([CII)[B" } : Jvm.MethodName) jdk_52_method_16_code (6 : Nat) (Option.some (Jvm.ClassFile.FieldType.array Jvm.ClassFile.FieldType.byte)), Jvm.Cond.code ({ cls := "java/lang/StringUTF16", name := "compress", desc := "([CI[BII)I" } : Jvm.MethodName) jdk_52_method_21_code (7 : Nat) (Option.some Jvm.ClassFile.FieldType.int), Jvm.Cond.code ({ cls := "java/lang/StringUTF16", name := "coderFromArrayLen", desc := "([BI)B" } : Jvm.MethodName) jdk_52_method_15_code (2 : Nat) (Option.some Jvm.ClassFile.FieldType.byte), Jvm.Cond.code ({ cls := "com/example/hotshelf/hotshelf/model/RecordKey", name := "<init>", desc := "(Ljava/lang/String;Ljava/lang/String;)V" } : Jvm.MethodName) prog_16_method_1_code (3 : Nat) (Option.none : Option Jvm.ClassFile.FieldType), Jvm.Cond.code ({ cls := "java/lang/Record", name := "<init>", desc := "()V" } : Jvm.MethodName) jdk_30_method_1_code (1 : Nat) (Option.none : Option Jvm.ClassFile.FieldType), Jvm.Cond.code ({ cls := "com/example/hotshelf/hotshelf/model/RecordKey", name := "isShelfName", desc := "(Ljava/lang/String;)Z" } : Jvm.MethodName) prog_16_method_4_code (1 : Nat) (Option.some Jvm.ClassFile.FieldType.boolean), Jvm.Cond.code ({ cls := "com/example/hotshelf/hotshelf/model/RecordKey", name := "isMadeOf", desc := "(Ljava/lang/String;ILjava/util/function/IntPredicate;)Z" } : Jvm.MethodName) prog_16_method_6_code (4 : Nat) (Option.some Jvm.ClassFile.FieldType.boolean), Jvm.Cond.code ({ cls := "java/lang/String", name := "isEmpty", desc := "()Z" } : Jvm.MethodName) jdk_42_method_55_code (1 : Nat) (Option.some Jvm.ClassFile.FieldType.boolean), Jvm.Cond.code ({ cls := "java/lang/String", name := "length", desc := "()I" } : Jvm.MethodName) jdk_42_method_54_code (1 : Nat) (Option.some Jvm.ClassFile.FieldType.int), Jvm.Cond.code ({ cls := "java/lang/String", name := "coder", desc := "()B" } : Jvm.MethodName) jdk_42_method_152_code (1 : Nat) (Option.some Jvm.ClassFile.FieldType.byte), Jvm.Cond.code ({ cls := "java/lang/String", name := "charAt", desc := "(I)C" } : Jvm.MethodName) jdk_42_method_56_code (2 : Nat) (Option.some Jvm.ClassFile.FieldType.char), Jvm.Cond.code ({ cls := "java/lang/String", name := "isLatin1", desc := "()Z" } : Jvm.MethodName) jdk_42_method_154_code (1 : Nat) (Option.some Jvm.ClassFile.FieldType.boolean), Jvm.Cond.code ({ cls := "java/lang/StringLatin1", name := "charAt", desc := "([BI)C" } : Jvm.MethodName) jdk_43_method_2_code (2 : Nat) (Option.some Jvm.ClassFile.FieldType.char), Jvm.Cond.code ({ cls := "java/lang/String", name := "checkIndex", desc := "(II)V" } : Jvm.MethodName) jdk_42_method_155_code (2 : Nat) (Option.none : Option Jvm.ClassFile.FieldType), Jvm.Cond.code ({ cls := "jdk/internal/util/Preconditions", name := "checkIndex", desc := "(IILjava/util/function/BiFunction;)I" } : Jvm.MethodName) jdk_41_method_11_code (3 : Nat) (Option.some Jvm.ClassFile.FieldType.int), Jvm.Cond.code ({ cls := "com/example/hotshelf/hotshelf/model/RecordKey", name := "isShelfChar", desc := "(I)Z" } : Jvm.MethodName) prog_16_method_7_code (1 : Nat) (Option.some Jvm.ClassFile.FieldType.boolean), Jvm.Cond.code ({ cls := "com/example/hotshelf/hotshelf/model/RecordKey", name := "isRecordId", desc := "(Ljava/lang/String;)Z" } : Jvm.MethodName) prog_16_method_5_code (1 : Nat) (Option.some Jvm.ClassFile.FieldType.boolean), Jvm.Cond.code ({ cls := "com/example/hotshelf/hotshelf/model/RecordKey", name := "isIdChar", desc := "(I)Z" } : Jvm.MethodName) prog_16_method_8_code (1 : Nat) (Option.some Jvm.ClassFile.FieldType.boolean), Jvm.Cond.code ({ cls := "com/example/hotshelf/hotshelf/model/RecordKey", name := "equals", desc := "(Ljava/lang/Object;)Z" } : Jvm.MethodName) prog_16_method_2_code (3 : Nat) (Option.some Jvm.ClassFile.FieldType.boolean), Jvm.Cond.code ({ cls := "java/lang/String", name := "equals", desc := "(Ljava/lang/Object;)Z" } : Jvm.MethodName) jdk_42_method_66_code (3 : Nat) (Option.some Jvm.ClassFile.FieldType.boolean), Jvm.Cond.code ({ cls := "java/lang/StringLatin1", name := "equals", desc := "([B[B)Z" } : Jvm.MethodName) jdk_43_method_13_code (3 : Nat) (Option.some Jvm.ClassFile.FieldType.boolean)]
set_option maxRecDepth 65536 in
theorem codes_eq : words1.filter isCode = codes1 := rfl
theorem w_codes : ∀ c ∈ words1.filter isCode, c.before args0 about1 = true := by
  rw [codes_eq]
  intro c hc
  simp only [codes1, List.mem_cons, List.not_mem_nil, or_false] at hc
  rcases hc with rfl | rfl | rfl | rfl | rfl | rfl | rfl | rfl | rfl | rfl | rfl | rfl | rfl | rfl | rfl | rfl | rfl | rfl | rfl | rfl | rfl | rfl | rfl | rfl | rfl | rfl | rfl
  · exact w_c0
  · exact w_c1
  · exact w_c2
  · exact w_c3
  · exact w_c4
  · exact w_c5
  · exact w_c6
  · exact w_c7
  · exact w_c8
  · exact w_c9
  · exact w_c10
  · exact w_c11
  · exact w_c12
  · exact w_c13
  · exact w_c14
  · exact w_c15
  · exact w_c16
  · exact w_c17
  · exact w_c18
  · exact w_c19
  · exact w_c20
  · exact w_c21
  · exact w_c22
  · exact w_c23
  · exact w_c24
  · exact w_c25
  · exact w_c26
set_option maxRecDepth 65536 in
theorem w_t1 : (words1.take 24).all (fun c => isCode c || c.before args0 about1) = true := by decide +kernel
set_option maxRecDepth 65536 in
theorem w_t2 : ((words1.drop 24).take 24).all (fun c => isCode c || c.before args0 about1) = true := by decide +kernel
set_option maxRecDepth 65536 in
theorem w_t3 : (((words1.drop 24).drop 24).take 24).all (fun c => isCode c || c.before args0 about1) = true := by decide +kernel
set_option maxRecDepth 65536 in
theorem w_t4 : ((((words1.drop 24).drop 24).drop 24).take 24).all (fun c => isCode c || c.before args0 about1) = true := by decide +kernel
set_option maxRecDepth 65536 in
theorem w_t5 : (((((words1.drop 24).drop 24).drop 24).drop 24).take 24).all (fun c => isCode c || c.before args0 about1) = true := by decide +kernel
set_option maxRecDepth 65536 in
theorem w_t6 : (((((words1.drop 24).drop 24).drop 24).drop 24).drop 24).all (fun c => isCode c || c.before args0 about1) = true := by decide +kernel
theorem w_tables : (allAtoms (Jvm.Cond.code x code maxLocals ret :: tables_1)).before args0 about1 = true := by
  rw [allAtoms_all]
  show words1.all (fun c => c.before args0 about1) = true
  refine all_split ?_ w_codes
  rw [← List.take_append_drop 24 words1, List.all_append, w_t1, ← List.take_append_drop 24 (words1.drop 24), List.all_append, w_t2, ← List.take_append_drop 24 ((words1.drop 24).drop 24), List.all_append, w_t3, ← List.take_append_drop 24 (((words1.drop 24).drop 24).drop 24), List.all_append, w_t4, ← List.take_append_drop 24 ((((words1.drop 24).drop 24).drop 24).drop 24), List.all_append, w_t5, w_t6]
  rfl
set_option maxRecDepth 65536 in
theorem w_rest : rest_1_c.before args0 about1 = true := by decide +kernel
set_option maxRecDepth 65536 in
theorem w_case : (Jvm.Cond.and given_1 narrow_1).before args0 about1 = true := by decide +kernel
theorem w_applies : (headSpec (Jvm.Cond.code x code maxLocals ret :: tables_1) room_1).applies x e0.platform about1 = true :=
  (Spec.applies_iff w_frames).mpr ⟨w_running, w_runnable, w_alone, w_named, w_hears, w_ripe, w_room, w_tables⟩
theorem atStart : AtStart classFile x code maxLocals ret World_1 tables_1 room_1 Calls_1 rest_1 Pre_1 launch0 p0 e0 about1 theMethod args0 below0 :=
  ⟨lists_1, trivial, launch0.admits_env _ _ _, launch0.least_env, fairChoices_fair.cas, fairChoices_fair.clock, w_frames, w_args, w_heap, w_applies, trivial, w_rest, w_case⟩
end start1
theorem witness_1 : WitnessClaimed_1 := ⟨start1.p0, start1.e0, start1.about1, start1.theMethod, start1.args0, start1.below0, start1.atStart⟩
end Jvm.Pilot.@@N@@
