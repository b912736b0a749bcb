import JvmDerived
import JvmDerived.Pilot.@@N@@Statement
import JvmDerived.Pilot.@@N@@Code
set_option linter.unusedVariables false
set_option linter.unusedSimpArgs false
@@BLOCK:LamKit.lean.txt@@
namespace Jvm.Pilot.@@N@@
open Jvm Jvm.ClassFile Sem Op Lib Jvm.Free Jvm.Stand Jvm.LawKit Jvm.RoadKit Bundle Jvm.Pilot.@@N@@.Jvm.D
/-! the setting of a body's walk, a point of it, and 'it comes to its end' -/
def oCtx (p : Program) (s : State) (m : MethodId) (meth : Method) (c : Code) (Z : State) (own : String) (cb : ByteArray) (ml : Nat) (nm : String) (rt : Option FieldType) (yy : MethodName) : Prop :=
  p.tables.exec = Jvm.exec ∧ Z.WarmedH s.vm ∧ c.code = cb ∧ c.maxLocals = ml ∧ s.vm.findClass own = some m.cls ∧ meth.name = nm ∧ meth.sig.returnType = rt ∧ meth.locks = false ∧ s.methodNamed? yy = some m
def oSt (p : Program) (l : Launch) (e : Env) (R : Room) (s : State) (m : MethodId) (args : Array Value) (below : List Frame) (meth : Method) (c : Code) (Z T : State) (h : Heap) (cells slots : Nat) : Prop :=
  ∃ locs, Stand p l e R s m args below meth c T locs cells slots ∧ T.heap = h ∧ Fr Z.heap.size locs ∧ Ext Z.heap h
def oGoes (p : Program) (e : Env) (below : List Frame) (s Z T : State) (f : JFrame) (Q : Option Value → Heap → Prop) (cl sl : Nat) : Prop :=
  ∃ t o, Steps p.tables e below (T.setTop f) t ∧ t.status = .running ∧ Ended t below o ∧ ∃ v L, o = .returned v ∧ Q v t.heap ∧ Fr Z.heap.size L ∧ Ext Z.heap t.heap ∧ FrameEnd s o t L cl sl
/-- a body's contract: called with 'as' at the heap h0 it returns, and Q says what it leaves -/
def oMet (l : Launch) (Z : State) (y : MethodName) (cb : ByteArray) (ml : Nat) (rt : Option FieldType) (rm : Room) (ws : List Jvm.Cond) (as : Array Value) (h0 : Heap) (Q : Option Value → Heap → Prop) : Prop :=
  Ext Z.heap h0 → MetFree l y (head1 (Jvm.Cond.code y cb ml rt :: ws) rm) (fun a U => a = as ∧ Z.WarmedH U.vm ∧ U.heap = h0) (fun _ _ _ _ _ => True)
    (fun _ U o U' => ∃ v L, o = .returned v ∧ (Q v U'.heap ∧ Fr Z.heap.size L ∧ Ext Z.heap U'.heap) ∧ FrameEnd U o U' L rm.cells rm.slots)
section Own
variable {p : Program} {l : Launch} {e : Env} {R : Room} {s : State} {m : MethodId} {args : Array Value} {below : List Frame} {meth : Method} {c : Code} {Z T : State} {h : Heap} {cells slots cl sl : Nat} {own nm : String} {cb : ByteArray} {yy : MethodName} {ml : Nat} {rt : Option FieldType} {Q : Option Value → Heap → Prop} {L L' : Array Slot} {S : List Value} {pc pc' : Nat} {a0 : Array Value}
theorem oBackL {y : MethodName} {bytes : ByteArray} {maxL : Nat} {ret : Option FieldType} {rm : Room} {len W : Nat} {as' : Array Value} {Q : Option Value → Heap → List Loc → Prop}
    (hM : MetFree l y (head1 [Jvm.Cond.code y bytes maxL ret] rm) (fun a U => a = as' ∧ Z.WarmedH U.vm ∧ U.heap = h) (fun _ _ _ _ _ => True) (fun _ U o U' => ∃ v L, o = .returned v ∧ Q v U'.heap L ∧ FrameEnd U o U' L rm.cells rm.slots))
    (hZ : Z.WarmedH s.vm) (wc : (Jvm.Cond.code y bytes maxL ret).before a0 Z = true) (wz : (Jvm.Cond.initialized y.cls).before a0 Z = true) (hf : rm.frames + 1 ≤ R.frames) (hl : W + (maxL + 11) + rm.locals ≤ R.locals) :
    Back l R p e below s args y len W (fun A a => a = as' ∧ A.U.heap = h ∧ A.cells + rm.cells ≤ R.cells ∧ A.slots + rm.slots ≤ R.slots)
      (fun A _ v B => ∃ L, Q v B.U.heap L ∧ B.locs = A.locs ++ L ∧ B.cells = A.cells + rm.cells ∧ B.slots = A.slots + rm.slots) :=
  Back.of_free (bytes := bytes) (maxL := maxL) (ret := ret) (E := fun _ _ o t L k n => k = rm.cells ∧ n = rm.slots ∧ ∃ v, o = .returned v ∧ Q v t.heap L) hM hf hl
    (fun m meth c A a Y hp => have hU : Z.WarmedH A.U.vm := State.WarmedH.trans hZ Y.warmed
      ⟨by show (Cond.and _ .tt).before a A.U = true; rw [Cond.before_and, mvT hU.wide wc]; rfl, mvT hU.wide wc, mvT hU.wide wz, hp.2.2.1, hp.2.2.2⟩)
    (fun m meth c A a g mk Y hp => ⟨hp.1, State.WarmedH.trans hZ Y.warmed, hp.2.1⟩) (fun _ _ _ _ _ _ _ _ _ => trivial)
    (fun _ _ _ _ ⟨v, L, h1, h2, h3⟩ => ⟨L, _, _, h3, rfl, rfl, v, h1, h2⟩)
    (fun m meth c A a g mk v t L k n Y hp _ _ ⟨e1, e2, v', e3, e4⟩ => by cases e3; subst e1 e2; exact ⟨L, e4, rfl, rfl, rfl⟩)
def vI (z : Int32) : Slot := .val (.int z)
def vR (a : Addr) : Slot := .val (.ref a)
def vN : Slot := .val .null
def uS : Slot := .unset
theorem oLe {b x : Nat} (h : b = x) : x ≤ b := Nat.le_of_eq h.symm
theorem oLz {a b x : Nat} (h1 : a < x) (h2 : x ≤ b) : a ≠ b := Nat.ne_of_lt (Nat.lt_of_lt_of_le h1 h2)
theorem oLn {a b x y : Nat} (h1 : a < x) (h2 : x ≤ y) (h3 : y ≤ b) : a ≠ b := Nat.ne_of_lt (Nat.lt_of_lt_of_le (Nat.lt_of_lt_of_le h1 h2) h3)
theorem oLsz {a b x : Nat} (h1 : a < x) (h2 : x ≤ b) : b ≠ a := Ne.symm (oLz h1 h2)
theorem oLsn {a b x y : Nat} (h1 : a < x) (h2 : x ≤ y) (h3 : y ≤ b) : b ≠ a := Ne.symm (oLn h1 h2 h3)
theorem me0 {α : Type} {a : α} {l : List α} : a ∈ a :: l := List.mem_cons_self
theorem me1 {α : Type} {a0 a1 : α} {l : List α} : a1 ∈ a0 :: a1 :: l := List.mem_cons_of_mem _ me0
theorem oGoes.go {T' : State} {f f' : JFrame} (g : oGoes p e below s Z T' f' Q cl sl) (st : ∀ t, Steps p.tables e below (T'.setTop f') t → Steps p.tables e below (T.setTop f) t) : oGoes p e below s Z T f Q cl sl := by
  obtain ⟨t, o, h1, r⟩ := g
  exact ⟨t, o, st t h1, r⟩
theorem oSt.mono (X : oSt p l e R s m args below meth c Z T h cells slots) {c' n' : Nat} (hc : cells ≤ c') (hn : slots ≤ n') : oSt p l e R s m args below meth c Z T h c' n' := by
  obtain ⟨locs, X, r⟩ := X
  exact ⟨locs, ⟨X.admits, X.cas, X.clock, X.frames, X.room, X.hears, X.method, X.code, X.here, X.tail, X.warmed, X.limits, X.bytes, X.same.mono hc hn⟩, r⟩
theorem oSt.ext0 (X : oSt p l e R s m args below meth c Z T h cells slots) : Ext Z.heap h := by obtain ⟨_, _, _, _, E⟩ := X; exact E
theorem oExt_wr {h h' : Heap} {a : Addr} {k : Nat} {v : Value} (E : Ext Z.heap h) (W : Wr h h' a k v) (q : Z.heap.size ≤ a) : Ext Z.heap h' :=
  (Old.wr (n0 := Z.heap.size) ⟨rfl, E⟩ W q).2
theorem oExt_trans {h1 h2 h3 : Heap} (E : Ext h1 h2) (E' : Ext h2 h3) : Ext h1 h3 := ⟨Nat.le_trans E.1 E'.1, fun a c q => E'.2 a c (E.2 a c q)⟩
theorem oEnter {y : MethodName} {ws : List Jvm.Cond} {rm : Room} {as : Array Value} {h0 : Heap} (hx : plainFor y = true) (ho : y.cls = own) (hn : y.name = nm) {L : Array Slot} (hf : ∀ m, entryFrame m as ml = mkF m 0 L [])
    (body : ∀ p e s m below meth c T, oCtx p s m meth c Z own cb ml nm rt y → oSt p l e rm s m as below meth c Z T h0 0 0 → oGoes p e below s Z T (mkF m 0 L []) Q rm.cells rm.slots) : oMet l Z y cb ml rt rm ws as h0 Q := by
  intro E
  subst ho hn
  refine MetFree.of_bodySF hx hisR ?_
  intro p e s m args below meth c s₁ Bd hml0 hP hK
  obtain ⟨rfl, hZ, hh⟩ := hP
  have e0 : s₁.heap = h0 := by rw [← hh, Bd.state]; rfl
  obtain ⟨t, o, h1, h2, h3, v, L', h4, h5, h6, h7, h8⟩ := body p e s m below meth c s₁ ⟨Bd.exec, hZ, Bd.bytes, hml0, findClass_of_methodNamed Bd.named, (name_of_methodNamed Bd.named Bd.method).1, Bd.returns, BodyLoose.notSynchronized Bd, Bd.named⟩ ⟨[], Stand.of_body Bd, e0, Fr.nil _, E⟩
  exact ⟨t, o, castTop (hf m) h1, h2, h3, v, L', h4, ⟨h5, h6, h7⟩, h8⟩
theorem oLeave (X : oSt p l e R s m args below meth c Z T h cells slots) (rv : Option Value) (hv : meth.sig.returnType = none → rv = none) (hlk : meth.locks = false) (hQ : Q rv h) (hc : cells ≤ cl) (hs : slots ≤ sl) {f : JFrame}
    (st : ∀ fs, (∀ (f : JFrame) (acts : List Action), f.method = m → f.locked = none → f.entered = [] → (doReturn e (T.setTop f) acts rv).1 = T.setFrames fs) → Steps p.tables e below (T.setTop f) (T.setFrames fs)) : oGoes p e below s Z T f Q cl sl := by
  obtain ⟨locs, X, eT, N, E⟩ := X
  obtain ⟨fs, hr, hrun, hended, hW, hsame⟩ := X.leave (v := rv) hv hlk
  have e2 : (T.setFrames fs).heap = h := eT
  refine ⟨_, _, st fs hr, hrun, hended, _, locs, rfl, ?_, N, ?_, ⟨_, rfl⟩, hW, hsame.mono hc hs⟩
  · rw [e2]; exact hQ
  · rw [e2]; exact E
theorem o_return (K : oCtx p s m meth c Z own cb ml nm rt yy) (X : oSt p l e R s m args below meth c Z T h cells slots) (hd : decode cb pc = .ok (.return_, 1)) (hrt : rt = none) (hQ : Q none h) (hc : cells ≤ cl) (hs : slots ≤ sl) : oGoes p e below s Z T (mkF m pc L []) Q cl sl := by
  refine oLeave X none (fun _ => rfl) K.2.2.2.2.2.2.2.1 hQ hc hs fun fs hr => ?_
  obtain ⟨locs, X, eT, N, E⟩ := X
  exact X.returnOut K.1 (K.2.2.2.2.2.2.1.trans hrt) (hb K.2.2.1 hd) hr
theorem o_ireturnN (K : oCtx p s m meth c Z own cb ml nm rt yy) (X : oSt p l e R s m args below meth c Z T h cells slots) (t : FieldType) {z z' : Int32} (hd : decode cb pc = .ok (.ireturn, 1)) (hrt : rt = some t) (ht : t = .boolean ∨ t = .byte ∨ t = .char ∨ t = .short) (hz : nar t z = z') (hQ : Q (some (.int z')) h) (hc : cells ≤ cl) (hs : slots ≤ sl) : oGoes p e below s Z T (mkF m pc L (.int z :: S)) Q cl sl := by
  subst hz
  have hr0 : meth.sig.returnType = some t := K.2.2.2.2.2.2.1.trans hrt
  refine oLeave X (some (.int (nar t z))) (fun q => by rw [hr0] at q; cases q) K.2.2.2.2.2.2.2.1 hQ hc hs fun fs hr => ?_
  obtain ⟨locs, X, eT, N, E⟩ := X
  exact retN X K.1 (t := t) hr0 ht (hb K.2.2.1 hd) hr
theorem o_ireturn (K : oCtx p s m meth c Z own cb ml nm rt yy) (X : oSt p l e R s m args below meth c Z T h cells slots) {z : Int32} (hd : decode cb pc = .ok (.ireturn, 1)) (hrt : rt = some .int) (hQ : Q (some (.int z)) h) (hc : cells ≤ cl) (hs : slots ≤ sl) : oGoes p e below s Z T (mkF m pc L (.int z :: S)) Q cl sl := by
  have hr0 : meth.sig.returnType = some .int := K.2.2.2.2.2.2.1.trans hrt
  refine oLeave X (some (.int z)) (fun q => by rw [hr0] at q; cases q) K.2.2.2.2.2.2.2.1 hQ hc hs fun fs hl => ?_
  obtain ⟨locs, X, eT, N, E⟩ := X
  have hm' : T.vm.method? m = some meth := X.method'
  have hn : narrow .int (.int z) = .int z := rfl
  have hd' := hb K.2.2.1 hd
  have hx := K.1
  show Steps p.tables e below (T.setTop { method := m, pc := pc, locals := L, stack := _ :: S, locked := none }) _
  jvm_step X.here [X.here.top, hx, hd', hm', hr0, hn]
  first | (intro acts; rw [hl _ acts rfl rfl rfl]) | rw [hl _ _ rfl rfl rfl]
  exact Steps.refl _
theorem o_areturn (K : oCtx p s m meth c Z own cb ml nm rt yy) (X : oSt p l e R s m args below meth c Z T h cells slots) {t : FieldType} {v : Value} (hd : decode cb pc = .ok (.areturn, 1)) (hrt : rt = some t) (ht : t.isReference = true) (hv : v.isRef = true) (hQ : Q (some v) h) (hc : cells ≤ cl) (hs : slots ≤ sl) : oGoes p e below s Z T (mkF m pc L (v :: S)) Q cl sl := by
  have hr0 : meth.sig.returnType = some t := K.2.2.2.2.2.2.1.trans hrt
  refine oLeave X (some v) (fun q => by rw [hr0] at q; cases q) K.2.2.2.2.2.2.2.1 hQ hc hs fun fs hl => ?_
  obtain ⟨locs, X, eT, N, E⟩ := X
  have hm' : T.vm.method? m = some meth := X.method'
  have hd' := hb K.2.2.1 hd
  have hx := K.1
  show Steps p.tables e below (T.setTop { method := m, pc := pc, locals := L, stack := _ :: S, locked := none }) _
  jvm_step X.here [X.here.top, hx, hd', hm', hr0, ht, hv]
  first | (intro acts; rw [hl _ acts rfl rfl rfl]) | rw [hl _ _ rfl rfl rfl]
  exact Steps.refl _
theorem o_iload (K : oCtx p s m meth c Z own cb ml nm rt yy) (X : oSt p l e R s m args below meth c Z T h cells slots) {k : Nat} {v : Int32} (hd : decode cb pc = .ok (.iload k, 2)) (hp : pc + 2 = pc') (hl : L[k]? = some (.val (.int v))) (g : oGoes p e below s Z T (mkF m pc' L (.int v :: S)) Q cl sl) : oGoes p e below s Z T (mkF m pc L S) Q cl sl := by
  obtain ⟨_, X, -⟩ := X
  subst hp
  exact g.go fun t r => XS.iload X.here K.1 rfl (hb K.2.2.1 hd) hl r
theorem o_iloadN (K : oCtx p s m meth c Z own cb ml nm rt yy) (X : oSt p l e R s m args below meth c Z T h cells slots) {k : Fin 4} {v : Int32} (hd : decode cb pc = .ok (.iload_n k, 1)) (hp : pc + 1 = pc') (hl : L[k.val]? = some (.val (.int v))) (g : oGoes p e below s Z T (mkF m pc' L (.int v :: S)) Q cl sl) : oGoes p e below s Z T (mkF m pc L S) Q cl sl := by
  obtain ⟨_, X, -⟩ := X
  subst hp
  exact g.go fun t r => XS.iloadN X.here K.1 rfl (hb K.2.2.1 hd) hl r
theorem o_istore (K : oCtx p s m meth c Z own cb ml nm rt yy) (X : oSt p l e R s m args below meth c Z T h cells slots) {k : Nat} {v : Int32} (hd : decode cb pc = .ok (.istore k, 2)) (hp : pc + 2 = pc') (hl : storeLocals L k (.int v) = some L') (g : oGoes p e below s Z T (mkF m pc' L' S) Q cl sl) : oGoes p e below s Z T (mkF m pc L (.int v :: S)) Q cl sl := by
  obtain ⟨_, X, -⟩ := X
  subst hp
  exact g.go fun t r => XS.istore X.here K.1 rfl (hb K.2.2.1 hd) rfl hl r
theorem o_istoreN (K : oCtx p s m meth c Z own cb ml nm rt yy) (X : oSt p l e R s m args below meth c Z T h cells slots) {k : Fin 4} {v : Int32} (hd : decode cb pc = .ok (.istore_n k, 1)) (hp : pc + 1 = pc') (hl : storeLocals L k.val (.int v) = some L') (g : oGoes p e below s Z T (mkF m pc' L' S) Q cl sl) : oGoes p e below s Z T (mkF m pc L (.int v :: S)) Q cl sl := by
  obtain ⟨_, X, -⟩ := X
  subst hp
  exact g.go fun t r => XS.istoreN X.here K.1 rfl (hb K.2.2.1 hd) rfl hl r
theorem o_aload (K : oCtx p s m meth c Z own cb ml nm rt yy) (X : oSt p l e R s m args below meth c Z T h cells slots) {k : Nat} {v : Value} (hd : decode cb pc = .ok (.aload k, 2)) (hp : pc + 2 = pc') (hl : L[k]? = some (.val v)) (hv : v.isRef = true) (g : oGoes p e below s Z T (mkF m pc' L (v :: S)) Q cl sl) : oGoes p e below s Z T (mkF m pc L S) Q cl sl := by
  obtain ⟨_, X, -⟩ := X
  subst hp
  exact g.go fun t r => XS.aload X.here K.1 rfl (hb K.2.2.1 hd) hl hv r
theorem o_aloadN (K : oCtx p s m meth c Z own cb ml nm rt yy) (X : oSt p l e R s m args below meth c Z T h cells slots) {k : Fin 4} {v : Value} (hd : decode cb pc = .ok (.aload_n k, 1)) (hp : pc + 1 = pc') (hl : L[k.val]? = some (.val v)) (hv : v.isRef = true) (g : oGoes p e below s Z T (mkF m pc' L (v :: S)) Q cl sl) : oGoes p e below s Z T (mkF m pc L S) Q cl sl := by
  obtain ⟨_, X, -⟩ := X
  subst hp
  exact g.go fun t r => XS.aloadN X.here K.1 rfl (hb K.2.2.1 hd) hl hv r
theorem o_astore (K : oCtx p s m meth c Z own cb ml nm rt yy) (X : oSt p l e R s m args below meth c Z T h cells slots) {k : Nat} {v : Value} (hd : decode cb pc = .ok (.astore k, 2)) (hp : pc + 2 = pc') (hv : v.isRef = true) (hl : storeLocals L k v = some L') (g : oGoes p e below s Z T (mkF m pc' L' S) Q cl sl) : oGoes p e below s Z T (mkF m pc L (v :: S)) Q cl sl := by
  obtain ⟨_, X, -⟩ := X
  subst hp
  exact g.go fun t r => XS.astore X.here K.1 rfl (hb K.2.2.1 hd) rfl hv hl r
theorem o_astoreN (K : oCtx p s m meth c Z own cb ml nm rt yy) (X : oSt p l e R s m args below meth c Z T h cells slots) {k : Fin 4} {v : Value} (hd : decode cb pc = .ok (.astore_n k, 1)) (hp : pc + 1 = pc') (hv : v.isRef = true) (hl : storeLocals L k.val v = some L') (g : oGoes p e below s Z T (mkF m pc' L' S) Q cl sl) : oGoes p e below s Z T (mkF m pc L (v :: S)) Q cl sl := by
  obtain ⟨_, X, -⟩ := X
  subst hp
  exact g.go fun t r => XS.astoreN X.here K.1 rfl (hb K.2.2.1 hd) rfl hv hl r
theorem o_iconst (K : oCtx p s m meth c Z own cb ml nm rt yy) (X : oSt p l e R s m args below meth c Z T h cells slots) {i : Int} {z : Int32} (hd : decode cb pc = .ok (.iconst i, 1)) (hp : pc + 1 = pc') (hz : Int32.ofInt i = z) (g : oGoes p e below s Z T (mkF m pc' L (.int z :: S)) Q cl sl) : oGoes p e below s Z T (mkF m pc L S) Q cl sl := by
  obtain ⟨_, X, -⟩ := X
  subst hp
  exact g.go fun t r => XS.iconst X.here K.1 rfl (hb K.2.2.1 hd) (hz ▸ r)
theorem o_bipush (K : oCtx p s m meth c Z own cb ml nm rt yy) (X : oSt p l e R s m args below meth c Z T h cells slots) {i : Int} {z : Int32} (hd : decode cb pc = .ok (.bipush i, 2)) (hp : pc + 2 = pc') (hz : (Int8.ofInt i).toInt32 = z) (g : oGoes p e below s Z T (mkF m pc' L (.int z :: S)) Q cl sl) : oGoes p e below s Z T (mkF m pc L S) Q cl sl := by
  obtain ⟨_, X, -⟩ := X
  subst hp
  exact g.go fun t r => XS.bipush X.here K.1 rfl (hb K.2.2.1 hd) (hz ▸ r)
theorem o_sipush (K : oCtx p s m meth c Z own cb ml nm rt yy) (X : oSt p l e R s m args below meth c Z T h cells slots) {i : Int} {z : Int32} (hd : decode cb pc = .ok (.sipush i, 3)) (hp : pc + 3 = pc') (hz : (Int16.ofInt i).toInt32 = z) (g : oGoes p e below s Z T (mkF m pc' L (.int z :: S)) Q cl sl) : oGoes p e below s Z T (mkF m pc L S) Q cl sl := by
  obtain ⟨_, X, -⟩ := X
  subst hp
  exact g.go fun t r => XS.sipush X.here K.1 rfl (hb K.2.2.1 hd) (hz ▸ r)
theorem o_aconst_null (K : oCtx p s m meth c Z own cb ml nm rt yy) (X : oSt p l e R s m args below meth c Z T h cells slots)  (hd : decode cb pc = .ok (.aconst_null, 1)) (hp : pc + 1 = pc') (g : oGoes p e below s Z T (mkF m pc' L (.null :: S)) Q cl sl) : oGoes p e below s Z T (mkF m pc L S) Q cl sl := by
  obtain ⟨_, X, -⟩ := X
  subst hp
  exact g.go fun t r => XS.aconstNull X.here K.1 rfl (hb K.2.2.1 hd) r
theorem o_iadd (K : oCtx p s m meth c Z own cb ml nm rt yy) (X : oSt p l e R s m args below meth c Z T h cells slots) {x y z : Int32} (hd : decode cb pc = .ok (.iadd, 1)) (hp : pc + 1 = pc') (hz : x + y = z) (g : oGoes p e below s Z T (mkF m pc' L (.int z :: S)) Q cl sl) : oGoes p e below s Z T (mkF m pc L (.int y :: .int x :: S)) Q cl sl := by
  obtain ⟨_, X, -⟩ := X
  subst hp
  exact g.go fun t r => XS.iadd X.here K.1 rfl (hb K.2.2.1 hd) rfl (hz ▸ r)
theorem o_isub (K : oCtx p s m meth c Z own cb ml nm rt yy) (X : oSt p l e R s m args below meth c Z T h cells slots) {x y z : Int32} (hd : decode cb pc = .ok (.isub, 1)) (hp : pc + 1 = pc') (hz : x - y = z) (g : oGoes p e below s Z T (mkF m pc' L (.int z :: S)) Q cl sl) : oGoes p e below s Z T (mkF m pc L (.int y :: .int x :: S)) Q cl sl := by
  obtain ⟨_, X, -⟩ := X
  subst hp
  exact g.go fun t r => XS.isub X.here K.1 rfl (hb K.2.2.1 hd) rfl (hz ▸ r)
theorem o_imul (K : oCtx p s m meth c Z own cb ml nm rt yy) (X : oSt p l e R s m args below meth c Z T h cells slots) {x y z : Int32} (hd : decode cb pc = .ok (.imul, 1)) (hp : pc + 1 = pc') (hz : x * y = z) (g : oGoes p e below s Z T (mkF m pc' L (.int z :: S)) Q cl sl) : oGoes p e below s Z T (mkF m pc L (.int y :: .int x :: S)) Q cl sl := by
  obtain ⟨_, X, -⟩ := X
  subst hp
  exact g.go fun t r => XS.imul X.here K.1 rfl (hb K.2.2.1 hd) rfl (hz ▸ r)
theorem o_iand (K : oCtx p s m meth c Z own cb ml nm rt yy) (X : oSt p l e R s m args below meth c Z T h cells slots) {x y z : Int32} (hd : decode cb pc = .ok (.iand, 1)) (hp : pc + 1 = pc') (hz : x &&& y = z) (g : oGoes p e below s Z T (mkF m pc' L (.int z :: S)) Q cl sl) : oGoes p e below s Z T (mkF m pc L (.int y :: .int x :: S)) Q cl sl := by
  obtain ⟨_, X, -⟩ := X
  subst hp
  exact g.go fun t r => XS.iand X.here K.1 rfl (hb K.2.2.1 hd) rfl (hz ▸ r)
theorem o_ishr (K : oCtx p s m meth c Z own cb ml nm rt yy) (X : oSt p l e R s m args below meth c Z T h cells slots) {x y z : Int32} (hd : decode cb pc = .ok (.ishr, 1)) (hp : pc + 1 = pc') (hz : x >>> (y &&& 31) = z) (g : oGoes p e below s Z T (mkF m pc' L (.int z :: S)) Q cl sl) : oGoes p e below s Z T (mkF m pc L (.int y :: .int x :: S)) Q cl sl := by
  obtain ⟨_, X, -⟩ := X
  subst hp
  exact g.go fun t r => XS.ishr X.here K.1 rfl (hb K.2.2.1 hd) rfl (hz ▸ r)
theorem o_iushr (K : oCtx p s m meth c Z own cb ml nm rt yy) (X : oSt p l e R s m args below meth c Z T h cells slots) {x y z : Int32} (hd : decode cb pc = .ok (.iushr, 1)) (hp : pc + 1 = pc') (hz : (x.toUInt32 >>> (y &&& 31).toUInt32).toInt32 = z) (g : oGoes p e below s Z T (mkF m pc' L (.int z :: S)) Q cl sl) : oGoes p e below s Z T (mkF m pc L (.int y :: .int x :: S)) Q cl sl := by
  obtain ⟨_, X, -⟩ := X
  subst hp
  exact g.go fun t r => XS.iushr X.here K.1 rfl (hb K.2.2.1 hd) rfl (hz ▸ r)
theorem o_i2b (K : oCtx p s m meth c Z own cb ml nm rt yy) (X : oSt p l e R s m args below meth c Z T h cells slots) {x : Int32} {z : Int32} (hd : decode cb pc = .ok (.i2b, 1)) (hp : pc + 1 = pc') (hz : x.toInt8.toInt32 = z) (g : oGoes p e below s Z T (mkF m pc' L (.int z :: S)) Q cl sl) : oGoes p e below s Z T (mkF m pc L (.int x :: S)) Q cl sl := by
  obtain ⟨_, X, -⟩ := X
  subst hp
  exact g.go fun t r => XS.i2b X.here K.1 rfl (hb K.2.2.1 hd) rfl (hz ▸ r)
theorem o_i2c (K : oCtx p s m meth c Z own cb ml nm rt yy) (X : oSt p l e R s m args below meth c Z T h cells slots) {x : Int32} {z : Int32} (hd : decode cb pc = .ok (.i2c, 1)) (hp : pc + 1 = pc') (hz : x.toUInt32.toUInt16.toUInt32.toInt32 = z) (g : oGoes p e below s Z T (mkF m pc' L (.int z :: S)) Q cl sl) : oGoes p e below s Z T (mkF m pc L (.int x :: S)) Q cl sl := by
  obtain ⟨_, X, -⟩ := X
  subst hp
  exact g.go fun t r => XS.i2c X.here K.1 rfl (hb K.2.2.1 hd) rfl (hz ▸ r)
theorem o_irem (K : oCtx p s m meth c Z own cb ml nm rt yy) (X : oSt p l e R s m args below meth c Z T h cells slots) {x y z : Int32} (hd : decode cb pc = .ok (.irem, 1)) (hp : pc + 1 = pc') (hy : y ≠ 0) (hz : x % y = z) (g : oGoes p e below s Z T (mkF m pc' L (.int z :: S)) Q cl sl) : oGoes p e below s Z T (mkF m pc L (.int y :: .int x :: S)) Q cl sl := by
  obtain ⟨_, X, -⟩ := X
  subst hp
  exact g.go fun t r => Jvm.RoadKit.iremM (g := mkF m pc L (.int y :: .int x :: S)) X K.1 rfl (hb K.2.2.1 hd) rfl hy (hz ▸ r)
theorem o_iinc (K : oCtx p s m meth c Z own cb ml nm rt yy) (X : oSt p l e R s m args below meth c Z T h cells slots) {k : Nat} {i : Int} {x : Int32} (hd : decode cb pc = .ok (.iinc k i, 3)) (hp : pc + 3 = pc') (hl : L[k]? = some (.val (.int x))) (hl' : storeLocals L k (.int (x + Int32.ofInt i)) = some L') (g : oGoes p e below s Z T (mkF m pc' L' S) Q cl sl) : oGoes p e below s Z T (mkF m pc L S) Q cl sl := by
  obtain ⟨_, X, -⟩ := X
  subst hp
  exact g.go fun t r => XS.iinc X.here K.1 rfl (hb K.2.2.1 hd) hl hl' r
theorem o_dup (K : oCtx p s m meth c Z own cb ml nm rt yy) (X : oSt p l e R s m args below meth c Z T h cells slots) {v : Value} (hd : decode cb pc = .ok (.dup, 1)) (hp : pc + 1 = pc') (hc : v.category = 1) (g : oGoes p e below s Z T (mkF m pc' L (v :: v :: S)) Q cl sl) : oGoes p e below s Z T (mkF m pc L (v :: S)) Q cl sl := by
  obtain ⟨_, X, -⟩ := X
  subst hp
  exact g.go fun t r => XS.dup X.here K.1 rfl (hb K.2.2.1 hd) rfl hc r
theorem o_pop (K : oCtx p s m meth c Z own cb ml nm rt yy) (X : oSt p l e R s m args below meth c Z T h cells slots) {v : Value} (hd : decode cb pc = .ok (.pop, 1)) (hp : pc + 1 = pc') (hc : v.category = 1) (g : oGoes p e below s Z T (mkF m pc' L S) Q cl sl) : oGoes p e below s Z T (mkF m pc L (v :: S)) Q cl sl := by
  obtain ⟨_, X, -⟩ := X
  subst hp
  exact g.go fun t r => XS.pop X.here K.1 rfl (hb K.2.2.1 hd) rfl hc r
theorem o_goto (K : oCtx p s m meth c Z own cb ml nm rt yy) (X : oSt p l e R s m args below meth c Z T h cells slots) {o : Int} (hd : decode cb pc = .ok (.goto o, 3)) (ho : 0 ≤ (pc : Int) + o) (hp : ((pc : Int) + o).toNat = pc') (g : oGoes p e below s Z T (mkF m pc' L S) Q cl sl) : oGoes p e below s Z T (mkF m pc L S) Q cl sl := by
  obtain ⟨_, X, -⟩ := X
  exact g.go fun t r => XS.goto X.here K.1 rfl (pc0 := pc) rfl (hb K.2.2.1 hd) ho hp r
theorem o_icmp_lt_t (K : oCtx p s m meth c Z own cb ml nm rt yy) (X : oSt p l e R s m args below meth c Z T h cells slots) {x y : Int32} {o : Int} (hd : decode cb pc = .ok (.if_icmp .lt o, 3)) (ho : 0 ≤ (pc : Int) + o) (hp : ((pc : Int) + o).toNat = pc') (hc : x < y) (g : oGoes p e below s Z T (mkF m pc' L S) Q cl sl) : oGoes p e below s Z T (mkF m pc L (.int y :: .int x :: S)) Q cl sl := by
  obtain ⟨_, X, -⟩ := X
  exact g.go fun t r => XS.icmpYes X.here K.1 rfl (pc0 := pc) rfl (hb K.2.2.1 hd) rfl (tlt hc).1 ho hp r
theorem o_icmp_lt_f (K : oCtx p s m meth c Z own cb ml nm rt yy) (X : oSt p l e R s m args below meth c Z T h cells slots) {x y : Int32} {o : Int} (hd : decode cb pc = .ok (.if_icmp .lt o, 3)) (hp : pc + 3 = pc') (hc : ¬ x < y) (g : oGoes p e below s Z T (mkF m pc' L S) Q cl sl) : oGoes p e below s Z T (mkF m pc L (.int y :: .int x :: S)) Q cl sl := by
  obtain ⟨_, X, -⟩ := X
  subst hp
  exact g.go fun t r => XS.icmpNo X.here K.1 rfl (hb K.2.2.1 hd) rfl (flt hc).1 r
theorem o_if_lt_f (K : oCtx p s m meth c Z own cb ml nm rt yy) (X : oSt p l e R s m args below meth c Z T h cells slots) {x : Int32} {o : Int} (hd : decode cb pc = .ok (.ifCond .lt o, 3)) (hp : pc + 3 = pc') (hc : ¬ x < 0) (g : oGoes p e below s Z T (mkF m pc' L S) Q cl sl) : oGoes p e below s Z T (mkF m pc L (.int x :: S)) Q cl sl := by
  obtain ⟨_, X, -⟩ := X
  subst hp
  exact g.go fun t r => XS.ifNo X.here K.1 rfl (hb K.2.2.1 hd) rfl ((if0 _ _).trans (flt hc).1) r
theorem o_icmp_ge_t (K : oCtx p s m meth c Z own cb ml nm rt yy) (X : oSt p l e R s m args below meth c Z T h cells slots) {x y : Int32} {o : Int} (hd : decode cb pc = .ok (.if_icmp .ge o, 3)) (ho : 0 ≤ (pc : Int) + o) (hp : ((pc : Int) + o).toNat = pc') (hc : ¬ x < y) (g : oGoes p e below s Z T (mkF m pc' L S) Q cl sl) : oGoes p e below s Z T (mkF m pc L (.int y :: .int x :: S)) Q cl sl := by
  obtain ⟨_, X, -⟩ := X
  exact g.go fun t r => XS.icmpYes X.here K.1 rfl (pc0 := pc) rfl (hb K.2.2.1 hd) rfl (flt hc).2.1 ho hp r
theorem o_icmp_ge_f (K : oCtx p s m meth c Z own cb ml nm rt yy) (X : oSt p l e R s m args below meth c Z T h cells slots) {x y : Int32} {o : Int} (hd : decode cb pc = .ok (.if_icmp .ge o, 3)) (hp : pc + 3 = pc') (hc : x < y) (g : oGoes p e below s Z T (mkF m pc' L S) Q cl sl) : oGoes p e below s Z T (mkF m pc L (.int y :: .int x :: S)) Q cl sl := by
  obtain ⟨_, X, -⟩ := X
  subst hp
  exact g.go fun t r => XS.icmpNo X.here K.1 rfl (hb K.2.2.1 hd) rfl (tlt hc).2.1 r
theorem o_icmp_le_t (K : oCtx p s m meth c Z own cb ml nm rt yy) (X : oSt p l e R s m args below meth c Z T h cells slots) {x y : Int32} {o : Int} (hd : decode cb pc = .ok (.if_icmp .le o, 3)) (ho : 0 ≤ (pc : Int) + o) (hp : ((pc : Int) + o).toNat = pc') (hc : ¬ y < x) (g : oGoes p e below s Z T (mkF m pc' L S) Q cl sl) : oGoes p e below s Z T (mkF m pc L (.int y :: .int x :: S)) Q cl sl := by
  obtain ⟨_, X, -⟩ := X
  exact g.go fun t r => XS.icmpYes X.here K.1 rfl (pc0 := pc) rfl (hb K.2.2.1 hd) rfl (flt hc).2.2.2 ho hp r
theorem o_icmp_le_f (K : oCtx p s m meth c Z own cb ml nm rt yy) (X : oSt p l e R s m args below meth c Z T h cells slots) {x y : Int32} {o : Int} (hd : decode cb pc = .ok (.if_icmp .le o, 3)) (hp : pc + 3 = pc') (hc : y < x) (g : oGoes p e below s Z T (mkF m pc' L S) Q cl sl) : oGoes p e below s Z T (mkF m pc L (.int y :: .int x :: S)) Q cl sl := by
  obtain ⟨_, X, -⟩ := X
  subst hp
  exact g.go fun t r => XS.icmpNo X.here K.1 rfl (hb K.2.2.1 hd) rfl (tlt hc).2.2.2 r
theorem o_icmp_eq_t (K : oCtx p s m meth c Z own cb ml nm rt yy) (X : oSt p l e R s m args below meth c Z T h cells slots) {x y : Int32} {o : Int} (hd : decode cb pc = .ok (.if_icmp .eq o, 3)) (ho : 0 ≤ (pc : Int) + o) (hp : ((pc : Int) + o).toNat = pc') (hc : x = y) (g : oGoes p e below s Z T (mkF m pc' L S) Q cl sl) : oGoes p e below s Z T (mkF m pc L (.int y :: .int x :: S)) Q cl sl := by
  obtain ⟨_, X, -⟩ := X
  exact g.go fun t r => XS.icmpYes X.here K.1 rfl (pc0 := pc) rfl (hb K.2.2.1 hd) rfl (teq hc).1 ho hp r
theorem o_if_eq_t (K : oCtx p s m meth c Z own cb ml nm rt yy) (X : oSt p l e R s m args below meth c Z T h cells slots) {x : Int32} {o : Int} (hd : decode cb pc = .ok (.ifCond .eq o, 3)) (ho : 0 ≤ (pc : Int) + o) (hp : ((pc : Int) + o).toNat = pc') (hc : x = 0) (g : oGoes p e below s Z T (mkF m pc' L S) Q cl sl) : oGoes p e below s Z T (mkF m pc L (.int x :: S)) Q cl sl := by
  obtain ⟨_, X, -⟩ := X
  exact g.go fun t r => XS.ifYes X.here K.1 rfl (pc0 := pc) rfl (hb K.2.2.1 hd) rfl ((if0 _ _).trans (teq hc).1) ho hp r
theorem o_icmp_eq_f (K : oCtx p s m meth c Z own cb ml nm rt yy) (X : oSt p l e R s m args below meth c Z T h cells slots) {x y : Int32} {o : Int} (hd : decode cb pc = .ok (.if_icmp .eq o, 3)) (hp : pc + 3 = pc') (hc : ¬ x = y) (g : oGoes p e below s Z T (mkF m pc' L S) Q cl sl) : oGoes p e below s Z T (mkF m pc L (.int y :: .int x :: S)) Q cl sl := by
  obtain ⟨_, X, -⟩ := X
  subst hp
  exact g.go fun t r => XS.icmpNo X.here K.1 rfl (hb K.2.2.1 hd) rfl (feq hc).1 r
theorem o_if_eq_f (K : oCtx p s m meth c Z own cb ml nm rt yy) (X : oSt p l e R s m args below meth c Z T h cells slots) {x : Int32} {o : Int} (hd : decode cb pc = .ok (.ifCond .eq o, 3)) (hp : pc + 3 = pc') (hc : ¬ x = 0) (g : oGoes p e below s Z T (mkF m pc' L S) Q cl sl) : oGoes p e below s Z T (mkF m pc L (.int x :: S)) Q cl sl := by
  obtain ⟨_, X, -⟩ := X
  subst hp
  exact g.go fun t r => XS.ifNo X.here K.1 rfl (hb K.2.2.1 hd) rfl ((if0 _ _).trans (feq hc).1) r
theorem o_icmp_ne_t (K : oCtx p s m meth c Z own cb ml nm rt yy) (X : oSt p l e R s m args below meth c Z T h cells slots) {x y : Int32} {o : Int} (hd : decode cb pc = .ok (.if_icmp .ne o, 3)) (ho : 0 ≤ (pc : Int) + o) (hp : ((pc : Int) + o).toNat = pc') (hc : ¬ x = y) (g : oGoes p e below s Z T (mkF m pc' L S) Q cl sl) : oGoes p e below s Z T (mkF m pc L (.int y :: .int x :: S)) Q cl sl := by
  obtain ⟨_, X, -⟩ := X
  exact g.go fun t r => XS.icmpYes X.here K.1 rfl (pc0 := pc) rfl (hb K.2.2.1 hd) rfl (feq hc).2 ho hp r
theorem o_if_ne_t (K : oCtx p s m meth c Z own cb ml nm rt yy) (X : oSt p l e R s m args below meth c Z T h cells slots) {x : Int32} {o : Int} (hd : decode cb pc = .ok (.ifCond .ne o, 3)) (ho : 0 ≤ (pc : Int) + o) (hp : ((pc : Int) + o).toNat = pc') (hc : ¬ x = 0) (g : oGoes p e below s Z T (mkF m pc' L S) Q cl sl) : oGoes p e below s Z T (mkF m pc L (.int x :: S)) Q cl sl := by
  obtain ⟨_, X, -⟩ := X
  exact g.go fun t r => XS.ifYes X.here K.1 rfl (pc0 := pc) rfl (hb K.2.2.1 hd) rfl ((if0 _ _).trans (feq hc).2) ho hp r
theorem o_icmp_ne_f (K : oCtx p s m meth c Z own cb ml nm rt yy) (X : oSt p l e R s m args below meth c Z T h cells slots) {x y : Int32} {o : Int} (hd : decode cb pc = .ok (.if_icmp .ne o, 3)) (hp : pc + 3 = pc') (hc : x = y) (g : oGoes p e below s Z T (mkF m pc' L S) Q cl sl) : oGoes p e below s Z T (mkF m pc L (.int y :: .int x :: S)) Q cl sl := by
  obtain ⟨_, X, -⟩ := X
  subst hp
  exact g.go fun t r => XS.icmpNo X.here K.1 rfl (hb K.2.2.1 hd) rfl (teq hc).2 r
theorem o_if_ne_f (K : oCtx p s m meth c Z own cb ml nm rt yy) (X : oSt p l e R s m args below meth c Z T h cells slots) {x : Int32} {o : Int} (hd : decode cb pc = .ok (.ifCond .ne o, 3)) (hp : pc + 3 = pc') (hc : x = 0) (g : oGoes p e below s Z T (mkF m pc' L S) Q cl sl) : oGoes p e below s Z T (mkF m pc L (.int x :: S)) Q cl sl := by
  obtain ⟨_, X, -⟩ := X
  subst hp
  exact g.go fun t r => XS.ifNo X.here K.1 rfl (hb K.2.2.1 hd) rfl ((if0 _ _).trans (teq hc).2) r
theorem o_ifnull_f (K : oCtx p s m meth c Z own cb ml nm rt yy) (X : oSt p l e R s m args below meth c Z T h cells slots) {b : Addr} {o : Int} (hd : decode cb pc = .ok (.ifnull o, 3)) (hp : pc + 3 = pc') (g : oGoes p e below s Z T (mkF m pc' L S) Q cl sl) : oGoes p e below s Z T (mkF m pc L (.ref b :: S)) Q cl sl := by
  obtain ⟨_, X, -⟩ := X
  subst hp
  exact g.go fun t r => XS.ifnullNo X.here K.1 rfl (hb K.2.2.1 hd) rfl r
theorem o_getfield (K : oCtx p s m meth c Z own cb ml nm rt yy) (X : oSt p l e R s m args below meth c Z T h cells slots) {R0 O n d host : String} {index : Nat} {a : Addr} {v : Value} (w : (Jvm.Cond.fieldLink own index R0 n d).before a0 Z = true ∨ (Jvm.Cond.fieldLinkNest own index R0 n d host).before a0 Z = true) (via : Via Z R0 O n d) (F : Fld Z h a O n d v) (hd : decode cb pc = .ok (.getfield index, 3)) (hp : pc + 3 = pc')
    (g : ∀ T', oSt p l e R s m args below meth c Z T' h cells slots → oGoes p e below s Z T' (mkF m pc' L (v :: S)) Q cl sl) : oGoes p e below s Z T (mkF m pc L (.ref a :: S)) Q cl sl := by
  obtain ⟨locs, X, eT, N, E⟩ := X
  subst hp
  obtain ⟨T', X', e', st⟩ := getF X K.1 K.2.1.wide K.2.2.2.2.1 w via eT F (g := mkF m pc L (.ref a :: S)) rfl rfl (hb K.2.2.1 hd)
  exact (g T' ⟨locs, X', e', N, E⟩).go st
theorem o_getstatic (K : oCtx p s m meth c Z own cb ml nm rt yy) (X : oSt p l e R s m args below meth c Z T h cells slots) {R0 O n d host : String} {index : Nat} {v : Value} (w : (Jvm.Cond.fieldLink own index R0 n d).before a0 Z = true ∨ (Jvm.Cond.fieldLinkNest own index R0 n d host).before a0 Z = true) (via : Via Z R0 O n d) (F : Sta Z h O n d v) (hd : decode cb pc = .ok (.getstatic index, 3)) (hp : pc + 3 = pc')
    (g : ∀ T', oSt p l e R s m args below meth c Z T' h cells slots → oGoes p e below s Z T' (mkF m pc' L (v :: S)) Q cl sl) : oGoes p e below s Z T (mkF m pc L S) Q cl sl := by
  obtain ⟨locs, X, eT, N, E⟩ := X
  subst hp
  obtain ⟨T', X', e', st⟩ := getS2 X K.1 K.2.1.wide K.2.2.2.2.1 w via eT F (g := mkF m pc L S) rfl (hb K.2.2.1 hd)
  exact (g T' ⟨locs, X', e', N, E⟩).go st
theorem o_putfield (K : oCtx p s m meth c Z own cb ml nm rt yy) (X : oSt p l e R s m args below meth c Z T h cells slots) {R0 O n d host C : String} {index kk : Nat} {ty : FieldType} {a : Addr} {v old : Value} (w : (Jvm.Cond.fieldLink own index R0 n d).before a0 Z = true ∨ (Jvm.Cond.fieldLinkNest own index R0 n d host).before a0 Z = true) (via : Via Z R0 O n d) (F : Fld Z h a O n d old) (Ex : Exa Z h a C) (Lz : (Jvm.Cond.lays C O n d).before a0 Z = true ∨ ((Jvm.Cond.laysFinal C O n d).before a0 Z = true ∧ own = O ∧ nm = "<init>")) (wi : (Jvm.Cond.instantiable C kk).before a0 Z = true) (hty : parseFieldDescriptor d = some ty) (hn : narrow ty v = v) (hf : fits ty v = true) (hza : Z.heap.size ≤ a) (hd : decode cb pc = .ok (.putfield index, 3)) (hp : pc + 3 = pc')
    (g : ∀ T' h', oSt p l e R s m args below meth c Z T' h' cells slots → Wr h h' a (Jvm.RoadKit.slotOf Z O n d) v → oGoes p e below s Z T' (mkF m pc' L S) Q cl sl) : oGoes p e below s Z T (mkF m pc L (v :: .ref a :: S)) Q cl sl := by
  obtain ⟨locs, X, eT, N, E⟩ := X
  subst hp
  obtain ⟨T', h', X', e', W, st⟩ := putF X K.1 K.2.1.wide K.2.2.2.2.1 w via eT F Ex (Lz.imp id fun q => ⟨q.1, q.2.1, K.2.2.2.2.2.1.trans q.2.2⟩) wi hty hn hf (g := mkF m pc L (v :: .ref a :: S)) rfl rfl (hb K.2.2.1 hd)
  exact (g T' h' ⟨_, X', e', Fr.snoc X' N hza, oExt_wr E W hza⟩ W).go st
theorem o_putfieldN (K : oCtx p s m meth c Z own cb ml nm rt yy) (X : oSt p l e R s m args below meth c Z T h cells slots) {R0 O n d C : String} {index kk : Nat} {ty : FieldType} {a : Addr} {v v' old : Value} (w : (Jvm.Cond.fieldLink own index R0 n d).before a0 Z = true) (via : Via Z R0 O n d) (F : Fld Z h a O n d old) (Ex : Exa Z h a C) (Lz : (Jvm.Cond.lays C O n d).before a0 Z = true ∨ ((Jvm.Cond.laysFinal C O n d).before a0 Z = true ∧ own = O ∧ nm = "<init>")) (wi : (Jvm.Cond.instantiable C kk).before a0 Z = true) (hty : parseFieldDescriptor d = some ty) (hn : narrow ty v = v') (hf : fits ty v' = true) (hza : Z.heap.size ≤ a) (hd : decode cb pc = .ok (.putfield index, 3)) (hp : pc + 3 = pc')
    (g : ∀ T' h', oSt p l e R s m args below meth c Z T' h' cells slots → Wr h h' a (Jvm.RoadKit.slotOf Z O n d) v' → oGoes p e below s Z T' (mkF m pc' L S) Q cl sl) : oGoes p e below s Z T (mkF m pc L (v :: .ref a :: S)) Q cl sl := by
  obtain ⟨locs, X, eT, N, E⟩ := X
  subst hp
  obtain ⟨T', h', X', e', W, st⟩ := putFN X K.1 K.2.1.wide K.2.2.2.2.1 w via eT F Ex (Lz.imp id fun q => ⟨q.1, q.2.1, K.2.2.2.2.2.1.trans q.2.2⟩) wi hty hn hf (g := mkF m pc L (v :: .ref a :: S)) rfl rfl (hb K.2.2.1 hd)
  exact (g T' h' ⟨_, X', e', Fr.snoc X' N hza, oExt_wr E W hza⟩ W).go st
theorem o_new (K : oCtx p s m meth c Z own cb ml nm rt yy) (X : oSt p l e R s m args below meth c Z T h cells slots) {C : String} {index n : Nat} (w : (Jvm.Cond.classLink own index C).before a0 Z = true) (wi : (Jvm.Cond.instantiable C n).before a0 Z = true) (wz : (Jvm.Cond.initialized C).before a0 Z = true) (hd : decode cb pc = .ok (.new index, 3)) (hp : pc + 3 = pc') (hc : cells + 1 ≤ R.cells) (hl : slots + n ≤ R.slots)
    (g : ∀ T' h' b, oSt p l e R s m args below meth c Z T' h' (cells + 1) (slots + n) → b = h.size → Ext h h' → Exa Z h' b C → (∀ {O nm d : String} {ty : FieldType}, Laid Z a0 C O nm d → parseFieldDescriptor d = some ty → Fld Z h' b O nm d (defaultValue ty)) → Z.heap.size ≤ b → oGoes p e below s Z T' (mkF m pc' L (.ref b :: S)) Q cl sl) : oGoes p e below s Z T (mkF m pc L S) Q cl sl := by
  obtain ⟨locs, X, eT, N, E⟩ := X
  subst hp
  obtain ⟨T', h', X', e', E', A, D, -, st⟩ := newO X K.1 K.2.1.wide K.2.2.2.2.1 w wi wz eT (g := mkF m pc L S) rfl (hb K.2.2.1 hd) hc hl
  exact (g T' h' h.size ⟨_, X', e', N, oExt_trans E E'⟩ rfl E' A D E.1).go st
theorem o_initObj (K : oCtx p s m meth c Z own cb ml nm rt yy) (X : oSt p l e R s m args below meth c Z T h cells slots) {index : Nat} {a : Addr} (w1 : (Jvm.Cond.methodLink own index Lib.objectInit).before a0 Z = true) (w2 : (Jvm.Cond.instanceMethod Lib.objectInit).before a0 Z = true) (w3 : (Jvm.Cond.code Lib.objectInit ⟨#[0xb1]⟩ 1 none).before a0 Z = true) (hd : decode cb pc = .ok (.invokespecial index, 3)) (hp : pc + 3 = pc') (hsz : L.size = ml) (hf : 1 ≤ R.frames) {W : Nat} (hW : (S.map fun v => v.category).sum = W) (hl : W + 12 ≤ R.locals)
    (g : ∀ T', oSt p l e R s m args below meth c Z T' h cells slots → oGoes p e below s Z T' (mkF m pc' L S) Q cl sl) : oGoes p e below s Z T (mkF m pc L (.ref a :: S)) Q cl sl := by
  obtain ⟨locs, X, eT, N, E⟩ := X
  subst hp
  obtain ⟨T', X', e', st⟩ := initO X K.1 K.2.1.wide K.2.2.2.2.1 w1 w2 w3 eT (g := mkF m pc L (.ref a :: S)) rfl (by show L.size = _; rw [K.2.2.2.1]; exact hsz) rfl (hb K.2.2.1 hd) hf (W := W) (by show 2 * 0 + _ ≤ _; omega) hl
  exact (g T' ⟨_, X', e', N, E⟩).go st
theorem o_static (K : oCtx p s m meth c Z own cb ml nm rt yy) (X : oSt p l e R s m args below meth c Z T h cells slots) {index : Nat} {y : MethodName} {bs : ByteArray} {mx : Nat} {rc : Option FieldType} {rm : Room} {as : Array Value} {Qc : Option Value → Heap → Prop} (w1 : (Jvm.Cond.methodLink own index y).before a0 Z = true) (w2 : (Jvm.Cond.static y).before a0 Z = true) (wz : (Jvm.Cond.initialized y.cls).before a0 Z = true) (wc : (Jvm.Cond.code y bs mx rc).before a0 Z = true) (hy : y.cls ≠ "java/lang/invoke/MethodHandle" ∧ y.cls ≠ "java/lang/invoke/VarHandle")
    (hM : oMet l Z y bs mx rc rm [] as h Qc) (hf : rm.frames + 1 ≤ R.frames) (hsz : L.size = ml) {argsL : List Value} (has : argsL.toArray = as) (hlen : ∀ sig, parseMethodDescriptor y.desc = some sig → argsL.length = sig.parameters.length) {W : Nat} (hW : (S.map fun v => v.category).sum = W) (hl : W + (mx + 11) + rm.locals ≤ R.locals) (hc : cells + rm.cells ≤ R.cells) (hs : slots + rm.slots ≤ R.slots) (hd : decode cb pc = .ok (.invokestatic index, 3)) (hp : pc + 3 = pc') (g : ∀ v T' h', oSt p l e R s m args below meth c Z T' h' (cells + rm.cells) (slots + rm.slots) → Qc v h' → oGoes p e below s Z T' (mkF m pc' L (v.toList ++ S)) Q cl sl) : oGoes p e below s Z T (mkF m pc L (argsL.reverse ++ S)) Q cl sl := by
  obtain ⟨locs, X, eT, N, E⟩ := X
  subst hp
  obtain ⟨v, _, ⟨T', L1, k1, n1⟩, -, X', ⟨Lc, hQ, l1, y1, z1⟩, st⟩ := Jvm.LawKit.callS X K.1 (y := y) K.2.2.2.2.1 (mvT K.2.1.wide w1) (mvT K.2.1.wide w2) (mvT K.2.1.wide wz) (mvT K.2.1.wide wc) hy (oBackL (W := W) (Q := fun v h L => Qc v h ∧ Fr Z.heap.size L ∧ Ext Z.heap h) (hM E) K.2.1 wc wz hf hl) (g := mkF m pc L (argsL.reverse ++ S)) rfl (by show L.size = _; rw [K.2.2.2.1]; exact hsz) (argsL := argsL) (rest := S) hlen rfl (by show 2 * 0 + _ ≤ _; omega) (hb K.2.2.1 hd) (fun _ _ => ⟨has, eT, hc, hs⟩)
  dsimp only [Pt.U, Pt.locs, Pt.cells, Pt.slots] at X' l1 y1 z1 st hQ
  subst l1 y1 z1
  exact (g v T' _ ⟨_, X', rfl, Fr.app N hQ.2.1, hQ.2.2⟩ hQ.1).go st
theorem o_special (K : oCtx p s m meth c Z own cb ml nm rt yy) (X : oSt p l e R s m args below meth c Z T h cells slots) {index : Nat} {y : MethodName} {a : Addr} {bs : ByteArray} {mx : Nat} {rm : Room} {as : Array Value} {Qc : Option Value → Heap → Prop} (hy1 : y.name = "<init>") (w1 : (Jvm.Cond.methodLink own index y).before a0 Z = true) (w2 : (Jvm.Cond.instanceMethod y).before a0 Z = true) (wz : (Jvm.Cond.initialized y.cls).before a0 Z = true) (wc : (Jvm.Cond.code y bs mx none).before a0 Z = true) (hy : y.cls ≠ "java/lang/invoke/MethodHandle" ∧ y.cls ≠ "java/lang/invoke/VarHandle")
    (hM : oMet l Z y bs mx none rm [] as h Qc) (hf : rm.frames + 1 ≤ R.frames) (hsz : L.size = ml) {argsL : List Value} (has : (Value.ref a :: argsL).toArray = as) (hlen : ∀ sig, parseMethodDescriptor y.desc = some sig → argsL.length = sig.parameters.length) {W : Nat} (hW : (S.map fun v => v.category).sum = W) (hl : W + (mx + 11) + rm.locals ≤ R.locals) (hc : cells + rm.cells ≤ R.cells) (hs : slots + rm.slots ≤ R.slots) (hd : decode cb pc = .ok (.invokespecial index, 3)) (hp : pc + 3 = pc') (g : ∀ v T' h', oSt p l e R s m args below meth c Z T' h' (cells + rm.cells) (slots + rm.slots) → Qc v h' → oGoes p e below s Z T' (mkF m pc' L (v.toList ++ S)) Q cl sl) : oGoes p e below s Z T (mkF m pc L (argsL.reverse ++ .ref a :: S)) Q cl sl := by
  obtain ⟨locs, X, eT, N, E⟩ := X
  subst hp
  obtain ⟨v, _, ⟨T', L1, k1, n1⟩, -, X', ⟨Lc, hQ, l1, y1, z1⟩, st⟩ := X.specialBack K.1 (y := y) hy1 K.2.2.2.2.1 (mvT K.2.1.wide w1) (mvT K.2.1.wide w2) (mvT K.2.1.wide wc) hy (oBackL (W := W) (Q := fun v h L => Qc v h ∧ Fr Z.heap.size L ∧ Ext Z.heap h) (hM E) K.2.1 wc wz hf hl) (g := mkF m pc L (argsL.reverse ++ .ref a :: S)) rfl (by show L.size = _; rw [K.2.2.2.1]; exact hsz) (Steps.refl _) (a := a) (argsL := argsL) (rest := S) hlen rfl (by show 2 * 0 + _ ≤ _; omega) (hb K.2.2.1 hd) (fun _ _ => ⟨has, eT, hc, hs⟩)
  dsimp only [Pt.U, Pt.locs, Pt.cells, Pt.slots] at X' l1 y1 z1 st hQ
  subst l1 y1 z1
  exact (g v T' _ ⟨_, X', rfl, Fr.app N hQ.2.1, hQ.2.2⟩ hQ.1).go fun t r => st.trans r
theorem o_virtual (K : oCtx p s m meth c Z own cb ml nm rt yy) (X : oSt p l e R s m args below meth c Z T h cells slots) {index : Nat} {y z : MethodName} {C : String} {a : Addr} {bs : ByteArray} {mx : Nat} {rc : Option FieldType} {rm : Room} {as : Array Value} {Qc : Option Value → Heap → Prop} (w1 : (Jvm.Cond.methodLink own index y).before a0 Z = true) (w2 : (Jvm.Cond.declares y).before a0 Z = true) (hnf : ∀ s' : State, Z.Warmed39 s'.vm → NotFace s' y) (w3 : (Jvm.Cond.selects C y z).before a0 Z = true) (w4 : (Jvm.Cond.instanceMethod z).before a0 Z = true) (wz : (Jvm.Cond.initialized z.cls).before a0 Z = true) (wc : (Jvm.Cond.code z bs mx rc).before a0 Z = true) (hy : y.cls ≠ "java/lang/invoke/MethodHandle" ∧ y.cls ≠ "java/lang/invoke/VarHandle") (Ex : Exa Z h a C)
    (hM : oMet l Z z bs mx rc rm [] as h Qc) (hf : rm.frames + 1 ≤ R.frames) (hsz : L.size = ml) {argsL : List Value} (has : (Value.ref a :: argsL).toArray = as) (hlen : ∀ sig, parseMethodDescriptor y.desc = some sig → argsL.length = sig.parameters.length) {W : Nat} (hW : (S.map fun v => v.category).sum = W) (hl : W + (mx + 11) + rm.locals ≤ R.locals) (hc : cells + rm.cells ≤ R.cells) (hs : slots + rm.slots ≤ R.slots) (hd : decode cb pc = .ok (.invokevirtual index, 3)) (hp : pc + 3 = pc') (g : ∀ v T' h', oSt p l e R s m args below meth c Z T' h' (cells + rm.cells) (slots + rm.slots) → Qc v h' → oGoes p e below s Z T' (mkF m pc' L (v.toList ++ S)) Q cl sl) : oGoes p e below s Z T (mkF m pc L (argsL.reverse ++ .ref a :: S)) Q cl sl := by
  obtain ⟨locs, X, eT, N, E⟩ := X
  subst hp
  obtain ⟨cq, kq, qa, qb, qc⟩ := isOf K.2.1.wide eT Ex
  obtain ⟨v, _, ⟨T', L1, k1, n1⟩, -, X', ⟨Lc, hQ, l1, y1, z1⟩, st⟩ := X.virtualBack K.1 (y := y) (z := z) K.2.2.2.2.1 (mvT K.2.1.wide w1) (mvT K.2.1.wide w2) (hnf _ K.2.1.wide) (mvT K.2.1.wide w3) (mvT K.2.1.wide w4) hy (oBackL (W := W) (Q := fun v h L => Qc v h ∧ Fr Z.heap.size L ∧ Ext Z.heap h) (hM E) K.2.1 wc wz hf hl) qa qc (g := mkF m pc L (argsL.reverse ++ .ref a :: S)) rfl (by show L.size = _; rw [K.2.2.2.1]; exact hsz) (Steps.refl _) (argsL := argsL) (rest := S) hlen rfl (by show 2 * 0 + _ ≤ _; omega) (hb K.2.2.1 hd) (fun _ _ => ⟨has, eT, hc, hs⟩)
  dsimp only [Pt.U, Pt.locs, Pt.cells, Pt.slots] at X' l1 y1 z1 st hQ
  subst l1 y1 z1
  exact (g v T' _ ⟨_, X', rfl, Fr.app N hQ.2.1, hQ.2.2⟩ hQ.1).go fun t r => st.trans r
theorem o_ldc (K : oCtx p s m meth c Z own cb ml nm rt yy) (X : oSt p l e R s m args below meth c Z T h cells slots) {index : Nat} {z : Int32} (w : (Jvm.Cond.constant own index z).before a0 Z = true) (hd : decode cb pc = .ok (.ldc index, 2)) (hp : pc + 2 = pc') (g : oGoes p e below s Z T (mkF m pc' L (.int z :: S)) Q cl sl) : oGoes p e below s Z T (mkF m pc L S) Q cl sl := by
  obtain ⟨locs, X, eT, N, E⟩ := X
  subst hp
  exact g.go (X.ldcInt K.1 K.2.2.2.2.1 (mvT K.2.1.wide w) (g := mkF m pc L S) rfl (hb K.2.2.1 hd))
theorem o_checkcast (K : oCtx p s m meth c Z own cb ml nm rt yy) (X : oSt p l e R s m args below meth c Z T h cells slots) {index : Nat} {C : String} {a : Addr} (w : (Jvm.Cond.classLink own index C).before a0 Z = true) (F : Ins Z h a C true) (hd : decode cb pc = .ok (.checkcast index, 3)) (hp : pc + 3 = pc') (g : ∀ T', oSt p l e R s m args below meth c Z T' h cells slots → oGoes p e below s Z T' (mkF m pc' L (.ref a :: S)) Q cl sl) : oGoes p e below s Z T (mkF m pc L (.ref a :: S)) Q cl sl := by
  obtain ⟨locs, X, eT, N, E⟩ := X
  subst hp
  obtain ⟨T', X', e', st⟩ := castY X K.1 K.2.1.wide K.2.2.2.2.1 w eT F (g := mkF m pc L (.ref a :: S)) rfl rfl (hb K.2.2.1 hd)
  exact (g T' ⟨_, X', e', N, E⟩).go st
def oArr (Z : State) (h : Heap) (a : Addr) (k : ClassId) (ty : FieldType) (vs : List Value) : Prop := ∃ c : Cell, Arr Z h a c ty ∧ c.cls = k ∧ c.slots = vs.toArray ∧ (∀ v ∈ vs, fits ty v = true) ∧ vs.length < 2 ^ 31
theorem oArr.lt {a : Addr} {k : ClassId} {ty : FieldType} {vs : List Value} (F : oArr Z h a k ty vs) : a < h.size := by obtain ⟨c, A, -⟩ := F; exact A.lt
theorem oArr.ext {h' : Heap} {a : Addr} {k : ClassId} {ty : FieldType} {vs : List Value} (F : oArr Z h a k ty vs) (E : Ext h h') : oArr Z h' a k ty vs := by obtain ⟨c, A, r⟩ := F; exact ⟨c, A.ext E, r⟩
theorem oArr.other {h' : Heap} {a b : Addr} {k : ClassId} {ty : FieldType} {vs : List Value} {sl : Nat} {v : Value} (F : oArr Z h b k ty vs) (W : Wr h h' a sl v) (q : b ≠ a) : oArr Z h' b k ty vs := by obtain ⟨c, A, r⟩ := F; exact ⟨c, A.other W q, r⟩
theorem oArr.keep {h' : Heap} {a : Addr} {k : ClassId} {ty : FieldType} {vs : List Value} {ws : List Addr} (F : oArr Z h a k ty vs) (Kp : Keep h h' ws) (q : a ∉ ws) : oArr Z h' a k ty vs := by obtain ⟨c, A, r⟩ := F; exact ⟨c, ⟨Kp.2.1 a c A.1 q, A.2⟩, r⟩
theorem oArr.set {h' : Heap} {a : Addr} {k : ClassId} {ty : FieldType} {vs : List Value} {j : Nat} {v : Value} (F : oArr Z h a k ty vs) (W : Wr h h' a j v) (hf : fits ty v = true) : oArr Z h' a k ty (vs.set j v) := by
  obtain ⟨c, A, q1, q2, q3, q4⟩ := F
  refine ⟨c.setSlot j v, A.same W, q1, ?_, fun u hu => ?_, by simpa using q4⟩
  · simp [Cell.setSlot, q2, List.setIfInBounds_toArray]
  · rcases List.mem_or_eq_of_mem_set hu with q | rfl
    · exact q3 _ q
    · exact hf
theorem oInb {vs : List Value} {c : Cell} {j : Int32} (q : c.slots = vs.toArray) (hj : ¬ j < 0) (hlt : j.toNatClampNeg < vs.length) : ¬ (j < 0 ∨ c.slots.size ≤ j.toNatClampNeg) := by
  rw [q]; simp only [List.size_toArray]
  rintro (h1 | h1)
  · exact hj h1
  · omega
theorem o_arraylength (K : oCtx p s m meth c Z own cb ml nm rt yy) (X : oSt p l e R s m args below meth c Z T h cells slots) {a : Addr} {k : ClassId} {ty : FieldType} {vs : List Value} {z : Int32} (F : oArr Z h a k ty vs) (hz : vs.length.toInt32 = z) (hd : decode cb pc = .ok (.arraylength, 1)) (hp : pc + 1 = pc') (g : oGoes p e below s Z T (mkF m pc' L (.int z :: S)) Q cl sl) : oGoes p e below s Z T (mkF m pc L (.ref a :: S)) Q cl sl := by
  obtain ⟨locs, X, eT, N, E⟩ := X
  obtain ⟨cc, A, q1, q2, q3, q4⟩ := F
  subst hp
  refine g.go fun t r => X.arraylength K.1 (by rw [eT]; exact A.1) (State.isArrayOf_alike K.2.1.alike A.2.1) (g := mkF m pc L (.ref a :: S)) rfl rfl (hb K.2.2.1 hd) _ ?_
  have e1 : cc.slots.size.toInt32 = z := by rw [q2]; simpa using hz
  rw [e1]; exact r
theorem o_caload (K : oCtx p s m meth c Z own cb ml nm rt yy) (X : oSt p l e R s m args below meth c Z T h cells slots) {a : Addr} {k : ClassId} {vs : List Value} {j : Int32} {v : Value} (F : oArr Z h a k .char vs) (hj : ¬ j < 0) (hv : vs[j.toNatClampNeg]? = some v) (hd : decode cb pc = .ok (.caload, 1)) (hp : pc + 1 = pc') (g : oGoes p e below s Z T (mkF m pc' L (v :: S)) Q cl sl) : oGoes p e below s Z T (mkF m pc L (.int j :: .ref a :: S)) Q cl sl := by
  obtain ⟨locs, X, eT, N, E⟩ := X
  obtain ⟨cc, A, q1, q2, q3, q4⟩ := F
  subst hp
  exact g.go fun t r => X.caload K.1 (by rw [eT]; exact A.1) (State.isArrayOf_alike K.2.1.alike A.2.1) A.2.2 (oInb q2 hj (List.getElem?_eq_some_iff.mp hv).1) (by rw [q2]; simpa using hv) (g := mkF m pc L (.int j :: .ref a :: S)) rfl rfl (hb K.2.2.1 hd) _ r
theorem o_baload (K : oCtx p s m meth c Z own cb ml nm rt yy) (X : oSt p l e R s m args below meth c Z T h cells slots) {a : Addr} {k : ClassId} {vs : List Value} {j : Int32} {v : Value} (F : oArr Z h a k .byte vs) (hj : ¬ j < 0) (hv : vs[j.toNatClampNeg]? = some v) (hd : decode cb pc = .ok (.baload, 1)) (hp : pc + 1 = pc') (g : oGoes p e below s Z T (mkF m pc' L (v :: S)) Q cl sl) : oGoes p e below s Z T (mkF m pc L (.int j :: .ref a :: S)) Q cl sl := by
  obtain ⟨locs, X, eT, N, E⟩ := X
  obtain ⟨cc, A, q1, q2, q3, q4⟩ := F
  subst hp
  exact g.go fun t r => X.baloadBytes K.1 (by rw [eT]; exact A.1) (State.isArrayOf_alike K.2.1.alike A.2.1) A.2.2 (oInb q2 hj (List.getElem?_eq_some_iff.mp hv).1) (by rw [q2]; simpa using hv) (g := mkF m pc L (.int j :: .ref a :: S)) rfl rfl (hb K.2.2.1 hd) _ r
theorem o_castore (K : oCtx p s m meth c Z own cb ml nm rt yy) (X : oSt p l e R s m args below meth c Z T h cells slots) {a : Addr} {k : ClassId} {vs : List Value} {j : Int32} {x : Int32} {z : Value} (F : oArr Z h a k .char vs) (hj : ¬ j < 0) (hlt : j.toNatClampNeg < vs.length) (hza : Z.heap.size ≤ a) (hz : (.int (nar .char x) : Value) = z) (hd : decode cb pc = .ok (.castore, 1)) (hp : pc + 1 = pc')
    (g : ∀ T' h', oSt p l e R s m args below meth c Z T' h' cells slots → Wr h h' a j.toNatClampNeg z → oArr Z h' a k .char (vs.set j.toNatClampNeg z) → oGoes p e below s Z T' (mkF m pc' L S) Q cl sl) : oGoes p e below s Z T (mkF m pc L (.int x :: .int j :: .ref a :: S)) Q cl sl := by
  obtain ⟨locs, X, eT, N, E⟩ := X
  subst hp hz
  obtain ⟨cc, A, q1, q2, q3, q4⟩ := id F
  obtain ⟨T', h', X', e', W, st⟩ := stC X K.1 K.2.1.wide eT A (oInb q2 hj hlt) (g := mkF m pc L (.int x :: .int j :: .ref a :: S)) rfl rfl (hb K.2.2.1 hd)
  exact (g T' h' ⟨_, X', e', Fr.snoc X' N hza, oExt_wr E W hza⟩ W (F.set W (fits_nar_char x))).go st
theorem o_bastore (K : oCtx p s m meth c Z own cb ml nm rt yy) (X : oSt p l e R s m args below meth c Z T h cells slots) {a : Addr} {k : ClassId} {vs : List Value} {j : Int32} {x : Int32} {z : Value} (F : oArr Z h a k .byte vs) (hj : ¬ j < 0) (hlt : j.toNatClampNeg < vs.length) (hza : Z.heap.size ≤ a) (hz : (.int (nar .byte x) : Value) = z) (hd : decode cb pc = .ok (.bastore, 1)) (hp : pc + 1 = pc')
    (g : ∀ T' h', oSt p l e R s m args below meth c Z T' h' cells slots → Wr h h' a j.toNatClampNeg z → oArr Z h' a k .byte (vs.set j.toNatClampNeg z) → oGoes p e below s Z T' (mkF m pc' L S) Q cl sl) : oGoes p e below s Z T (mkF m pc L (.int x :: .int j :: .ref a :: S)) Q cl sl := by
  obtain ⟨locs, X, eT, N, E⟩ := X
  subst hp hz
  obtain ⟨cc, A, q1, q2, q3, q4⟩ := id F
  obtain ⟨T', h', X', e', W, st⟩ := stB X K.1 K.2.1.wide eT A (oInb q2 hj hlt) (g := mkF m pc L (.int x :: .int j :: .ref a :: S)) rfl rfl (hb K.2.2.1 hd)
  exact (g T' h' ⟨_, X', e', Fr.snoc X' N hza, oExt_wr E W hza⟩ W (F.set W (fits_nar_byte x))).go st
theorem oArr_new {b : Addr} {k : ClassId} {ty : FieldType} {n : Int32} {c : Nat} (A : Arr Z h b (newA k ty n) ty) (hn : n.toNatClampNeg = c) (hc : c < 2 ^ 31) (hf : fits ty (defaultValue ty) = true) : oArr Z h b k ty (List.replicate c (defaultValue ty)) :=
  ⟨_, A, rfl, by simp [newA, hn], fun v hv => by rw [(List.mem_replicate.mp hv).2]; exact hf, by simpa using hc⟩
theorem o_newarray (K : oCtx p s m meth c Z own cb ml nm rt yy) (X : oSt p l e R s m args below meth c Z T h cells slots) {aty : ArrayType} {n : Int32} {ad : String} (cn : Nat) (w : (Jvm.Cond.arrayClass (newarray.typeOf aty)).before a0 Z = true) (had : "[" ++ (newarray.typeOf aty).toString = ad) (hn : ¬ n < 0) (hcn : n.toNatClampNeg = cn) (hbb : cn * 8 ≤ 536870912) (hf : fits (newarray.typeOf aty) (defaultValue (newarray.typeOf aty)) = true) (hd : decode cb pc = .ok (.newarray aty, 2)) (hp : pc + 2 = pc') (hc : cells + 1 ≤ R.cells) (hl : slots + cn ≤ R.slots)
    (g : ∀ T' h' b k, oSt p l e R s m args below meth c Z T' h' (cells + 1) (slots + cn) → b = h.size → Ext h h' → oArr Z h' b k (newarray.typeOf aty) (List.replicate cn (defaultValue (newarray.typeOf aty))) → Exa Z h' b ad → Z.heap.size ≤ b → oGoes p e below s Z T' (mkF m pc' L (.ref b :: S)) Q cl sl) : oGoes p e below s Z T (mkF m pc L (.int n :: S)) Q cl sl := by
  obtain ⟨locs, X, eT, N, E⟩ := X
  subst hp
  obtain ⟨T', h', k, X', e', E', A, Ex, st⟩ := newPE X K.1 K.2.1.wide w eT (g := mkF m pc L (.int n :: S)) rfl (hb K.2.2.1 hd) rfl hn (cap := cn) (Nat.le_of_eq hcn) hbb hc hl had
  exact (g T' h' h.size k ⟨_, X', e', N, oExt_trans E E'⟩ rfl E' (oArr_new A hcn (by omega) hf) Ex E.1).go st
theorem oNarIdembyte (x : Int32) : nar .byte (nar .byte x) = nar .byte x := by
  simp [nar]
theorem oFitboolean {x x' : Int32} (q : nar .boolean x = x') : fits .boolean (.int x') = true := q ▸ fits_nar_bool x
theorem oFitbyte {x x' : Int32} (q : nar .byte x = x') : fits .byte (.int x') = true := q ▸ fits_nar_byte x
theorem oCat1 {z : Int32} : (Value.int z).category = 1 := rfl
theorem oCat2 {z : Int64} : (Value.long z).category = 2 := rfl
theorem oCat3 {a : Addr} : (Value.ref a).category = 1 := rfl
theorem oCat4 : Value.null.category = 1 := rfl
theorem oCatRef {v : Value} (h2 : v.isRef = true) : v.category = 1 := by
  rcases ref_cases h2 with rfl | ⟨a, rfl⟩ <;> rfl
theorem o_tswIn (K : oCtx p s m meth c Z own cb ml nm rt yy) (X : oSt p l e R s m args below meth c Z T h cells slots) {dflt low high o : Int} {offs : Array Int} {len : Nat} {i : Int32} (hd : decode cb pc = .ok (.tableswitch dflt low high offs, len)) (hin : ¬ (i.toInt < low ∨ i.toInt > high)) (hoff : offs[(i.toInt - low).toNat]? = some o) (ho : 0 ≤ (pc : Int) + o) (hp : ((pc : Int) + o).toNat = pc') (g : oGoes p e below s Z T (mkF m pc' L S) Q cl sl) : oGoes p e below s Z T (mkF m pc L (.int i :: S)) Q cl sl := by
  obtain ⟨_, X, -⟩ := X
  exact g.go fun t r => XS.tswIn X.here K.1 rfl (pc0 := pc) rfl (hb K.2.2.1 hd) rfl hin hoff ho hp r
theorem oMaskPos (x : Int32) {k : Int32} (hk : k.toBitVec.toNat < 2 ^ 31) : ¬ (x &&& k) < 0 := by
  rw [Int32.lt_iff_toInt_lt]
  have h1 : (x &&& k).toBitVec.toNat < 2 ^ 31 := by
    simp only [Int32.toBitVec_and, BitVec.toNat_and]
    exact Nat.lt_of_le_of_lt Nat.and_le_right hk
  have h2 : (x &&& k).toInt = (x &&& k).toBitVec.toNat := BitVec.toInt_eq_toNat_of_lt (by omega)
  have h3 : (0 : Int32).toInt = 0 := by decide
  omega
theorem oNeInt_v {args : Array Value} {s : State} {t : Term} {x z : Int32} (ht : t.eval args s none [] s = some (.int x)) (q : (Jvm.Cond.not (Jvm.Cond.eq t (Term.int z))).value args s none s [] = some true) : ¬ x = z := by
  have r := not_v q
  have e2 : (Term.int z).eval args s none [] s = some (.int z) := rfl
  simpa [Jvm.Cond.value, ht, e2] using r
theorem oAnd3 (x : Int32) : x &&& 3 = 0 ∨ x &&& 3 = 1 ∨ x &&& 3 = 2 ∨ x &&& 3 = 3 := by
  have h1 : (x &&& 3).toBitVec.toNat ≤ 3 := by
    simp only [Int32.toBitVec_and, BitVec.toNat_and]
    exact Nat.and_le_right
  have e : ∀ k : Int32, (x &&& 3).toBitVec.toNat = k.toBitVec.toNat → x &&& 3 = k := fun k q => Int32.toBitVec_inj.mp (BitVec.eq_of_toNat_eq q)
  have z0 : (0 : Int32).toBitVec.toNat = 0 := by decide
  have z1 : (1 : Int32).toBitVec.toNat = 1 := by decide
  have z2 : (2 : Int32).toBitVec.toNat = 2 := by decide
  have z3 : (3 : Int32).toBitVec.toNat = 3 := by decide
  by_cases q0 : (x &&& 3).toBitVec.toNat = 0
  · exact Or.inl (e 0 (by omega))
  by_cases q1 : (x &&& 3).toBitVec.toNat = 1
  · exact Or.inr (Or.inl (e 1 (by omega)))
  by_cases q2 : (x &&& 3).toBitVec.toNat = 2
  · exact Or.inr (Or.inr (Or.inl (e 2 (by omega))))
  · exact Or.inr (Or.inr (Or.inr (e 3 (by omega))))
theorem oNF {C : String} {y : MethodName} (w : (Jvm.Cond.selects C y y).before a0 Z = true) : ∀ s' : State, Z.Warmed39 s'.vm → NotFace s' y := fun _ q => notFace_of_selects (args := #[]) (mvT q w)
theorem o_lswHit (K : oCtx p s m meth c Z own cb ml nm rt yy) (X : oSt p l e R s m args below meth c Z T h cells slots) {dflt o v : Int} {prs : Array (Int × Int)} {len : Nat} {i : Int32} (hd : decode cb pc = .ok (.lookupswitch dflt prs, len)) (hv : i.toInt = v) (hfind : prs.find? (·.1 == v) = some (v, o)) (hsort : (prs.toList.zip prs.toList.tail).all (fun q => decide (q.1.1 < q.2.1)) = true) (ho : 0 ≤ (pc : Int) + o) (hp : ((pc : Int) + o).toNat = pc') (g : oGoes p e below s Z T (mkF m pc' L S) Q cl sl) : oGoes p e below s Z T (mkF m pc L (.int i :: S)) Q cl sl := by
  obtain ⟨_, X, -⟩ := X
  subst hp hv
  refine g.go fun t r => ?_
  have hx := K.1
  have hd' := hb K.2.2.1 hd
  show Steps p.tables e below (T.setTop { method := m, pc := pc, locals := L, stack := .int i :: S, locked := none }) _
  jvm_step X.here [X.here.top, hx, hd', hfind, ho, lookupswitch.wp_whole]
  exact ⟨fun a b a' b' hm => by simpa using List.all_eq_true.mp hsort _ hm, r⟩
theorem o_lswMiss (K : oCtx p s m meth c Z own cb ml nm rt yy) (X : oSt p l e R s m args below meth c Z T h cells slots) {dflt v : Int} {prs : Array (Int × Int)} {len : Nat} {i : Int32} (hd : decode cb pc = .ok (.lookupswitch dflt prs, len)) (hv : i.toInt = v) (hfind : prs.find? (·.1 == v) = none) (hsort : (prs.toList.zip prs.toList.tail).all (fun q => decide (q.1.1 < q.2.1)) = true) (ho : 0 ≤ (pc : Int) + dflt) (hp : ((pc : Int) + dflt).toNat = pc') (g : oGoes p e below s Z T (mkF m pc' L S) Q cl sl) : oGoes p e below s Z T (mkF m pc L (.int i :: S)) Q cl sl := by
  obtain ⟨_, X, -⟩ := X
  subst hp hv
  refine g.go fun t r => ?_
  have hx := K.1
  have hd' := hb K.2.2.1 hd
  show Steps p.tables e below (T.setTop { method := m, pc := pc, locals := L, stack := .int i :: S, locked := none }) _
  jvm_step X.here [X.here.top, hx, hd', hfind, ho, lookupswitch.wp_whole]
  exact ⟨fun a b a' b' hm => by simpa using List.all_eq_true.mp hsort _ hm, r⟩
theorem oInstSpec {Z : State} {a0 : Array Value} {K : String} {n : Nat} (w : (Jvm.Cond.instantiable K n).before a0 Z = true) : ∃ t k, Z.vm.findClass K = some t ∧ Z.vm.classes[t]? = some k ∧ k.kind = .ordinary ∧ k.isInterface = false := by
  simp only [Cond.before, Cond.holds, Cond.value] at w
  cases hc : Z.vm.findClass K with
  | none => simp [hc] at w
  | some t =>
    cases hk : Z.vm.classes[t]? with
    | none => simp [hc, hk] at w
    | some k => simp [hc, hk] at w; exact ⟨t, k, rfl, hk, w.1.1.1, w.1.1.2.1⟩
theorem oNeArr {Z : State} {h : Heap} {a0 : Array Value} {a b : Addr} {C : String} {n : Nat} {k : ClassId} {ty : FieldType} {vs : List Value} (E : Exa Z h a C) (w : (Jvm.Cond.instantiable C n).before a0 Z = true) (F : oArr Z h b k ty vs) : b ≠ a := by
  rintro rfl
  obtain ⟨cell, k1, e1, e2, e3, -, -⟩ := E
  obtain ⟨c, ⟨A1, ⟨-, k2, g1, comp, g2⟩, -⟩, -⟩ := F
  obtain ⟨t, k3, f1, f2, f3, -⟩ := oInstSpec w
  cases A1.symm.trans e1
  cases f1.symm.trans e2
  cases f2.symm.trans g1
  rw [f3] at g2; cases g2
theorem oMadeMove {host : String} {σ : Lambda.Shape} {cK : ClassId} (hZ : Z.WarmedH s.vm) (hm : Jvm.LamKit.Made Z host σ cK) : Jvm.LamKit.Made s host σ cK := by
  obtain ⟨d, dk, hd, hn, h1, h2⟩ := hm
  obtain ⟨dk', hd', he⟩ := hZ.alike.2.2 _ _ hd
  have e : s.lambdaCallable σ cK = Z.lambdaCallable σ cK := by
    simp only [State.lambdaCallable, hZ.alike.findClass, hZ.alike.assignable, hZ.alike.superclasses41, hZ.alike.declaredIn]
  exact ⟨d, dk', hd', by rw [he]; exact hn, Lambda.isMade_warmer hZ h1, e.trans h2⟩
theorem oMetOf {y : MethodName} {bs : ByteArray} {mx : Nat} {rc : Option FieldType} {rm : Room} {as : Array Value} {Qc : Option Value → Heap → Prop} (hM : oMet l Z y bs mx rc rm [] as h Qc) (E : Ext Z.heap h) : Met l y [Jvm.Cond.code y bs mx rc] rm (fun a U => a = as ∧ Z.WarmedH U.vm ∧ U.heap = h) (fun _ _ o t => ∃ v, o = .returned v ∧ Qc v t.heap ∧ Ext Z.heap t.heap) rm.cells rm.slots (fun x => Z.heap.size ≤ x) :=
  MetFree.imp (hM E) fun _ _ _ _ ⟨v, L, h1, ⟨h2, h3, h4⟩, h5⟩ => ⟨⟨v, h1, h2, h4⟩, L, h5, h3⟩
theorem o_lambda (K : oCtx p s m meth c Z own cb ml nm rt yy) (X : oSt p l e R s m args below meth c Z T h cells slots) {index : Nat} {σ : Lambda.Shape} (w1 : (Jvm.Cond.lambdaSite yy pc index σ).before a0 Z = true) (hcap : σ.captured = []) (hcl : yy.cls = own) (hd : decode cb pc = .ok (.invokedynamic index, 5)) (hp : pc + 5 = pc') (hsz : L.size = ml) {W : Nat} (hW : (S.map fun v => v.category).sum = W) (hlo : W + 3072 ≤ R.locals)
    (g : ∀ a cK, Jvm.LamKit.Made Z own σ cK → Jvm.LamKit.FnAt Z.heap a cK → oGoes p e below s Z T (mkF m pc' L (.ref a :: S)) Q cl sl) : oGoes p e below s Z T (mkF m pc L S) Q cl sl := by
  obtain ⟨locs, X, eT, N, E⟩ := X
  subst hp
  obtain ⟨cK, one, hat⟩ := Cond.lambdaSite_spec w1
  obtain ⟨mD, kD, cfD, i0, p0, lk, hmD, hkD, -, -, -, hfind, hmade, hcan, hl⟩ := State.lambdaAt?_spec hat
  have hm' : s.methodNamed? yy = some mD := by
    have q := State.methodNamed?_setVm K.2.1.alike (s := Z) yy
    rw [hmD] at q
    exact q
  have em : mD = m := Option.some.inj (hm'.symm.trans K.2.2.2.2.2.2.2.2)
  rw [em] at hmD hkD hfind hmade
  obtain ⟨kD2, hkD2, e2⟩ := K.2.1.alike.2.2 _ _ hkD
  obtain ⟨kD', hkD', hnameD⟩ := className_of_methodNamed hmD
  cases hkD.symm.trans hkD'
  rcases hl with ⟨a, cell, rfl, -, -, hcell, hcls, hvm, -⟩ | ⟨-, -, hne⟩
  · have hw : e.platform.lambdaLinkWords = 3072 := by rw [X.admits.platform]
    exact (g a cK ⟨_, kD, hkD, hnameD.trans hcl, hmade, hcan⟩ ⟨cell, hcell, hcls, hvm⟩).go fun t r => X.lambdaConstant K.1 (g := mkF m pc L S) rfl (by show L.size = _; rw [K.2.2.2.1]; exact hsz) (hb K.2.2.1 hd) hkD2 (by rw [e2]; exact hfind) (by rw [hw]; show 2 * 0 + (S.map fun v => v.category).sum + 3072 ≤ _; rw [hW]; omega) r
  · exact absurd hcap hne
theorem o_callLam (K : oCtx p s m meth c Z own cb ml nm rt yy) (X : oSt p l e R s m args below meth c Z T h cells slots) {index count : Nat} {xi y : MethodName} {σ : Lambda.Shape} {host : String} {a : Addr} {cK : ClassId} {bs : ByteArray} {mx : Nat} {rc : Option FieldType} {rm : Room} {Qc : Option Value → Heap → Prop} {i : Int32} (w1 : (Jvm.Cond.methodLink own index xi).before a0 Z = true) (w2 : (Jvm.Cond.declares xi).before a0 Z = true) (w3 : (Jvm.Cond.interfaceMethod xi.cls xi.cls xi.name xi.desc).before a0 Z = true) (hfa : ((Jvm.Cond.interfaceMethod xi.cls xi.cls xi.name xi.desc).onTables && (Jvm.Cond.interfaceMethod xi.cls xi.cls xi.name xi.desc).keepsFace) = true) (wc : (Jvm.Cond.code y bs mx rc).before a0 Z = true) (ws : (Jvm.Cond.static y).before a0 Z = true) (wz : (Jvm.Cond.initialized y.cls).before a0 Z = true)
    (hxi : xi.cls = σ.iface ∧ xi.name = σ.name ∧ xi.desc = σ.sam.toString) (hy : y.cls = σ.implClass ∧ y.name = σ.implName ∧ y.desc = σ.implDesc.toString) (hpoly : (xi.cls ≠ "java/lang/invoke/MethodHandle" ∧ xi.cls ≠ "java/lang/invoke/VarHandle") ∧ y.cls ≠ "java/lang/invoke/MethodHandle" ∧ y.cls ≠ "java/lang/invoke/VarHandle")
    (hmd : Jvm.LamKit.Made Z host σ cK) (hfn : Jvm.LamKit.FnAt Z.heap a cK) {fcode : ByteArray} {idx ci : Nat} (hok : Jvm.LamKit.fwdOK σ host fcode 2 (some .boolean) idx ci = true) (f0 : decode fcode 0 = .ok (.iload_n 1, 1)) (f1 : decode fcode 1 = .ok (.invokestatic idx, 3)) (f4 : decode fcode 4 = .ok (.ireturn, 1))
    (hM : oMet l Z y bs mx rc rm [] #[.int i] h Qc) (hout : ∀ v h', Qc v h' → ∃ w, v = some (.int w) ∧ nar .boolean w = w) (hpx : parseMethodDescriptor xi.desc = some ⟨[.int], some .boolean⟩) (hpy : parseMethodDescriptor y.desc = some ⟨[.int], some .boolean⟩)
    (hf : rm.frames + 2 ≤ R.frames) (hsz : L.size = ml) {W : Nat} (hW : (S.map fun v => v.category).sum = W) (hl : W + 13 + (mx + 11 + rm.locals) ≤ R.locals) (hc : cells + rm.cells ≤ R.cells) (hs : slots + rm.slots ≤ R.slots) (hd : decode cb pc = .ok (.invokeinterface index count, 5)) (hp : pc + 5 = pc') (g : ∀ v T' h', oSt p l e R s m args below meth c Z T' h' (cells + rm.cells) (slots + rm.slots) → Qc v h' → oGoes p e below s Z T' (mkF m pc' L (v.toList ++ S)) Q cl sl) : oGoes p e below s Z T (mkF m pc L (.int i :: .ref a :: S)) Q cl sl := by
  obtain ⟨locs, X, eT, N, E⟩ := X
  subst hp
  obtain ⟨v, st, t, T', L1, X', hL, e1, -, ⟨v', ev, hQ, hE⟩, go⟩ := Jvm.LamKit.callLamS X K.1 (own := own) (host := host) (index := index) (count := count) (xi := xi) (y := y) (σ := σ) (oMetOf hM E) (fun _ _ _ _ q => q) rfl rfl
    (fun w hw' a' U hU => by rw [List.mem_singleton.mp hw']; exact mvT (State.WarmedH.trans K.2.1 hU).wide wc) (List.mem_singleton.mpr rfl) K.2.2.2.2.1 (mvT K.2.1.wide w1) (mvT K.2.1.wide w2) (mvT K.2.1.wide w3 (hd := hfa)) (mvT K.2.1.wide wc) (mvT K.2.1.wide ws) (mvT K.2.1.wide wz) hxi hy hpoly (oMadeMove K.2.1 hmd) (by obtain ⟨cell, q1, q2⟩ := hfn; exact ⟨cell, by rw [eT]; exact E.2 _ _ q1, q2⟩) hok f1 f4
    (g := mkF m pc L (.int i :: .ref a :: S)) rfl (by show L.size = _; rw [K.2.2.2.1]; exact hsz) (argsL := [.int i]) (argsT := [.int i]) (rest := S) (L0 := #[.val (.ref a), .val (.int i)]) (fun sig q => by cases hpx.symm.trans q; rfl) (fun sig q => by cases hpy.symm.trans q; rfl) rfl (hb K.2.2.1 hd) (fun _ => rfl) rfl
    (fun U ck bl target hU hck _ _ k => XS.iloadN hU K.1 rfl (hb hck f0) rfl k)
    (fun st v t hq => by
      obtain ⟨v', ev, hQ, -⟩ := hq
      cases ev
      obtain ⟨w, rfl, hn⟩ := hout _ _ hQ
      exact Or.inl ⟨.boolean, w, rfl, Or.inr (Or.inl rfl), congrArg Value.int hn, rfl, rfl⟩)
    hf (by show 2 * 0 + (S.map fun v => v.category).sum + (2 + 11) + _ ≤ _; rw [hW]; omega) hc hs (fun U hU hh => ⟨rfl, State.WarmedH.trans K.2.1 hU, hh.trans eT⟩)
  cases ev
  exact (g _ T' _ ⟨_, X', e1, Fr.app N hL, hE⟩ hQ).go go
end Own
set_option maxRecDepth 65536
set_option maxHeartbeats 40000000
abbrev oCh (x : Int32) : Prop := ¬ (x < (0 : Int32)) ∧ ¬ ((255 : Int32) < x)
theorem oChE {x : Int32} (h : oCh x) : ∃ n : Fin 256, x = Int32.ofInt n.val := by
  obtain ⟨h1, h2⟩ := h
  rw [Int32.lt_iff_toInt_lt] at h1 h2
  have z1 : (0 : Int32).toInt = 0 := by decide
  have z2 : (255 : Int32).toInt = 255 := by decide
  refine ⟨⟨x.toInt.toNat, by omega⟩, ?_⟩
  have e : ((x.toInt.toNat : Nat) : Int) = x.toInt := Int.toNat_of_nonneg (by omega)
  show x = Int32.ofInt ((x.toInt.toNat : Nat) : Int)
  rw [e]; simp
theorem oChN {x : Int32} (h : oCh x) : nar .char x = x := by
  obtain ⟨n, rfl⟩ := oChE h
  have key : ∀ n : Fin 256, nar .char (Int32.ofInt n.val) = Int32.ofInt n.val := by decide +kernel
  exact key n
theorem oPre (x : Int64) : oCh ((x &&& (255 : Int64)).toInt32.toUInt32.toUInt16.toUInt32.toInt32) := by
  obtain ⟨n, e⟩ : ∃ n : Fin 256, x &&& (255 : Int64) = Int64.ofNat n.val := by
    have hb : (x &&& (255 : Int64)).toBitVec.toNat < 256 := by
      have e : (x &&& (255 : Int64)).toBitVec.toNat = x.toBitVec.toNat &&& 255 := by
        simp only [Int64.toBitVec_and, BitVec.toNat_and]; rfl
      rw [e]; exact Nat.lt_of_le_of_lt Nat.and_le_right (by decide)
    refine ⟨⟨_, hb⟩, ?_⟩
    apply Int64.toBitVec_inj.mp
    have q : ∀ k : Nat, (Int64.ofNat k).toBitVec = BitVec.ofNat 64 k := fun k => rfl
    rw [q]
    exact (BitVec.eq_of_toNat_eq (by rw [BitVec.toNat_ofNat]; exact (Nat.mod_eq_of_lt (BitVec.isLt _)).symm))
  rw [e]
  have key : ∀ n : Fin 256, ¬ (((Int64.ofNat n.val).toInt32.toUInt32.toUInt16.toUInt32.toInt32) < (0 : Int32)) ∧ ¬ ((255 : Int32) < ((Int64.ofNat n.val).toInt32.toUInt32.toUInt16.toUInt32.toInt32)) := by decide +kernel
  exact key n
theorem oBack {x : Int32} (h : oCh x) : (nar .byte x) &&& (255 : Int32) = x := by
  obtain ⟨n, rfl⟩ := oChE h
  have key : ∀ n : Fin 256, (nar .byte (Int32.ofInt n.val)) &&& (255 : Int32) = Int32.ofInt n.val := by decide +kernel
  exact key n
theorem oM31 {x y : Int32} (h : (31 : Int32) * x = (31 : Int32) * y) : x = y := by
  have q : ∀ z : Int32, (-1108378657 : Int32) * ((31 : Int32) * z) = z := fun z => by
    rw [← Int32.mul_assoc, show (-1108378657 : Int32) * (31 : Int32) = 1 from by decide, Int32.one_mul]
  rw [← q x, ← q y, h]
theorem oAr {x y z : Int32} (h : x + z = y + z) : x = y := by
  have q : ∀ u : Int32, u + z - z = u := fun u => Int32.add_sub_cancel u z
  rw [← q x, ← q y, h]
theorem oAl {x y z : Int32} (h : z + x = z + y) : x = y := by
  rw [Int32.add_comm z x, Int32.add_comm z y] at h
  exact oAr h
theorem oAnd1 (x : Int32) : (x &&& (1 : Int32)) = (0 : Int32) ∨ (x &&& (1 : Int32)) = (1 : Int32) := by
  have h1 : (x &&& 1).toBitVec.toNat ≤ 1 := by
    simp only [Int32.toBitVec_and, BitVec.toNat_and]
    exact Nat.and_le_right
  have e : ∀ k : Int32, (x &&& 1).toBitVec.toNat = k.toBitVec.toNat → x &&& 1 = k := fun k q => Int32.toBitVec_inj.mp (BitVec.eq_of_toNat_eq q)
  have z0 : (0 : Int32).toBitVec.toNat = 0 := by decide
  have z1 : (1 : Int32).toBitVec.toNat = 1 := by decide
  by_cases q0 : (x &&& 1).toBitVec.toNat = 0
  · exact Or.inl (e 0 (by omega))
  · exact Or.inr (e 1 (by omega))
abbrev oSh (c : Int32) : Prop := (¬ (c < (97 : Int32)) ∧ ¬ ((122 : Int32) < c)) ∨ (c < (97 : Int32) ∧ ¬ (c < (48 : Int32)) ∧ ¬ ((57 : Int32) < c)) ∨ c = (45 : Int32)
abbrev oUp (c : Int32) : Prop := c < (97 : Int32) ∧ ¬ (c < (48 : Int32)) ∧ (57 : Int32) < c ∧ ¬ (c = (45 : Int32)) ∧ ¬ (c < (65 : Int32)) ∧ ¬ ((90 : Int32) < c)
abbrev oId (c : Int32) : Prop := oSh c ∨ oUp c ∨ c = (95 : Int32)
theorem oFin {x : Int32} (n : Nat) (hn : n < 1000) (h0 : ¬ (x < (0 : Int32))) (h1 : x.toInt < n) : ∃ j : Fin n, x = Int32.ofNat j.val := by
  rw [Int32.lt_iff_toInt_lt] at h0
  have z : (0 : Int32).toInt = 0 := by decide
  refine ⟨⟨x.toInt.toNat, by omega⟩, ?_⟩
  apply Int32.toInt_inj.mp
  rw [Int32.toInt_ofNat_of_lt (by show x.toInt.toNat < _; omega)]
  show x.toInt = ((x.toInt.toNat : Nat) : Int)
  omega
theorem oMod {x : Int32} (k : Int32) (hx : ¬ (x < (0 : Int32))) (hk : 0 < k.toInt) : ¬ (x % k < (0 : Int32)) ∧ (x % k).toInt < k.toInt := by
  rw [Int32.lt_iff_toInt_lt] at hx ⊢
  have z : (0 : Int32).toInt = 0 := by decide
  rw [Int32.toInt_mod]
  have h1 := Int.tmod_nonneg k.toInt (show 0 ≤ x.toInt by omega)
  have h2 := Int.tmod_lt_of_pos x.toInt hk
  constructor <;> omega
theorem oK37 (x : Int32) : ∃ j : Fin 37, (x &&& (2147483647 : Int32)) % (37 : Int32) = Int32.ofNat j.val := by
  obtain ⟨h1, h2⟩ := oMod (37 : Int32) (oMaskPos x (by decide) : ¬ ((x &&& (2147483647 : Int32)) < (0 : Int32))) (by decide)
  exact oFin 37 (by decide) h1 (by have z : (37 : Int32).toInt = 37 := by decide
                                   omega)
theorem oK63 (x : Int32) : ∃ j : Fin 64, x &&& (63 : Int32) = Int32.ofNat j.val := by
  have hb : (x &&& (63 : Int32)).toBitVec.toNat < 64 := by
    have e : (x &&& (63 : Int32)).toBitVec.toNat = x.toBitVec.toNat &&& 63 := by
      simp only [Int32.toBitVec_and, BitVec.toNat_and]; rfl
    rw [e]; exact Nat.lt_of_le_of_lt Nat.and_le_right (by decide)
  refine ⟨⟨_, hb⟩, ?_⟩
  apply Int32.toBitVec_inj.mp
  have q : ∀ k : Nat, (Int32.ofNat k).toBitVec = BitVec.ofNat 32 k := fun k => rfl
  rw [q]
  exact (BitVec.eq_of_toNat_eq (by rw [BitVec.toNat_ofNat]; exact (Nat.mod_eq_of_lt (BitVec.isLt _)).symm))
theorem oSa {k : Int32} (h : ∃ j : Fin 37, k = Int32.ofNat j.val) (h1 : k < (26 : Int32)) : oSh ((97 : Int32) + k) ∧ oCh ((97 : Int32) + k) := by
  obtain ⟨j, rfl⟩ := h
  have key : ∀ j : Fin 37, Int32.ofNat j.val < (26 : Int32) → oSh ((97 : Int32) + Int32.ofNat j.val) ∧ oCh ((97 : Int32) + Int32.ofNat j.val) := by decide +kernel
  exact key j h1
theorem oSb {k : Int32} (h : ∃ j : Fin 37, k = Int32.ofNat j.val) (h1 : ¬ (k < (26 : Int32))) (h2 : k < (36 : Int32)) : oSh ((48 : Int32) + (k - (26 : Int32))) ∧ oCh ((48 : Int32) + (k - (26 : Int32))) := by
  obtain ⟨j, rfl⟩ := h
  have key : ∀ j : Fin 37, ¬ (Int32.ofNat j.val < (26 : Int32)) → Int32.ofNat j.val < (36 : Int32) → oSh ((48 : Int32) + (Int32.ofNat j.val - (26 : Int32))) ∧ oCh ((48 : Int32) + (Int32.ofNat j.val - (26 : Int32))) := by decide +kernel
  exact key j h1 h2
theorem oIa {k : Int32} (h : ∃ j : Fin 64, k = Int32.ofNat j.val) (h1 : k < (26 : Int32)) : oId ((97 : Int32) + k) ∧ oCh ((97 : Int32) + k) := by
  obtain ⟨j, rfl⟩ := h
  have key : ∀ j : Fin 64, Int32.ofNat j.val < (26 : Int32) → oId ((97 : Int32) + Int32.ofNat j.val) ∧ oCh ((97 : Int32) + Int32.ofNat j.val) := by decide +kernel
  exact key j h1
theorem oIb {k : Int32} (h : ∃ j : Fin 64, k = Int32.ofNat j.val) (h1 : ¬ (k < (26 : Int32))) (h2 : k < (36 : Int32)) : oId ((48 : Int32) + (k - (26 : Int32))) ∧ oCh ((48 : Int32) + (k - (26 : Int32))) := by
  obtain ⟨j, rfl⟩ := h
  have key : ∀ j : Fin 64, ¬ (Int32.ofNat j.val < (26 : Int32)) → Int32.ofNat j.val < (36 : Int32) → oId ((48 : Int32) + (Int32.ofNat j.val - (26 : Int32))) ∧ oCh ((48 : Int32) + (Int32.ofNat j.val - (26 : Int32))) := by decide +kernel
  exact key j h1 h2
theorem oK64 (x : Int32) : ∃ j : Fin 64, (x &&& (2147483647 : Int32)) % (64 : Int32) = Int32.ofNat j.val := by
  obtain ⟨h1, h2⟩ := oMod (64 : Int32) (oMaskPos x (by decide) : ¬ ((x &&& (2147483647 : Int32)) < (0 : Int32))) (by decide)
  exact oFin 64 (by decide) h1 (by have z : (64 : Int32).toInt = 64 := by decide
                                   omega)
theorem oJb {k : Int32} (h : ∃ j : Fin 64, k = Int32.ofNat j.val) (h1 : ¬ (k < (26 : Int32))) (h2 : k < (52 : Int32)) : oId ((65 : Int32) + (k - (26 : Int32))) ∧ oCh ((65 : Int32) + (k - (26 : Int32))) := by
  obtain ⟨j, rfl⟩ := h
  have key : ∀ j : Fin 64, ¬ (Int32.ofNat j.val < (26 : Int32)) → Int32.ofNat j.val < (52 : Int32) → oId ((65 : Int32) + (Int32.ofNat j.val - (26 : Int32))) ∧ oCh ((65 : Int32) + (Int32.ofNat j.val - (26 : Int32))) := by decide +kernel
  exact key j h1 h2
theorem oJc {k : Int32} (h : ∃ j : Fin 64, k = Int32.ofNat j.val) (h1 : ¬ (k < (52 : Int32))) (h2 : k < (62 : Int32)) : oId ((48 : Int32) + (k - (52 : Int32))) ∧ oCh ((48 : Int32) + (k - (52 : Int32))) := by
  obtain ⟨j, rfl⟩ := h
  have key : ∀ j : Fin 64, ¬ (Int32.ofNat j.val < (52 : Int32)) → Int32.ofNat j.val < (62 : Int32) → oId ((48 : Int32) + (Int32.ofNat j.val - (52 : Int32))) ∧ oCh ((48 : Int32) + (Int32.ofNat j.val - (52 : Int32))) := by decide +kernel
  exact key j h1 h2
theorem oIc {k : Int32} (h : ∃ j : Fin 64, k = Int32.ofNat j.val) (h1 : ¬ (k < (36 : Int32))) (h2 : k < (62 : Int32)) : oId ((65 : Int32) + (k - (36 : Int32))) ∧ oCh ((65 : Int32) + (k - (36 : Int32))) := by
  obtain ⟨j, rfl⟩ := h
  have key : ∀ j : Fin 64, ¬ (Int32.ofNat j.val < (36 : Int32)) → Int32.ofNat j.val < (62 : Int32) → oId ((65 : Int32) + (Int32.ofNat j.val - (36 : Int32))) ∧ oCh ((65 : Int32) + (Int32.ofNat j.val - (36 : Int32))) := by decide +kernel
  exact key j h1 h2
abbrev oSg0 : Lambda.Shape := Jvm.Lambda.Shape.mk "java/util/function/IntPredicate" "test" (Jvm.ClassFile.MethodDescriptor.mk ([Jvm.ClassFile.FieldType.int] : List Jvm.ClassFile.FieldType) (Option.some Jvm.ClassFile.FieldType.boolean)) ([] : List Jvm.ClassFile.FieldType) (6 : Nat) "com/example/hotshelf/hotshelf/model/RecordKey" "isShelfChar" (Jvm.ClassFile.MethodDescriptor.mk ([Jvm.ClassFile.FieldType.int] : List Jvm.ClassFile.FieldType) (Option.some Jvm.ClassFile.FieldType.boolean)) false (Jvm.ClassFile.MethodDescriptor.mk ([Jvm.ClassFile.FieldType.int] : List Jvm.ClassFile.FieldType) (Option.some Jvm.ClassFile.FieldType.boolean))
def oFc0 : ByteArray := ⟨#[0x1b, 0xb8, 0x00, 0x11, 0xac]⟩
theorem oFw0 : Jvm.LamKit.fwdOK oSg0 "com/example/hotshelf/hotshelf/model/RecordKey" oFc0 2 (some .boolean) 17 14 = true := by decide +kernel
theorem oF0_0 : decode oFc0 0 = .ok (.iload_n 1, 1) := by decide +kernel
theorem oF0_1 : decode oFc0 1 = .ok (.invokestatic 17, 3) := by decide +kernel
theorem oF0_4 : decode oFc0 4 = .ok (.ireturn, 1) := by decide +kernel
abbrev oSg1 : Lambda.Shape := Jvm.Lambda.Shape.mk "java/util/function/IntPredicate" "test" (Jvm.ClassFile.MethodDescriptor.mk ([Jvm.ClassFile.FieldType.int] : List Jvm.ClassFile.FieldType) (Option.some Jvm.ClassFile.FieldType.boolean)) ([] : List Jvm.ClassFile.FieldType) (6 : Nat) "com/example/hotshelf/hotshelf/model/RecordKey" "isIdChar" (Jvm.ClassFile.MethodDescriptor.mk ([Jvm.ClassFile.FieldType.int] : List Jvm.ClassFile.FieldType) (Option.some Jvm.ClassFile.FieldType.boolean)) false (Jvm.ClassFile.MethodDescriptor.mk ([Jvm.ClassFile.FieldType.int] : List Jvm.ClassFile.FieldType) (Option.some Jvm.ClassFile.FieldType.boolean))
def oFc1 : ByteArray := ⟨#[0x1b, 0xb8, 0x00, 0x11, 0xac]⟩
theorem oFw1 : Jvm.LamKit.fwdOK oSg1 "com/example/hotshelf/hotshelf/model/RecordKey" oFc1 2 (some .boolean) 17 14 = true := by decide +kernel
theorem oF1_0 : decode oFc1 0 = .ok (.iload_n 1, 1) := by decide +kernel
theorem oF1_1 : decode oFc1 1 = .ok (.invokestatic 17, 3) := by decide +kernel
theorem oF1_4 : decode oFc1 4 = .ok (.ireturn, 1) := by decide +kernel
abbrev z0 : String := "java/lang/String"
abbrev z1 : String := "com/example/hotshelf/hotshelf/model/RecordKey"
abbrev z2 : String := "Ljava/lang/String;"
abbrev z3 : String := "COMPACT_STRINGS"
abbrev z4 : String := "jdk/internal/util/Preconditions"
abbrev z5 : String := "com/example/hotshelf/hotshelf/model/RecordKeyHashCodePinLaw"
abbrev z6 : String := "SIOOBE_FORMATTER"
abbrev z7 : String := "Ljava/util/function/BiFunction;"
abbrev z8 : String := "(Ljava/lang/String;Ljava/lang/String;)V"
abbrev z9 : String := "java/lang/StringUTF16"
abbrev z10 : String := "(Ljava/lang/String;ILjava/util/function/IntPredicate;)Z"
def oHw (Z : State) (a0 : Array Value) : Prop := ∀ d ∈ tables_1, d.before a0 Z = true
theorem w0 {Z : State} {a0 : Array Value} (hw : oHw Z a0) : (Jvm.Cond.methodLink z5 (7 : Nat) ({ cls := z5, name := "shelfChar", desc := "(I)C" } : Jvm.MethodName)).before a0 Z = true := hw _ (List.mem_of_getElem? (i := 0) rfl)
theorem w1 {Z : State} {a0 : Array Value} (hw : oHw Z a0) : (Jvm.Cond.static ({ cls := z5, name := "shelfChar", desc := "(I)C" } : Jvm.MethodName)).before a0 Z = true := hw _ (List.mem_of_getElem? (i := 1) rfl)
theorem w2 {Z : State} {a0 : Array Value} (hw : oHw Z a0) : (Jvm.Cond.initialized z5).before a0 Z = true := hw _ (List.mem_of_getElem? (i := 2) rfl)
theorem w3 {Z : State} {a0 : Array Value} (hw : oHw Z a0) : (Jvm.Cond.code ({ cls := z5, name := "shelfChar", desc := "(I)C" } : Jvm.MethodName) method_3_code (2 : Nat) (Option.some Jvm.ClassFile.FieldType.char)).before a0 Z = true := hw _ (List.mem_of_getElem? (i := 3) rfl)
theorem w4 {Z : State} {a0 : Array Value} (hw : oHw Z a0) : (Jvm.Cond.constant z5 (29 : Nat) (2147483647 : Int32)).before a0 Z = true := hw _ (List.mem_of_getElem? (i := 4) rfl)
theorem w5 {Z : State} {a0 : Array Value} (hw : oHw Z a0) : (Jvm.Cond.methodLink z5 (13 : Nat) ({ cls := z5, name := "idChar", desc := "(I)C" } : Jvm.MethodName)).before a0 Z = true := hw _ (List.mem_of_getElem? (i := 5) rfl)
theorem w6 {Z : State} {a0 : Array Value} (hw : oHw Z a0) : (Jvm.Cond.static ({ cls := z5, name := "idChar", desc := "(I)C" } : Jvm.MethodName)).before a0 Z = true := hw _ (List.mem_of_getElem? (i := 6) rfl)
theorem w7 {Z : State} {a0 : Array Value} (hw : oHw Z a0) : (Jvm.Cond.code ({ cls := z5, name := "idChar", desc := "(I)C" } : Jvm.MethodName) method_4_code (2 : Nat) (Option.some Jvm.ClassFile.FieldType.char)).before a0 Z = true := hw _ (List.mem_of_getElem? (i := 7) rfl)
theorem w8 {Z : State} {a0 : Array Value} (hw : oHw Z a0) : (Jvm.Cond.classLink z5 (16 : Nat) z1).before a0 Z = true := hw _ (List.mem_of_getElem? (i := 8) rfl)
theorem w9 {Z : State} {a0 : Array Value} (hw : oHw Z a0) : (Jvm.Cond.instantiable z1 (2 : Nat)).before a0 Z = true := hw _ (List.mem_of_getElem? (i := 9) rfl)
theorem w10 {Z : State} {a0 : Array Value} (hw : oHw Z a0) : (Jvm.Cond.initialized z1).before a0 Z = true := hw _ (List.mem_of_getElem? (i := 10) rfl)
theorem w11 {Z : State} {a0 : Array Value} (hw : oHw Z a0) : (Jvm.Cond.methodLink z5 (18 : Nat) ({ cls := z5, name := "str", desc := "(ICC)Ljava/lang/String;" } : Jvm.MethodName)).before a0 Z = true := hw _ (List.mem_of_getElem? (i := 11) rfl)
theorem w12 {Z : State} {a0 : Array Value} (hw : oHw Z a0) : (Jvm.Cond.static ({ cls := z5, name := "str", desc := "(ICC)Ljava/lang/String;" } : Jvm.MethodName)).before a0 Z = true := hw _ (List.mem_of_getElem? (i := 12) rfl)
theorem w13 {Z : State} {a0 : Array Value} (hw : oHw Z a0) : (Jvm.Cond.code ({ cls := z5, name := "str", desc := "(ICC)Ljava/lang/String;" } : Jvm.MethodName) method_5_code (3 : Nat) (Option.some (Jvm.ClassFile.FieldType.object z0))).before a0 Z = true := hw _ (List.mem_of_getElem? (i := 13) rfl)
theorem w14 {Z : State} {a0 : Array Value} (hw : oHw Z a0) : (Jvm.Cond.classLink z5 (30 : Nat) z0).before a0 Z = true := hw _ (List.mem_of_getElem? (i := 14) rfl)
theorem w15 {Z : State} {a0 : Array Value} (hw : oHw Z a0) : (Jvm.Cond.instantiable z0 (4 : Nat)).before a0 Z = true := hw _ (List.mem_of_getElem? (i := 15) rfl)
theorem w16 {Z : State} {a0 : Array Value} (hw : oHw Z a0) : (Jvm.Cond.initialized z0).before a0 Z = true := hw _ (List.mem_of_getElem? (i := 16) rfl)
theorem w17 {Z : State} {a0 : Array Value} (hw : oHw Z a0) : (Jvm.Cond.arrayClass Jvm.ClassFile.FieldType.char).before a0 Z = true := hw _ (List.mem_of_getElem? (i := 17) rfl)
theorem w18 {Z : State} {a0 : Array Value} (hw : oHw Z a0) : (Jvm.Cond.methodLink z5 (32 : Nat) ({ cls := z0, name := "<init>", desc := "([C)V" } : Jvm.MethodName)).before a0 Z = true := hw _ (List.mem_of_getElem? (i := 18) rfl)
theorem w19 {Z : State} {a0 : Array Value} (hw : oHw Z a0) : (Jvm.Cond.instanceMethod ({ cls := z0, name := "<init>", desc := "([C)V" } : Jvm.MethodName)).before a0 Z = true := hw _ (List.mem_of_getElem? (i := 19) rfl)
theorem w20 {Z : State} {a0 : Array Value} (hw : oHw Z a0) : (Jvm.Cond.code ({ cls := z0, name := "<init>", desc := "([C)V" } : Jvm.MethodName) jdk_42_method_3_code (2 : Nat) (Option.none : Option Jvm.ClassFile.FieldType)).before a0 Z = true := hw _ (List.mem_of_getElem? (i := 20) rfl)
theorem w21 {Z : State} {a0 : Array Value} (hw : oHw Z a0) : (Jvm.Cond.methodLink z0 (27 : Nat) ({ cls := z0, name := "<init>", desc := "([CIILjava/lang/Void;)V" } : Jvm.MethodName)).before a0 Z = true := hw _ (List.mem_of_getElem? (i := 21) rfl)
theorem w22 {Z : State} {a0 : Array Value} (hw : oHw Z a0) : (Jvm.Cond.instanceMethod ({ cls := z0, name := "<init>", desc := "([CIILjava/lang/Void;)V" } : Jvm.MethodName)).before a0 Z = true := hw _ (List.mem_of_getElem? (i := 22) rfl)
theorem w24 {Z : State} {a0 : Array Value} (hw : oHw Z a0) : (Jvm.Cond.code ({ cls := z0, name := "<init>", desc := "([CIILjava/lang/Void;)V" } : Jvm.MethodName) jdk_42_method_149_code (6 : Nat) (Option.none : Option Jvm.ClassFile.FieldType)).before a0 Z = true := hw _ (List.mem_of_getElem? (i := 24) rfl)
theorem w25 {Z : State} {a0 : Array Value} (hw : oHw Z a0) : (Jvm.Cond.methodLink z0 (1 : Nat) ({ cls := "java/lang/Object", name := "<init>", desc := "()V" } : Jvm.MethodName)).before a0 Z = true := hw _ (List.mem_of_getElem? (i := 25) rfl)
theorem w26 {Z : State} {a0 : Array Value} (hw : oHw Z a0) : (Jvm.Cond.instanceMethod ({ cls := "java/lang/Object", name := "<init>", desc := "()V" } : Jvm.MethodName)).before a0 Z = true := hw _ (List.mem_of_getElem? (i := 26) rfl)
theorem w27 {Z : State} {a0 : Array Value} (hw : oHw Z a0) : (Jvm.Cond.code ({ cls := "java/lang/Object", name := "<init>", desc := "()V" } : Jvm.MethodName) object_method_1_code (1 : Nat) (Option.none : Option Jvm.ClassFile.FieldType)).before a0 Z = true := hw _ (List.mem_of_getElem? (i := 27) rfl)
theorem w28 {Z : State} {a0 : Array Value} (hw : oHw Z a0) : (Jvm.Cond.fieldLink z0 (38 : Nat) z0 z3 "Z").before a0 Z = true := hw _ (List.mem_of_getElem? (i := 28) rfl)
theorem w29 {Z : State} {a0 : Array Value} (hw : oHw Z a0) : (Jvm.Cond.methodLink z0 (177 : Nat) ({ cls := z9, name := "compress", desc := "([CII)[B" } : Jvm.MethodName)).before a0 Z = true := hw _ (List.mem_of_getElem? (i := 29) rfl)
theorem w30 {Z : State} {a0 : Array Value} (hw : oHw Z a0) : (Jvm.Cond.static ({ cls := z9, name := "compress", desc := "([CII)[B" } : Jvm.MethodName)).before a0 Z = true := hw _ (List.mem_of_getElem? (i := 30) rfl)
theorem w31 {Z : State} {a0 : Array Value} (hw : oHw Z a0) : (Jvm.Cond.initialized z9).before a0 Z = true := hw _ (List.mem_of_getElem? (i := 31) rfl)
theorem w32 {Z : State} {a0 : Array Value} (hw : oHw Z a0) : (Jvm.Cond.code ({ cls := z9, name := "compress", desc := "([CII)[B" } : Jvm.MethodName) jdk_52_method_16_code (6 : Nat) (Option.some (Jvm.ClassFile.FieldType.array Jvm.ClassFile.FieldType.byte))).before a0 Z = true := hw _ (List.mem_of_getElem? (i := 32) rfl)
theorem w33 {Z : State} {a0 : Array Value} (hw : oHw Z a0) : (Jvm.Cond.arrayClass Jvm.ClassFile.FieldType.byte).before a0 Z = true := hw _ (List.mem_of_getElem? (i := 33) rfl)
theorem w34 {Z : State} {a0 : Array Value} (hw : oHw Z a0) : (Jvm.Cond.methodLink z9 (115 : Nat) ({ cls := z9, name := "compress", desc := "([CI[BII)I" } : Jvm.MethodName)).before a0 Z = true := hw _ (List.mem_of_getElem? (i := 34) rfl)
theorem w35 {Z : State} {a0 : Array Value} (hw : oHw Z a0) : (Jvm.Cond.static ({ cls := z9, name := "compress", desc := "([CI[BII)I" } : Jvm.MethodName)).before a0 Z = true := hw _ (List.mem_of_getElem? (i := 35) rfl)
theorem w36 {Z : State} {a0 : Array Value} (hw : oHw Z a0) : (Jvm.Cond.code ({ cls := z9, name := "compress", desc := "([CI[BII)I" } : Jvm.MethodName) jdk_52_method_21_code (7 : Nat) (Option.some Jvm.ClassFile.FieldType.int)).before a0 Z = true := hw _ (List.mem_of_getElem? (i := 36) rfl)
theorem w37 {Z : State} {a0 : Array Value} (hw : oHw Z a0) : (Jvm.Cond.methodLink z0 (47 : Nat) ({ cls := z9, name := "coderFromArrayLen", desc := "([BI)B" } : Jvm.MethodName)).before a0 Z = true := hw _ (List.mem_of_getElem? (i := 37) rfl)
theorem w38 {Z : State} {a0 : Array Value} (hw : oHw Z a0) : (Jvm.Cond.static ({ cls := z9, name := "coderFromArrayLen", desc := "([BI)B" } : Jvm.MethodName)).before a0 Z = true := hw _ (List.mem_of_getElem? (i := 38) rfl)
theorem w39 {Z : State} {a0 : Array Value} (hw : oHw Z a0) : (Jvm.Cond.code ({ cls := z9, name := "coderFromArrayLen", desc := "([BI)B" } : Jvm.MethodName) jdk_52_method_15_code (2 : Nat) (Option.some Jvm.ClassFile.FieldType.byte)).before a0 Z = true := hw _ (List.mem_of_getElem? (i := 39) rfl)
theorem w40 {Z : State} {a0 : Array Value} (hw : oHw Z a0) : (Jvm.Cond.fieldLink z0 (15 : Nat) z0 "coder" "B").before a0 Z = true := hw _ (List.mem_of_getElem? (i := 40) rfl)
theorem w41 {Z : State} {a0 : Array Value} (hw : oHw Z a0) : (Jvm.Cond.laysFinal z0 z0 "coder" "B").before a0 Z = true := hw _ (List.mem_of_getElem? (i := 41) rfl)
theorem w42 {Z : State} {a0 : Array Value} (hw : oHw Z a0) : (Jvm.Cond.fieldLink z0 (9 : Nat) z0 "value" "[B").before a0 Z = true := hw _ (List.mem_of_getElem? (i := 42) rfl)
theorem w43 {Z : State} {a0 : Array Value} (hw : oHw Z a0) : (Jvm.Cond.laysFinal z0 z0 "value" "[B").before a0 Z = true := hw _ (List.mem_of_getElem? (i := 43) rfl)
theorem w44 {Z : State} {a0 : Array Value} (hw : oHw Z a0) : (Jvm.Cond.methodLink z5 (22 : Nat) ({ cls := z1, name := "<init>", desc := z8 } : Jvm.MethodName)).before a0 Z = true := hw _ (List.mem_of_getElem? (i := 44) rfl)
theorem w45 {Z : State} {a0 : Array Value} (hw : oHw Z a0) : (Jvm.Cond.instanceMethod ({ cls := z1, name := "<init>", desc := z8 } : Jvm.MethodName)).before a0 Z = true := hw _ (List.mem_of_getElem? (i := 45) rfl)
theorem w46 {Z : State} {a0 : Array Value} (hw : oHw Z a0) : (Jvm.Cond.code ({ cls := z1, name := "<init>", desc := z8 } : Jvm.MethodName) prog_16_method_1_code (3 : Nat) (Option.none : Option Jvm.ClassFile.FieldType)).before a0 Z = true := hw _ (List.mem_of_getElem? (i := 46) rfl)
theorem w47 {Z : State} {a0 : Array Value} (hw : oHw Z a0) : (Jvm.Cond.methodLink z1 (3 : Nat) ({ cls := "java/lang/Record", name := "<init>", desc := "()V" } : Jvm.MethodName)).before a0 Z = true := hw _ (List.mem_of_getElem? (i := 47) rfl)
theorem w48 {Z : State} {a0 : Array Value} (hw : oHw Z a0) : (Jvm.Cond.instanceMethod ({ cls := "java/lang/Record", name := "<init>", desc := "()V" } : Jvm.MethodName)).before a0 Z = true := hw _ (List.mem_of_getElem? (i := 48) rfl)
theorem w50 {Z : State} {a0 : Array Value} (hw : oHw Z a0) : (Jvm.Cond.initialized "java/lang/Record").before a0 Z = true := hw _ (List.mem_of_getElem? (i := 50) rfl)
theorem w51 {Z : State} {a0 : Array Value} (hw : oHw Z a0) : (Jvm.Cond.code ({ cls := "java/lang/Record", name := "<init>", desc := "()V" } : Jvm.MethodName) jdk_30_method_1_code (1 : Nat) (Option.none : Option Jvm.ClassFile.FieldType)).before a0 Z = true := hw _ (List.mem_of_getElem? (i := 51) rfl)
theorem w52 {Z : State} {a0 : Array Value} (hw : oHw Z a0) : (Jvm.Cond.methodLink "java/lang/Record" (1 : Nat) ({ cls := "java/lang/Object", name := "<init>", desc := "()V" } : Jvm.MethodName)).before a0 Z = true := hw _ (List.mem_of_getElem? (i := 52) rfl)
theorem w53 {Z : State} {a0 : Array Value} (hw : oHw Z a0) : (Jvm.Cond.methodLink z1 (9 : Nat) ({ cls := z1, name := "isShelfName", desc := "(Ljava/lang/String;)Z" } : Jvm.MethodName)).before a0 Z = true := hw _ (List.mem_of_getElem? (i := 53) rfl)
theorem w54 {Z : State} {a0 : Array Value} (hw : oHw Z a0) : (Jvm.Cond.static ({ cls := z1, name := "isShelfName", desc := "(Ljava/lang/String;)Z" } : Jvm.MethodName)).before a0 Z = true := hw _ (List.mem_of_getElem? (i := 54) rfl)
theorem w55 {Z : State} {a0 : Array Value} (hw : oHw Z a0) : (Jvm.Cond.code ({ cls := z1, name := "isShelfName", desc := "(Ljava/lang/String;)Z" } : Jvm.MethodName) prog_16_method_4_code (1 : Nat) (Option.some Jvm.ClassFile.FieldType.boolean)).before a0 Z = true := hw _ (List.mem_of_getElem? (i := 55) rfl)
theorem w56 {Z : State} {a0 : Array Value} (hw : oHw Z a0) : (Jvm.Cond.lambdaSite ({ cls := z1, name := "isShelfName", desc := "(Ljava/lang/String;)Z" } : Jvm.MethodName) (3 : Nat) (42 : Nat) (Jvm.Lambda.Shape.mk "java/util/function/IntPredicate" "test" (Jvm.ClassFile.MethodDescriptor.mk ([Jvm.ClassFile.FieldType.int] : List Jvm.ClassFile.FieldType) (Option.some Jvm.ClassFile.FieldType.boolean)) ([] : List Jvm.ClassFile.FieldType) (6 : Nat) z1 "isShelfChar" (Jvm.ClassFile.MethodDescriptor.mk ([Jvm.ClassFile.FieldType.int] : List Jvm.ClassFile.FieldType) (Option.some Jvm.ClassFile.FieldType.boolean)) false (Jvm.ClassFile.MethodDescriptor.mk ([Jvm.ClassFile.FieldType.int] : List Jvm.ClassFile.FieldType) (Option.some Jvm.ClassFile.FieldType.boolean)))).before a0 Z = true := hw _ (List.mem_of_getElem? (i := 56) rfl)
theorem w59 {Z : State} {a0 : Array Value} (hw : oHw Z a0) : (Jvm.Cond.methodLink z1 (46 : Nat) ({ cls := z1, name := "isMadeOf", desc := z10 } : Jvm.MethodName)).before a0 Z = true := hw _ (List.mem_of_getElem? (i := 59) rfl)
theorem w60 {Z : State} {a0 : Array Value} (hw : oHw Z a0) : (Jvm.Cond.static ({ cls := z1, name := "isMadeOf", desc := z10 } : Jvm.MethodName)).before a0 Z = true := hw _ (List.mem_of_getElem? (i := 60) rfl)
theorem w61 {Z : State} {a0 : Array Value} (hw : oHw Z a0) : (Jvm.Cond.code ({ cls := z1, name := "isMadeOf", desc := z10 } : Jvm.MethodName) prog_16_method_6_code (4 : Nat) (Option.some Jvm.ClassFile.FieldType.boolean)).before a0 Z = true := hw _ (List.mem_of_getElem? (i := 61) rfl)
theorem w62 {Z : State} {a0 : Array Value} (hw : oHw Z a0) : (Jvm.Cond.methodLink z1 (51 : Nat) ({ cls := z0, name := "isEmpty", desc := "()Z" } : Jvm.MethodName)).before a0 Z = true := hw _ (List.mem_of_getElem? (i := 62) rfl)
theorem w63 {Z : State} {a0 : Array Value} (hw : oHw Z a0) : (Jvm.Cond.declares ({ cls := z0, name := "isEmpty", desc := "()Z" } : Jvm.MethodName)).before a0 Z = true := hw _ (List.mem_of_getElem? (i := 63) rfl)
theorem w64 {Z : State} {a0 : Array Value} (hw : oHw Z a0) : (Jvm.Cond.instanceMethod ({ cls := z0, name := "isEmpty", desc := "()Z" } : Jvm.MethodName)).before a0 Z = true := hw _ (List.mem_of_getElem? (i := 64) rfl)
theorem w65 {Z : State} {a0 : Array Value} (hw : oHw Z a0) : (Jvm.Cond.selects z0 ({ cls := z0, name := "isEmpty", desc := "()Z" } : Jvm.MethodName) ({ cls := z0, name := "isEmpty", desc := "()Z" } : Jvm.MethodName)).before a0 Z = true := hw _ (List.mem_of_getElem? (i := 65) rfl)
theorem w66 {Z : State} {a0 : Array Value} (hw : oHw Z a0) : (Jvm.Cond.code ({ cls := z0, name := "isEmpty", desc := "()Z" } : Jvm.MethodName) jdk_42_method_55_code (1 : Nat) (Option.some Jvm.ClassFile.FieldType.boolean)).before a0 Z = true := hw _ (List.mem_of_getElem? (i := 66) rfl)
theorem w67 {Z : State} {a0 : Array Value} (hw : oHw Z a0) : (Jvm.Cond.methodLink z1 (55 : Nat) ({ cls := z0, name := "length", desc := "()I" } : Jvm.MethodName)).before a0 Z = true := hw _ (List.mem_of_getElem? (i := 67) rfl)
theorem w68 {Z : State} {a0 : Array Value} (hw : oHw Z a0) : (Jvm.Cond.declares ({ cls := z0, name := "length", desc := "()I" } : Jvm.MethodName)).before a0 Z = true := hw _ (List.mem_of_getElem? (i := 68) rfl)
theorem w69 {Z : State} {a0 : Array Value} (hw : oHw Z a0) : (Jvm.Cond.instanceMethod ({ cls := z0, name := "length", desc := "()I" } : Jvm.MethodName)).before a0 Z = true := hw _ (List.mem_of_getElem? (i := 69) rfl)
theorem w70 {Z : State} {a0 : Array Value} (hw : oHw Z a0) : (Jvm.Cond.selects z0 ({ cls := z0, name := "length", desc := "()I" } : Jvm.MethodName) ({ cls := z0, name := "length", desc := "()I" } : Jvm.MethodName)).before a0 Z = true := hw _ (List.mem_of_getElem? (i := 70) rfl)
theorem w71 {Z : State} {a0 : Array Value} (hw : oHw Z a0) : (Jvm.Cond.code ({ cls := z0, name := "length", desc := "()I" } : Jvm.MethodName) jdk_42_method_54_code (1 : Nat) (Option.some Jvm.ClassFile.FieldType.int)).before a0 Z = true := hw _ (List.mem_of_getElem? (i := 71) rfl)
theorem w72 {Z : State} {a0 : Array Value} (hw : oHw Z a0) : (Jvm.Cond.methodLink z0 (335 : Nat) ({ cls := z0, name := "coder", desc := "()B" } : Jvm.MethodName)).before a0 Z = true := hw _ (List.mem_of_getElem? (i := 72) rfl)
theorem w73 {Z : State} {a0 : Array Value} (hw : oHw Z a0) : (Jvm.Cond.declares ({ cls := z0, name := "coder", desc := "()B" } : Jvm.MethodName)).before a0 Z = true := hw _ (List.mem_of_getElem? (i := 73) rfl)
theorem w74 {Z : State} {a0 : Array Value} (hw : oHw Z a0) : (Jvm.Cond.instanceMethod ({ cls := z0, name := "coder", desc := "()B" } : Jvm.MethodName)).before a0 Z = true := hw _ (List.mem_of_getElem? (i := 74) rfl)
theorem w75 {Z : State} {a0 : Array Value} (hw : oHw Z a0) : (Jvm.Cond.selects z0 ({ cls := z0, name := "coder", desc := "()B" } : Jvm.MethodName) ({ cls := z0, name := "coder", desc := "()B" } : Jvm.MethodName)).before a0 Z = true := hw _ (List.mem_of_getElem? (i := 75) rfl)
theorem w76 {Z : State} {a0 : Array Value} (hw : oHw Z a0) : (Jvm.Cond.code ({ cls := z0, name := "coder", desc := "()B" } : Jvm.MethodName) jdk_42_method_152_code (1 : Nat) (Option.some Jvm.ClassFile.FieldType.byte)).before a0 Z = true := hw _ (List.mem_of_getElem? (i := 76) rfl)
theorem w77 {Z : State} {a0 : Array Value} (hw : oHw Z a0) : (Jvm.Cond.methodLink z1 (58 : Nat) ({ cls := z0, name := "charAt", desc := "(I)C" } : Jvm.MethodName)).before a0 Z = true := hw _ (List.mem_of_getElem? (i := 77) rfl)
theorem w78 {Z : State} {a0 : Array Value} (hw : oHw Z a0) : (Jvm.Cond.declares ({ cls := z0, name := "charAt", desc := "(I)C" } : Jvm.MethodName)).before a0 Z = true := hw _ (List.mem_of_getElem? (i := 78) rfl)
theorem w79 {Z : State} {a0 : Array Value} (hw : oHw Z a0) : (Jvm.Cond.instanceMethod ({ cls := z0, name := "charAt", desc := "(I)C" } : Jvm.MethodName)).before a0 Z = true := hw _ (List.mem_of_getElem? (i := 79) rfl)
theorem w80 {Z : State} {a0 : Array Value} (hw : oHw Z a0) : (Jvm.Cond.selects z0 ({ cls := z0, name := "charAt", desc := "(I)C" } : Jvm.MethodName) ({ cls := z0, name := "charAt", desc := "(I)C" } : Jvm.MethodName)).before a0 Z = true := hw _ (List.mem_of_getElem? (i := 80) rfl)
theorem w81 {Z : State} {a0 : Array Value} (hw : oHw Z a0) : (Jvm.Cond.code ({ cls := z0, name := "charAt", desc := "(I)C" } : Jvm.MethodName) jdk_42_method_56_code (2 : Nat) (Option.some Jvm.ClassFile.FieldType.char)).before a0 Z = true := hw _ (List.mem_of_getElem? (i := 81) rfl)
theorem w82 {Z : State} {a0 : Array Value} (hw : oHw Z a0) : (Jvm.Cond.methodLink z0 (492 : Nat) ({ cls := z0, name := "isLatin1", desc := "()Z" } : Jvm.MethodName)).before a0 Z = true := hw _ (List.mem_of_getElem? (i := 82) rfl)
theorem w83 {Z : State} {a0 : Array Value} (hw : oHw Z a0) : (Jvm.Cond.declares ({ cls := z0, name := "isLatin1", desc := "()Z" } : Jvm.MethodName)).before a0 Z = true := hw _ (List.mem_of_getElem? (i := 83) rfl)
theorem w84 {Z : State} {a0 : Array Value} (hw : oHw Z a0) : (Jvm.Cond.instanceMethod ({ cls := z0, name := "isLatin1", desc := "()Z" } : Jvm.MethodName)).before a0 Z = true := hw _ (List.mem_of_getElem? (i := 84) rfl)
theorem w85 {Z : State} {a0 : Array Value} (hw : oHw Z a0) : (Jvm.Cond.selects z0 ({ cls := z0, name := "isLatin1", desc := "()Z" } : Jvm.MethodName) ({ cls := z0, name := "isLatin1", desc := "()Z" } : Jvm.MethodName)).before a0 Z = true := hw _ (List.mem_of_getElem? (i := 85) rfl)
theorem w86 {Z : State} {a0 : Array Value} (hw : oHw Z a0) : (Jvm.Cond.code ({ cls := z0, name := "isLatin1", desc := "()Z" } : Jvm.MethodName) jdk_42_method_154_code (1 : Nat) (Option.some Jvm.ClassFile.FieldType.boolean)).before a0 Z = true := hw _ (List.mem_of_getElem? (i := 86) rfl)
theorem w87 {Z : State} {a0 : Array Value} (hw : oHw Z a0) : (Jvm.Cond.methodLink z0 (495 : Nat) ({ cls := "java/lang/StringLatin1", name := "charAt", desc := "([BI)C" } : Jvm.MethodName)).before a0 Z = true := hw _ (List.mem_of_getElem? (i := 87) rfl)
theorem w88 {Z : State} {a0 : Array Value} (hw : oHw Z a0) : (Jvm.Cond.static ({ cls := "java/lang/StringLatin1", name := "charAt", desc := "([BI)C" } : Jvm.MethodName)).before a0 Z = true := hw _ (List.mem_of_getElem? (i := 88) rfl)
theorem w89 {Z : State} {a0 : Array Value} (hw : oHw Z a0) : (Jvm.Cond.initialized "java/lang/StringLatin1").before a0 Z = true := hw _ (List.mem_of_getElem? (i := 89) rfl)
theorem w90 {Z : State} {a0 : Array Value} (hw : oHw Z a0) : (Jvm.Cond.code ({ cls := "java/lang/StringLatin1", name := "charAt", desc := "([BI)C" } : Jvm.MethodName) jdk_43_method_2_code (2 : Nat) (Option.some Jvm.ClassFile.FieldType.char)).before a0 Z = true := hw _ (List.mem_of_getElem? (i := 90) rfl)
theorem w91 {Z : State} {a0 : Array Value} (hw : oHw Z a0) : (Jvm.Cond.methodLink "java/lang/StringLatin1" (9 : Nat) ({ cls := z0, name := "checkIndex", desc := "(II)V" } : Jvm.MethodName)).before a0 Z = true := hw _ (List.mem_of_getElem? (i := 91) rfl)
theorem w92 {Z : State} {a0 : Array Value} (hw : oHw Z a0) : (Jvm.Cond.static ({ cls := z0, name := "checkIndex", desc := "(II)V" } : Jvm.MethodName)).before a0 Z = true := hw _ (List.mem_of_getElem? (i := 92) rfl)
theorem w93 {Z : State} {a0 : Array Value} (hw : oHw Z a0) : (Jvm.Cond.code ({ cls := z0, name := "checkIndex", desc := "(II)V" } : Jvm.MethodName) jdk_42_method_155_code (2 : Nat) (Option.none : Option Jvm.ClassFile.FieldType)).before a0 Z = true := hw _ (List.mem_of_getElem? (i := 93) rfl)
theorem w94 {Z : State} {a0 : Array Value} (hw : oHw Z a0) : (Jvm.Cond.fieldLink z0 (1053 : Nat) z4 z6 z7).before a0 Z = true := hw _ (List.mem_of_getElem? (i := 94) rfl)
theorem w95 {Z : State} {a0 : Array Value} (hw : oHw Z a0) : (Jvm.Cond.initialized z4).before a0 Z = true := hw _ (List.mem_of_getElem? (i := 95) rfl)
theorem w96 {Z : State} {a0 : Array Value} (hw : oHw Z a0) : (Jvm.Cond.methodLink z0 (1059 : Nat) ({ cls := z4, name := "checkIndex", desc := "(IILjava/util/function/BiFunction;)I" } : Jvm.MethodName)).before a0 Z = true := hw _ (List.mem_of_getElem? (i := 96) rfl)
theorem w97 {Z : State} {a0 : Array Value} (hw : oHw Z a0) : (Jvm.Cond.static ({ cls := z4, name := "checkIndex", desc := "(IILjava/util/function/BiFunction;)I" } : Jvm.MethodName)).before a0 Z = true := hw _ (List.mem_of_getElem? (i := 97) rfl)
theorem w98 {Z : State} {a0 : Array Value} (hw : oHw Z a0) : (Jvm.Cond.code ({ cls := z4, name := "checkIndex", desc := "(IILjava/util/function/BiFunction;)I" } : Jvm.MethodName) jdk_41_method_11_code (3 : Nat) (Option.some Jvm.ClassFile.FieldType.int)).before a0 Z = true := hw _ (List.mem_of_getElem? (i := 98) rfl)
theorem w99 {Z : State} {a0 : Array Value} (hw : oHw Z a0) : (Jvm.Cond.methodLink z1 (62 : Nat) ({ cls := "java/util/function/IntPredicate", name := "test", desc := "(I)Z" } : Jvm.MethodName)).before a0 Z = true := hw _ (List.mem_of_getElem? (i := 99) rfl)
theorem w100 {Z : State} {a0 : Array Value} (hw : oHw Z a0) : (Jvm.Cond.declares ({ cls := "java/util/function/IntPredicate", name := "test", desc := "(I)Z" } : Jvm.MethodName)).before a0 Z = true := hw _ (List.mem_of_getElem? (i := 100) rfl)
theorem w101 {Z : State} {a0 : Array Value} (hw : oHw Z a0) : (Jvm.Cond.interfaceMethod "java/util/function/IntPredicate" "java/util/function/IntPredicate" "test" "(I)Z").before a0 Z = true := hw _ (List.mem_of_getElem? (i := 101) rfl)
theorem w102 {Z : State} {a0 : Array Value} (hw : oHw Z a0) : (Jvm.Cond.static ({ cls := z1, name := "isShelfChar", desc := "(I)Z" } : Jvm.MethodName)).before a0 Z = true := hw _ (List.mem_of_getElem? (i := 102) rfl)
theorem w103 {Z : State} {a0 : Array Value} (hw : oHw Z a0) : (Jvm.Cond.code ({ cls := z1, name := "isShelfChar", desc := "(I)Z" } : Jvm.MethodName) prog_16_method_7_code (1 : Nat) (Option.some Jvm.ClassFile.FieldType.boolean)).before a0 Z = true := hw _ (List.mem_of_getElem? (i := 103) rfl)
theorem w104 {Z : State} {a0 : Array Value} (hw : oHw Z a0) : (Jvm.Cond.methodLink z1 (20 : Nat) ({ cls := z1, name := "isRecordId", desc := "(Ljava/lang/String;)Z" } : Jvm.MethodName)).before a0 Z = true := hw _ (List.mem_of_getElem? (i := 104) rfl)
theorem w105 {Z : State} {a0 : Array Value} (hw : oHw Z a0) : (Jvm.Cond.static ({ cls := z1, name := "isRecordId", desc := "(Ljava/lang/String;)Z" } : Jvm.MethodName)).before a0 Z = true := hw _ (List.mem_of_getElem? (i := 105) rfl)
theorem w106 {Z : State} {a0 : Array Value} (hw : oHw Z a0) : (Jvm.Cond.code ({ cls := z1, name := "isRecordId", desc := "(Ljava/lang/String;)Z" } : Jvm.MethodName) prog_16_method_5_code (1 : Nat) (Option.some Jvm.ClassFile.FieldType.boolean)).before a0 Z = true := hw _ (List.mem_of_getElem? (i := 106) rfl)
theorem w107 {Z : State} {a0 : Array Value} (hw : oHw Z a0) : (Jvm.Cond.lambdaSite ({ cls := z1, name := "isRecordId", desc := "(Ljava/lang/String;)Z" } : Jvm.MethodName) (4 : Nat) (50 : Nat) (Jvm.Lambda.Shape.mk "java/util/function/IntPredicate" "test" (Jvm.ClassFile.MethodDescriptor.mk ([Jvm.ClassFile.FieldType.int] : List Jvm.ClassFile.FieldType) (Option.some Jvm.ClassFile.FieldType.boolean)) ([] : List Jvm.ClassFile.FieldType) (6 : Nat) z1 "isIdChar" (Jvm.ClassFile.MethodDescriptor.mk ([Jvm.ClassFile.FieldType.int] : List Jvm.ClassFile.FieldType) (Option.some Jvm.ClassFile.FieldType.boolean)) false (Jvm.ClassFile.MethodDescriptor.mk ([Jvm.ClassFile.FieldType.int] : List Jvm.ClassFile.FieldType) (Option.some Jvm.ClassFile.FieldType.boolean)))).before a0 Z = true := hw _ (List.mem_of_getElem? (i := 107) rfl)
theorem w108 {Z : State} {a0 : Array Value} (hw : oHw Z a0) : (Jvm.Cond.static ({ cls := z1, name := "isIdChar", desc := "(I)Z" } : Jvm.MethodName)).before a0 Z = true := hw _ (List.mem_of_getElem? (i := 108) rfl)
theorem w109 {Z : State} {a0 : Array Value} (hw : oHw Z a0) : (Jvm.Cond.code ({ cls := z1, name := "isIdChar", desc := "(I)Z" } : Jvm.MethodName) prog_16_method_8_code (1 : Nat) (Option.some Jvm.ClassFile.FieldType.boolean)).before a0 Z = true := hw _ (List.mem_of_getElem? (i := 109) rfl)
theorem w110 {Z : State} {a0 : Array Value} (hw : oHw Z a0) : (Jvm.Cond.methodLink z1 (67 : Nat) ({ cls := z1, name := "isShelfChar", desc := "(I)Z" } : Jvm.MethodName)).before a0 Z = true := hw _ (List.mem_of_getElem? (i := 110) rfl)
theorem w111 {Z : State} {a0 : Array Value} (hw : oHw Z a0) : (Jvm.Cond.fieldLink z1 (25 : Nat) z1 "shelf" z2).before a0 Z = true := hw _ (List.mem_of_getElem? (i := 111) rfl)
theorem w112 {Z : State} {a0 : Array Value} (hw : oHw Z a0) : (Jvm.Cond.laysFinal z1 z1 "shelf" z2).before a0 Z = true := hw _ (List.mem_of_getElem? (i := 112) rfl)
theorem w113 {Z : State} {a0 : Array Value} (hw : oHw Z a0) : (Jvm.Cond.fieldLink z1 (29 : Nat) z1 "id" z2).before a0 Z = true := hw _ (List.mem_of_getElem? (i := 113) rfl)
theorem w114 {Z : State} {a0 : Array Value} (hw : oHw Z a0) : (Jvm.Cond.laysFinal z1 z1 "id" z2).before a0 Z = true := hw _ (List.mem_of_getElem? (i := 114) rfl)
theorem w115 {Z : State} {a0 : Array Value} (hw : oHw Z a0) : (Jvm.Cond.methodLink z5 (25 : Nat) ({ cls := z1, name := "hashCode", desc := "()I" } : Jvm.MethodName)).before a0 Z = true := hw _ (List.mem_of_getElem? (i := 115) rfl)
theorem w116 {Z : State} {a0 : Array Value} (hw : oHw Z a0) : (Jvm.Cond.declares ({ cls := z1, name := "hashCode", desc := "()I" } : Jvm.MethodName)).before a0 Z = true := hw _ (List.mem_of_getElem? (i := 116) rfl)
theorem w117 {Z : State} {a0 : Array Value} (hw : oHw Z a0) : (Jvm.Cond.instanceMethod ({ cls := z1, name := "hashCode", desc := "()I" } : Jvm.MethodName)).before a0 Z = true := hw _ (List.mem_of_getElem? (i := 117) rfl)
theorem w118 {Z : State} {a0 : Array Value} (hw : oHw Z a0) : (Jvm.Cond.selects z1 ({ cls := z1, name := "hashCode", desc := "()I" } : Jvm.MethodName) ({ cls := z1, name := "hashCode", desc := "()I" } : Jvm.MethodName)).before a0 Z = true := hw _ (List.mem_of_getElem? (i := 118) rfl)
theorem w119 {Z : State} {a0 : Array Value} (hw : oHw Z a0) : (Jvm.Cond.code ({ cls := z1, name := "hashCode", desc := "()I" } : Jvm.MethodName) prog_16_method_3_code (1 : Nat) (Option.some Jvm.ClassFile.FieldType.int)).before a0 Z = true := hw _ (List.mem_of_getElem? (i := 119) rfl)
theorem w120 {Z : State} {a0 : Array Value} (hw : oHw Z a0) : (Jvm.Cond.methodLink z1 (38 : Nat) ({ cls := z0, name := "hashCode", desc := "()I" } : Jvm.MethodName)).before a0 Z = true := hw _ (List.mem_of_getElem? (i := 120) rfl)
theorem w121 {Z : State} {a0 : Array Value} (hw : oHw Z a0) : (Jvm.Cond.declares ({ cls := z0, name := "hashCode", desc := "()I" } : Jvm.MethodName)).before a0 Z = true := hw _ (List.mem_of_getElem? (i := 121) rfl)
theorem w122 {Z : State} {a0 : Array Value} (hw : oHw Z a0) : (Jvm.Cond.instanceMethod ({ cls := z0, name := "hashCode", desc := "()I" } : Jvm.MethodName)).before a0 Z = true := hw _ (List.mem_of_getElem? (i := 122) rfl)
theorem w123 {Z : State} {a0 : Array Value} (hw : oHw Z a0) : (Jvm.Cond.selects z0 ({ cls := z0, name := "hashCode", desc := "()I" } : Jvm.MethodName) ({ cls := z0, name := "hashCode", desc := "()I" } : Jvm.MethodName)).before a0 Z = true := hw _ (List.mem_of_getElem? (i := 123) rfl)
theorem w124 {Z : State} {a0 : Array Value} (hw : oHw Z a0) : (Jvm.Cond.code ({ cls := z0, name := "hashCode", desc := "()I" } : Jvm.MethodName) jdk_42_method_78_code (2 : Nat) (Option.some Jvm.ClassFile.FieldType.int)).before a0 Z = true := hw _ (List.mem_of_getElem? (i := 124) rfl)
theorem w125 {Z : State} {a0 : Array Value} (hw : oHw Z a0) : (Jvm.Cond.fieldLink z0 (19 : Nat) z0 "hash" "I").before a0 Z = true := hw _ (List.mem_of_getElem? (i := 125) rfl)
theorem w126 {Z : State} {a0 : Array Value} (hw : oHw Z a0) : (Jvm.Cond.lays z0 z0 "hash" "I").before a0 Z = true := hw _ (List.mem_of_getElem? (i := 126) rfl)
theorem w127 {Z : State} {a0 : Array Value} (hw : oHw Z a0) : (Jvm.Cond.fieldLink z0 (23 : Nat) z0 "hashIsZero" "Z").before a0 Z = true := hw _ (List.mem_of_getElem? (i := 127) rfl)
theorem w128 {Z : State} {a0 : Array Value} (hw : oHw Z a0) : (Jvm.Cond.lays z0 z0 "hashIsZero" "Z").before a0 Z = true := hw _ (List.mem_of_getElem? (i := 128) rfl)
theorem w129 {Z : State} {a0 : Array Value} (hw : oHw Z a0) : (Jvm.Cond.methodLink z0 (628 : Nat) ({ cls := "java/lang/StringLatin1", name := "hashCode", desc := "([B)I" } : Jvm.MethodName)).before a0 Z = true := hw _ (List.mem_of_getElem? (i := 129) rfl)
theorem w130 {Z : State} {a0 : Array Value} (hw : oHw Z a0) : (Jvm.Cond.static ({ cls := "java/lang/StringLatin1", name := "hashCode", desc := "([B)I" } : Jvm.MethodName)).before a0 Z = true := hw _ (List.mem_of_getElem? (i := 130) rfl)
theorem w131 {Z : State} {a0 : Array Value} (hw : oHw Z a0) : (Jvm.Cond.code ({ cls := "java/lang/StringLatin1", name := "hashCode", desc := "([B)I" } : Jvm.MethodName) jdk_43_method_21_code (1 : Nat) (Option.some Jvm.ClassFile.FieldType.int)).before a0 Z = true := hw _ (List.mem_of_getElem? (i := 131) rfl)
theorem w132 {Z : State} {a0 : Array Value} (hw : oHw Z a0) : (Jvm.Cond.methodLink "java/lang/StringLatin1" (84 : Nat) ({ cls := "jdk/internal/util/ArraysSupport", name := "vectorizedHashCode", desc := "(Ljava/lang/Object;IIII)I" } : Jvm.MethodName)).before a0 Z = true := hw _ (List.mem_of_getElem? (i := 132) rfl)
theorem w133 {Z : State} {a0 : Array Value} (hw : oHw Z a0) : (Jvm.Cond.static ({ cls := "jdk/internal/util/ArraysSupport", name := "vectorizedHashCode", desc := "(Ljava/lang/Object;IIII)I" } : Jvm.MethodName)).before a0 Z = true := hw _ (List.mem_of_getElem? (i := 133) rfl)
theorem w134 {Z : State} {a0 : Array Value} (hw : oHw Z a0) : (Jvm.Cond.initialized "jdk/internal/util/ArraysSupport").before a0 Z = true := hw _ (List.mem_of_getElem? (i := 134) rfl)
theorem w135 {Z : State} {a0 : Array Value} (hw : oHw Z a0) : (Jvm.Cond.code ({ cls := "jdk/internal/util/ArraysSupport", name := "vectorizedHashCode", desc := "(Ljava/lang/Object;IIII)I" } : Jvm.MethodName) jdk_48_method_4_code (5 : Nat) (Option.some Jvm.ClassFile.FieldType.int)).before a0 Z = true := hw _ (List.mem_of_getElem? (i := 135) rfl)
theorem w136 {Z : State} {a0 : Array Value} (hw : oHw Z a0) : (Jvm.Cond.classLink "jdk/internal/util/ArraysSupport" (60 : Nat) "[B").before a0 Z = true := hw _ (List.mem_of_getElem? (i := 136) rfl)
theorem w138 {Z : State} {a0 : Array Value} (hw : oHw Z a0) : (Jvm.Cond.methodLink "jdk/internal/util/ArraysSupport" (62 : Nat) ({ cls := "jdk/internal/util/ArraysSupport", name := "signedHashCode", desc := "(I[BII)I" } : Jvm.MethodName)).before a0 Z = true := hw _ (List.mem_of_getElem? (i := 138) rfl)
theorem w139 {Z : State} {a0 : Array Value} (hw : oHw Z a0) : (Jvm.Cond.static ({ cls := "jdk/internal/util/ArraysSupport", name := "signedHashCode", desc := "(I[BII)I" } : Jvm.MethodName)).before a0 Z = true := hw _ (List.mem_of_getElem? (i := 139) rfl)
theorem w140 {Z : State} {a0 : Array Value} (hw : oHw Z a0) : (Jvm.Cond.code ({ cls := "jdk/internal/util/ArraysSupport", name := "signedHashCode", desc := "(I[BII)I" } : Jvm.MethodName) jdk_48_method_5_code (6 : Nat) (Option.some Jvm.ClassFile.FieldType.int)).before a0 Z = true := hw _ (List.mem_of_getElem? (i := 140) rfl)
theorem d0_0 : decode method_3_code 0 = .ok (.iload_n 0, 1) := by decide +kernel
theorem d0_1 : decode method_3_code 1 = .ok (.ldc 29, 2) := by decide +kernel
theorem d0_3 : decode method_3_code 3 = .ok (.iand, 1) := by decide +kernel
theorem d0_4 : decode method_3_code 4 = .ok (.bipush 37, 2) := by decide +kernel
theorem d0_6 : decode method_3_code 6 = .ok (.irem, 1) := by decide +kernel
theorem d0_7 : decode method_3_code 7 = .ok (.istore_n 1, 1) := by decide +kernel
theorem d0_8 : decode method_3_code 8 = .ok (.iload_n 1, 1) := by decide +kernel
theorem d0_9 : decode method_3_code 9 = .ok (.bipush 26, 2) := by decide +kernel
theorem d0_11 : decode method_3_code 11 = .ok (.if_icmp .ge 9, 3) := by decide +kernel
theorem d0_14 : decode method_3_code 14 = .ok (.bipush 97, 2) := by decide +kernel
theorem d0_16 : decode method_3_code 16 = .ok (.iload_n 1, 1) := by decide +kernel
theorem d0_17 : decode method_3_code 17 = .ok (.iadd, 1) := by decide +kernel
theorem d0_18 : decode method_3_code 18 = .ok (.i2c, 1) := by decide +kernel
theorem d0_19 : decode method_3_code 19 = .ok (.ireturn, 1) := by decide +kernel
theorem d0_20 : decode method_3_code 20 = .ok (.iload_n 1, 1) := by decide +kernel
theorem d0_21 : decode method_3_code 21 = .ok (.bipush 36, 2) := by decide +kernel
theorem d0_23 : decode method_3_code 23 = .ok (.if_icmp .ge 12, 3) := by decide +kernel
theorem d0_26 : decode method_3_code 26 = .ok (.bipush 48, 2) := by decide +kernel
theorem d0_28 : decode method_3_code 28 = .ok (.iload_n 1, 1) := by decide +kernel
theorem d0_29 : decode method_3_code 29 = .ok (.bipush 26, 2) := by decide +kernel
theorem d0_31 : decode method_3_code 31 = .ok (.isub, 1) := by decide +kernel
theorem d0_32 : decode method_3_code 32 = .ok (.iadd, 1) := by decide +kernel
theorem d0_33 : decode method_3_code 33 = .ok (.i2c, 1) := by decide +kernel
theorem d0_34 : decode method_3_code 34 = .ok (.ireturn, 1) := by decide +kernel
theorem d0_35 : decode method_3_code 35 = .ok (.bipush 45, 2) := by decide +kernel
theorem d0_37 : decode method_3_code 37 = .ok (.ireturn, 1) := by decide +kernel
def r_shelfChar : Room := { frames := 0, cells := 0, slots := 0, locals := 0 }
def Q_shelfChar (Z : State) (x : Int32) (h0 : Heap) (v : Option Value) (h : Heap) : Prop := ∃ r : Int32, v = some (.int r) ∧ h0 = h ∧ oSh r ∧ oCh r ∧ nar .char r = r
theorem rm_shelfChar (l : Launch) (Z : State) (a0 : Array Value) (hw : oHw Z a0) (x : Int32) (h0 : Heap) : oMet l Z (⟨z5, "shelfChar", "(I)C"⟩ : MethodName) method_3_code 2 (some .char) r_shelfChar [] #[.int x] h0 (Q_shelfChar Z x h0) := by
 refine oEnter (plainFor_of_name (by first | (simp [plainName, overriddenIn]; done) | decide +kernel)) (own := z5) (nm := "shelfChar") rfl rfl (L := #[.val (.int x), .unset]) (fun m => by first | (simp [entryFrame, mkF, argsToLocals, Value.category]; done) | rfl) ?_
 intro pp ee ss mm bb mtd cc T0 K X0
 have E0 := X0.ext0
 refine o_iloadN K X0 d0_0 rfl rfl ?_
 refine o_ldc K X0 (w4 hw) d0_1 rfl ?_
 refine o_iand K X0 d0_3 rfl (z := (x &&& (2147483647 : Int32))) rfl ?_
 refine o_bipush K X0 d0_4 rfl (z := 37) rfl ?_
 refine o_irem K X0 d0_6 rfl (by decide) (z := ((x &&& (2147483647 : Int32)) % (37 : Int32))) rfl ?_
 refine o_istoreN K X0 d0_7 rfl (L' := #[vI x, vI ((x &&& (2147483647 : Int32)) % (37 : Int32))]) rfl ?_
 refine o_iloadN K X0 d0_8 rfl rfl ?_
 refine o_bipush K X0 d0_9 rfl (z := 26) rfl ?_
 by_cases c11_1 : ((x &&& (2147483647 : Int32)) % (37 : Int32)) < (26 : Int32)
 refine o_icmp_ge_f K X0 d0_11 rfl c11_1 ?_
 refine o_bipush K X0 d0_14 rfl (z := 97) rfl ?_
 refine o_iloadN K X0 d0_16 rfl rfl ?_
 refine o_iadd K X0 d0_17 rfl (z := ((97 : Int32) + ((x &&& (2147483647 : Int32)) % (37 : Int32)))) rfl ?_
 refine o_i2c K X0 d0_18 rfl (z := ((97 : Int32) + ((x &&& (2147483647 : Int32)) % (37 : Int32)))) (oChN (oSa (oK37 x) c11_1).2) ?_
 refine o_ireturnN K X0 .char d0_19 rfl (by simp) (z' := ((97 : Int32) + ((x &&& (2147483647 : Int32)) % (37 : Int32)))) (oChN (oSa (oK37 x) c11_1).2) ?_ (by decide) (by decide)
 exact ⟨((97 : Int32) + ((x &&& (2147483647 : Int32)) % (37 : Int32))), rfl, rfl, (show oSh ((97 : Int32) + ((x &&& (2147483647 : Int32)) % (37 : Int32))) ∧ oCh ((97 : Int32) + ((x &&& (2147483647 : Int32)) % (37 : Int32))) from oSa (oK37 x) c11_1).1, (show oSh ((97 : Int32) + ((x &&& (2147483647 : Int32)) % (37 : Int32))) ∧ oCh ((97 : Int32) + ((x &&& (2147483647 : Int32)) % (37 : Int32))) from oSa (oK37 x) c11_1).2, (oChN (show oSh ((97 : Int32) + ((x &&& (2147483647 : Int32)) % (37 : Int32))) ∧ oCh ((97 : Int32) + ((x &&& (2147483647 : Int32)) % (37 : Int32))) from oSa (oK37 x) c11_1).2)⟩
 refine o_icmp_ge_t K X0 d0_11 (by decide) (pc' := 20) (by decide) c11_1 ?_
 refine o_iloadN K X0 d0_20 rfl rfl ?_
 refine o_bipush K X0 d0_21 rfl (z := 36) rfl ?_
 by_cases c23_2 : ((x &&& (2147483647 : Int32)) % (37 : Int32)) < (36 : Int32)
 refine o_icmp_ge_f K X0 d0_23 rfl c23_2 ?_
 refine o_bipush K X0 d0_26 rfl (z := 48) rfl ?_
 refine o_iloadN K X0 d0_28 rfl rfl ?_
 refine o_bipush K X0 d0_29 rfl (z := 26) rfl ?_
 refine o_isub K X0 d0_31 rfl (z := (((x &&& (2147483647 : Int32)) % (37 : Int32)) - (26 : Int32))) rfl ?_
 refine o_iadd K X0 d0_32 rfl (z := ((48 : Int32) + (((x &&& (2147483647 : Int32)) % (37 : Int32)) - (26 : Int32)))) rfl ?_
 refine o_i2c K X0 d0_33 rfl (z := ((48 : Int32) + (((x &&& (2147483647 : Int32)) % (37 : Int32)) - (26 : Int32)))) (oChN (oSb (oK37 x) c11_1 c23_2).2) ?_
 refine o_ireturnN K X0 .char d0_34 rfl (by simp) (z' := ((48 : Int32) + (((x &&& (2147483647 : Int32)) % (37 : Int32)) - (26 : Int32)))) (oChN (oSb (oK37 x) c11_1 c23_2).2) ?_ (by decide) (by decide)
 exact ⟨((48 : Int32) + (((x &&& (2147483647 : Int32)) % (37 : Int32)) - (26 : Int32))), rfl, rfl, (show oSh ((48 : Int32) + (((x &&& (2147483647 : Int32)) % (37 : Int32)) - (26 : Int32))) ∧ oCh ((48 : Int32) + (((x &&& (2147483647 : Int32)) % (37 : Int32)) - (26 : Int32))) from oSb (oK37 x) c11_1 c23_2).1, (show oSh ((48 : Int32) + (((x &&& (2147483647 : Int32)) % (37 : Int32)) - (26 : Int32))) ∧ oCh ((48 : Int32) + (((x &&& (2147483647 : Int32)) % (37 : Int32)) - (26 : Int32))) from oSb (oK37 x) c11_1 c23_2).2, (oChN (show oSh ((48 : Int32) + (((x &&& (2147483647 : Int32)) % (37 : Int32)) - (26 : Int32))) ∧ oCh ((48 : Int32) + (((x &&& (2147483647 : Int32)) % (37 : Int32)) - (26 : Int32))) from oSb (oK37 x) c11_1 c23_2).2)⟩
 refine o_icmp_ge_t K X0 d0_23 (by decide) (pc' := 35) (by decide) c23_2 ?_
 refine o_bipush K X0 d0_35 rfl (z := 45) rfl ?_
 refine o_ireturnN K X0 .char d0_37 rfl (by simp) (z' := 45) (by decide) ?_ (by decide) (by decide)
 exact ⟨(45 : Int32), rfl, rfl, (show oSh (45 : Int32) ∧ oCh (45 : Int32) from ⟨by decide, by decide⟩).1, (show oSh (45 : Int32) ∧ oCh (45 : Int32) from ⟨by decide, by decide⟩).2, (oChN (show oSh (45 : Int32) ∧ oCh (45 : Int32) from ⟨by decide, by decide⟩).2)⟩
theorem d1_0 : decode method_4_code 0 = .ok (.iload_n 0, 1) := by decide +kernel
theorem d1_1 : decode method_4_code 1 = .ok (.bipush 63, 2) := by decide +kernel
theorem d1_3 : decode method_4_code 3 = .ok (.iand, 1) := by decide +kernel
theorem d1_4 : decode method_4_code 4 = .ok (.istore_n 1, 1) := by decide +kernel
theorem d1_5 : decode method_4_code 5 = .ok (.iload_n 1, 1) := by decide +kernel
theorem d1_6 : decode method_4_code 6 = .ok (.bipush 26, 2) := by decide +kernel
theorem d1_8 : decode method_4_code 8 = .ok (.if_icmp .ge 9, 3) := by decide +kernel
theorem d1_11 : decode method_4_code 11 = .ok (.bipush 97, 2) := by decide +kernel
theorem d1_13 : decode method_4_code 13 = .ok (.iload_n 1, 1) := by decide +kernel
theorem d1_14 : decode method_4_code 14 = .ok (.iadd, 1) := by decide +kernel
theorem d1_15 : decode method_4_code 15 = .ok (.i2c, 1) := by decide +kernel
theorem d1_16 : decode method_4_code 16 = .ok (.ireturn, 1) := by decide +kernel
theorem d1_17 : decode method_4_code 17 = .ok (.iload_n 1, 1) := by decide +kernel
theorem d1_18 : decode method_4_code 18 = .ok (.bipush 36, 2) := by decide +kernel
theorem d1_20 : decode method_4_code 20 = .ok (.if_icmp .ge 12, 3) := by decide +kernel
theorem d1_23 : decode method_4_code 23 = .ok (.bipush 48, 2) := by decide +kernel
theorem d1_25 : decode method_4_code 25 = .ok (.iload_n 1, 1) := by decide +kernel
theorem d1_26 : decode method_4_code 26 = .ok (.bipush 26, 2) := by decide +kernel
theorem d1_28 : decode method_4_code 28 = .ok (.isub, 1) := by decide +kernel
theorem d1_29 : decode method_4_code 29 = .ok (.iadd, 1) := by decide +kernel
theorem d1_30 : decode method_4_code 30 = .ok (.i2c, 1) := by decide +kernel
theorem d1_31 : decode method_4_code 31 = .ok (.ireturn, 1) := by decide +kernel
theorem d1_32 : decode method_4_code 32 = .ok (.iload_n 1, 1) := by decide +kernel
theorem d1_33 : decode method_4_code 33 = .ok (.bipush 62, 2) := by decide +kernel
theorem d1_35 : decode method_4_code 35 = .ok (.if_icmp .ge 12, 3) := by decide +kernel
theorem d1_38 : decode method_4_code 38 = .ok (.bipush 65, 2) := by decide +kernel
theorem d1_40 : decode method_4_code 40 = .ok (.iload_n 1, 1) := by decide +kernel
theorem d1_41 : decode method_4_code 41 = .ok (.bipush 36, 2) := by decide +kernel
theorem d1_43 : decode method_4_code 43 = .ok (.isub, 1) := by decide +kernel
theorem d1_44 : decode method_4_code 44 = .ok (.iadd, 1) := by decide +kernel
theorem d1_45 : decode method_4_code 45 = .ok (.i2c, 1) := by decide +kernel
theorem d1_46 : decode method_4_code 46 = .ok (.ireturn, 1) := by decide +kernel
theorem d1_47 : decode method_4_code 47 = .ok (.iload_n 1, 1) := by decide +kernel
theorem d1_48 : decode method_4_code 48 = .ok (.bipush 62, 2) := by decide +kernel
theorem d1_50 : decode method_4_code 50 = .ok (.if_icmp .ne 6, 3) := by decide +kernel
theorem d1_53 : decode method_4_code 53 = .ok (.bipush 95, 2) := by decide +kernel
theorem d1_55 : decode method_4_code 55 = .ok (.ireturn, 1) := by decide +kernel
theorem d1_56 : decode method_4_code 56 = .ok (.bipush 45, 2) := by decide +kernel
theorem d1_58 : decode method_4_code 58 = .ok (.ireturn, 1) := by decide +kernel
def r_idChar : Room := { frames := 0, cells := 0, slots := 0, locals := 0 }
def Q_idChar (Z : State) (x : Int32) (h0 : Heap) (v : Option Value) (h : Heap) : Prop := ∃ r : Int32, v = some (.int r) ∧ h0 = h ∧ oId r ∧ oCh r ∧ nar .char r = r
theorem rm_idChar (l : Launch) (Z : State) (a0 : Array Value) (hw : oHw Z a0) (x : Int32) (h0 : Heap) : oMet l Z (⟨z5, "idChar", "(I)C"⟩ : MethodName) method_4_code 2 (some .char) r_idChar [] #[.int x] h0 (Q_idChar Z x h0) := by
 refine oEnter (plainFor_of_name (by first | (simp [plainName, overriddenIn]; done) | decide +kernel)) (own := z5) (nm := "idChar") rfl rfl (L := #[.val (.int x), .unset]) (fun m => by first | (simp [entryFrame, mkF, argsToLocals, Value.category]; done) | rfl) ?_
 intro pp ee ss mm bb mtd cc T0 K X0
 have E0 := X0.ext0
 refine o_iloadN K X0 d1_0 rfl rfl ?_
 refine o_bipush K X0 d1_1 rfl (z := 63) rfl ?_
 refine o_iand K X0 d1_3 rfl (z := (x &&& (63 : Int32))) rfl ?_
 refine o_istoreN K X0 d1_4 rfl (L' := #[vI x, vI (x &&& (63 : Int32))]) rfl ?_
 refine o_iloadN K X0 d1_5 rfl rfl ?_
 refine o_bipush K X0 d1_6 rfl (z := 26) rfl ?_
 by_cases c8_1 : (x &&& (63 : Int32)) < (26 : Int32)
 refine o_icmp_ge_f K X0 d1_8 rfl c8_1 ?_
 refine o_bipush K X0 d1_11 rfl (z := 97) rfl ?_
 refine o_iloadN K X0 d1_13 rfl rfl ?_
 refine o_iadd K X0 d1_14 rfl (z := ((97 : Int32) + (x &&& (63 : Int32)))) rfl ?_
 refine o_i2c K X0 d1_15 rfl (z := ((97 : Int32) + (x &&& (63 : Int32)))) (oChN (oIa (oK63 x) c8_1).2) ?_
 refine o_ireturnN K X0 .char d1_16 rfl (by simp) (z' := ((97 : Int32) + (x &&& (63 : Int32)))) (oChN (oIa (oK63 x) c8_1).2) ?_ (by decide) (by decide)
 exact ⟨((97 : Int32) + (x &&& (63 : Int32))), rfl, rfl, (show oId ((97 : Int32) + (x &&& (63 : Int32))) ∧ oCh ((97 : Int32) + (x &&& (63 : Int32))) from oIa (oK63 x) c8_1).1, (show oId ((97 : Int32) + (x &&& (63 : Int32))) ∧ oCh ((97 : Int32) + (x &&& (63 : Int32))) from oIa (oK63 x) c8_1).2, (oChN (show oId ((97 : Int32) + (x &&& (63 : Int32))) ∧ oCh ((97 : Int32) + (x &&& (63 : Int32))) from oIa (oK63 x) c8_1).2)⟩
 refine o_icmp_ge_t K X0 d1_8 (by decide) (pc' := 17) (by decide) c8_1 ?_
 refine o_iloadN K X0 d1_17 rfl rfl ?_
 refine o_bipush K X0 d1_18 rfl (z := 36) rfl ?_
 by_cases c20_2 : (x &&& (63 : Int32)) < (36 : Int32)
 refine o_icmp_ge_f K X0 d1_20 rfl c20_2 ?_
 refine o_bipush K X0 d1_23 rfl (z := 48) rfl ?_
 refine o_iloadN K X0 d1_25 rfl rfl ?_
 refine o_bipush K X0 d1_26 rfl (z := 26) rfl ?_
 refine o_isub K X0 d1_28 rfl (z := ((x &&& (63 : Int32)) - (26 : Int32))) rfl ?_
 refine o_iadd K X0 d1_29 rfl (z := ((48 : Int32) + ((x &&& (63 : Int32)) - (26 : Int32)))) rfl ?_
 refine o_i2c K X0 d1_30 rfl (z := ((48 : Int32) + ((x &&& (63 : Int32)) - (26 : Int32)))) (oChN (oIb (oK63 x) c8_1 c20_2).2) ?_
 refine o_ireturnN K X0 .char d1_31 rfl (by simp) (z' := ((48 : Int32) + ((x &&& (63 : Int32)) - (26 : Int32)))) (oChN (oIb (oK63 x) c8_1 c20_2).2) ?_ (by decide) (by decide)
 exact ⟨((48 : Int32) + ((x &&& (63 : Int32)) - (26 : Int32))), rfl, rfl, (show oId ((48 : Int32) + ((x &&& (63 : Int32)) - (26 : Int32))) ∧ oCh ((48 : Int32) + ((x &&& (63 : Int32)) - (26 : Int32))) from oIb (oK63 x) c8_1 c20_2).1, (show oId ((48 : Int32) + ((x &&& (63 : Int32)) - (26 : Int32))) ∧ oCh ((48 : Int32) + ((x &&& (63 : Int32)) - (26 : Int32))) from oIb (oK63 x) c8_1 c20_2).2, (oChN (show oId ((48 : Int32) + ((x &&& (63 : Int32)) - (26 : Int32))) ∧ oCh ((48 : Int32) + ((x &&& (63 : Int32)) - (26 : Int32))) from oIb (oK63 x) c8_1 c20_2).2)⟩
 refine o_icmp_ge_t K X0 d1_20 (by decide) (pc' := 32) (by decide) c20_2 ?_
 refine o_iloadN K X0 d1_32 rfl rfl ?_
 refine o_bipush K X0 d1_33 rfl (z := 62) rfl ?_
 by_cases c35_3 : (x &&& (63 : Int32)) < (62 : Int32)
 refine o_icmp_ge_f K X0 d1_35 rfl c35_3 ?_
 refine o_bipush K X0 d1_38 rfl (z := 65) rfl ?_
 refine o_iloadN K X0 d1_40 rfl rfl ?_
 refine o_bipush K X0 d1_41 rfl (z := 36) rfl ?_
 refine o_isub K X0 d1_43 rfl (z := ((x &&& (63 : Int32)) - (36 : Int32))) rfl ?_
 refine o_iadd K X0 d1_44 rfl (z := ((65 : Int32) + ((x &&& (63 : Int32)) - (36 : Int32)))) rfl ?_
 refine o_i2c K X0 d1_45 rfl (z := ((65 : Int32) + ((x &&& (63 : Int32)) - (36 : Int32)))) (oChN (oIc (oK63 x) c20_2 c35_3).2) ?_
 refine o_ireturnN K X0 .char d1_46 rfl (by simp) (z' := ((65 : Int32) + ((x &&& (63 : Int32)) - (36 : Int32)))) (oChN (oIc (oK63 x) c20_2 c35_3).2) ?_ (by decide) (by decide)
 exact ⟨((65 : Int32) + ((x &&& (63 : Int32)) - (36 : Int32))), rfl, rfl, (show oId ((65 : Int32) + ((x &&& (63 : Int32)) - (36 : Int32))) ∧ oCh ((65 : Int32) + ((x &&& (63 : Int32)) - (36 : Int32))) from oIc (oK63 x) c20_2 c35_3).1, (show oId ((65 : Int32) + ((x &&& (63 : Int32)) - (36 : Int32))) ∧ oCh ((65 : Int32) + ((x &&& (63 : Int32)) - (36 : Int32))) from oIc (oK63 x) c20_2 c35_3).2, (oChN (show oId ((65 : Int32) + ((x &&& (63 : Int32)) - (36 : Int32))) ∧ oCh ((65 : Int32) + ((x &&& (63 : Int32)) - (36 : Int32))) from oIc (oK63 x) c20_2 c35_3).2)⟩
 refine o_icmp_ge_t K X0 d1_35 (by decide) (pc' := 47) (by decide) c35_3 ?_
 refine o_iloadN K X0 d1_47 rfl rfl ?_
 refine o_bipush K X0 d1_48 rfl (z := 62) rfl ?_
 by_cases c50_4 : (x &&& (63 : Int32)) = (62 : Int32)
 refine o_icmp_ne_f K X0 d1_50 rfl c50_4 ?_
 refine o_bipush K X0 d1_53 rfl (z := 95) rfl ?_
 refine o_ireturnN K X0 .char d1_55 rfl (by simp) (z' := 95) (by decide) ?_ (by decide) (by decide)
 exact ⟨(95 : Int32), rfl, rfl, (show oId (95 : Int32) ∧ oCh (95 : Int32) from ⟨by decide, by decide⟩).1, (show oId (95 : Int32) ∧ oCh (95 : Int32) from ⟨by decide, by decide⟩).2, (oChN (show oId (95 : Int32) ∧ oCh (95 : Int32) from ⟨by decide, by decide⟩).2)⟩
 refine o_icmp_ne_t K X0 d1_50 (by decide) (pc' := 56) (by decide) c50_4 ?_
 refine o_bipush K X0 d1_56 rfl (z := 45) rfl ?_
 refine o_ireturnN K X0 .char d1_58 rfl (by simp) (z' := 45) (by decide) ?_ (by decide) (by decide)
 exact ⟨(45 : Int32), rfl, rfl, (show oId (45 : Int32) ∧ oCh (45 : Int32) from ⟨by decide, by decide⟩).1, (show oId (45 : Int32) ∧ oCh (45 : Int32) from ⟨by decide, by decide⟩).2, (oChN (show oId (45 : Int32) ∧ oCh (45 : Int32) from ⟨by decide, by decide⟩).2)⟩
theorem d2_0 : decode prog_16_method_7_code 0 = .ok (.iload_n 0, 1) := by decide +kernel
theorem d2_1 : decode prog_16_method_7_code 1 = .ok (.bipush 97, 2) := by decide +kernel
theorem d2_3 : decode prog_16_method_7_code 3 = .ok (.if_icmp .lt 9, 3) := by decide +kernel
theorem d2_6 : decode prog_16_method_7_code 6 = .ok (.iload_n 0, 1) := by decide +kernel
theorem d2_7 : decode prog_16_method_7_code 7 = .ok (.bipush 122, 2) := by decide +kernel
theorem d2_9 : decode prog_16_method_7_code 9 = .ok (.if_icmp .le 21, 3) := by decide +kernel
theorem d2_12 : decode prog_16_method_7_code 12 = .ok (.iload_n 0, 1) := by decide +kernel
theorem d2_13 : decode prog_16_method_7_code 13 = .ok (.bipush 48, 2) := by decide +kernel
theorem d2_15 : decode prog_16_method_7_code 15 = .ok (.if_icmp .lt 9, 3) := by decide +kernel
theorem d2_18 : decode prog_16_method_7_code 18 = .ok (.iload_n 0, 1) := by decide +kernel
theorem d2_19 : decode prog_16_method_7_code 19 = .ok (.bipush 57, 2) := by decide +kernel
theorem d2_21 : decode prog_16_method_7_code 21 = .ok (.if_icmp .le 9, 3) := by decide +kernel
theorem d2_24 : decode prog_16_method_7_code 24 = .ok (.iload_n 0, 1) := by decide +kernel
theorem d2_25 : decode prog_16_method_7_code 25 = .ok (.bipush 45, 2) := by decide +kernel
theorem d2_27 : decode prog_16_method_7_code 27 = .ok (.if_icmp .ne 7, 3) := by decide +kernel
theorem d2_30 : decode prog_16_method_7_code 30 = .ok (.iconst 1, 1) := by decide +kernel
theorem d2_31 : decode prog_16_method_7_code 31 = .ok (.goto 4, 3) := by decide +kernel
theorem d2_35 : decode prog_16_method_7_code 35 = .ok (.ireturn, 1) := by decide +kernel
def r_shc1 : Room := { frames := 0, cells := 0, slots := 0, locals := 0 }
def Q_shc1 (Z : State) (c : Int32) (h0 : Heap) (v : Option Value) (h : Heap) : Prop := v = some (.int 1) ∧ h0 = h
theorem rm_shc1 (l : Launch) (Z : State) (a0 : Array Value) (hw : oHw Z a0) (c : Int32) (h0 : Heap) (q0 : oSh c) : oMet l Z (⟨z1, "isShelfChar", "(I)Z"⟩ : MethodName) prog_16_method_7_code 1 (some .boolean) r_shc1 [] #[.int c] h0 (Q_shc1 Z c h0) := by
 refine oEnter (plainFor_of_name (by first | (simp [plainName, overriddenIn]; done) | decide +kernel)) (own := z1) (nm := "isShelfChar") rfl rfl (L := #[.val (.int c)]) (fun m => by first | (simp [entryFrame, mkF, argsToLocals, Value.category]; done) | rfl) ?_
 intro pp ee ss mm bb mtd cc T0 K X0
 have E0 := X0.ext0
 rcases q0 with ⟨p0, p1⟩ | ⟨p0, p1, p2⟩ | rfl
 refine o_iloadN K X0 d2_0 rfl rfl ?_
 refine o_bipush K X0 d2_1 rfl (z := 97) rfl ?_
 refine o_icmp_lt_f K X0 d2_3 rfl p0 ?_
 refine o_iloadN K X0 d2_6 rfl rfl ?_
 refine o_bipush K X0 d2_7 rfl (z := 122) rfl ?_
 refine o_icmp_le_t K X0 d2_9 (by decide) (pc' := 30) (by decide) p1 ?_
 refine o_iconst K X0 d2_30 rfl (z := 1) rfl ?_
 refine o_goto K X0 d2_31 (by decide) (pc' := 35) (by decide) ?_
 refine o_ireturnN K X0 .boolean d2_35 rfl (by simp) (z' := 1) (by decide) ?_ (by decide) (by decide)
 exact ⟨rfl, rfl⟩
 refine o_iloadN K X0 d2_0 rfl rfl ?_
 refine o_bipush K X0 d2_1 rfl (z := 97) rfl ?_
 refine o_icmp_lt_t K X0 d2_3 (by decide) (pc' := 12) (by decide) p0 ?_
 refine o_iloadN K X0 d2_12 rfl rfl ?_
 refine o_bipush K X0 d2_13 rfl (z := 48) rfl ?_
 refine o_icmp_lt_f K X0 d2_15 rfl p1 ?_
 refine o_iloadN K X0 d2_18 rfl rfl ?_
 refine o_bipush K X0 d2_19 rfl (z := 57) rfl ?_
 refine o_icmp_le_t K X0 d2_21 (by decide) (pc' := 30) (by decide) p2 ?_
 refine o_iconst K X0 d2_30 rfl (z := 1) rfl ?_
 refine o_goto K X0 d2_31 (by decide) (pc' := 35) (by decide) ?_
 refine o_ireturnN K X0 .boolean d2_35 rfl (by simp) (z' := 1) (by decide) ?_ (by decide) (by decide)
 exact ⟨rfl, rfl⟩
 refine o_iloadN K X0 d2_0 rfl rfl ?_
 refine o_bipush K X0 d2_1 rfl (z := 97) rfl ?_
 refine o_icmp_lt_t K X0 d2_3 (by decide) (pc' := 12) (by decide) (by decide) ?_
 refine o_iloadN K X0 d2_12 rfl rfl ?_
 refine o_bipush K X0 d2_13 rfl (z := 48) rfl ?_
 refine o_icmp_lt_t K X0 d2_15 (by decide) (pc' := 24) (by decide) (by decide) ?_
 refine o_iloadN K X0 d2_24 rfl rfl ?_
 refine o_bipush K X0 d2_25 rfl (z := 45) rfl ?_
 refine o_icmp_ne_f K X0 d2_27 rfl (by decide) ?_
 refine o_iconst K X0 d2_30 rfl (z := 1) rfl ?_
 refine o_goto K X0 d2_31 (by decide) (pc' := 35) (by decide) ?_
 refine o_ireturnN K X0 .boolean d2_35 rfl (by simp) (z' := 1) (by decide) ?_ (by decide) (by decide)
 exact ⟨rfl, rfl⟩
theorem d2_34 : decode prog_16_method_7_code 34 = .ok (.iconst 0, 1) := by decide +kernel
def r_shc0 : Room := { frames := 0, cells := 0, slots := 0, locals := 0 }
def Q_shc0 (Z : State) (c : Int32) (h0 : Heap) (v : Option Value) (h : Heap) : Prop := v = some (.int 0) ∧ h0 = h
theorem rm_shc0 (l : Launch) (Z : State) (a0 : Array Value) (hw : oHw Z a0) (c : Int32) (h0 : Heap) (q0 : oUp c) : oMet l Z (⟨z1, "isShelfChar", "(I)Z"⟩ : MethodName) prog_16_method_7_code 1 (some .boolean) r_shc0 [] #[.int c] h0 (Q_shc0 Z c h0) := by
 refine oEnter (plainFor_of_name (by first | (simp [plainName, overriddenIn]; done) | decide +kernel)) (own := z1) (nm := "isShelfChar") rfl rfl (L := #[.val (.int c)]) (fun m => by first | (simp [entryFrame, mkF, argsToLocals, Value.category]; done) | rfl) ?_
 intro pp ee ss mm bb mtd cc T0 K X0
 have E0 := X0.ext0
 rcases q0 with ⟨p0, p1, p2, p3, p4, p5⟩
 refine o_iloadN K X0 d2_0 rfl rfl ?_
 refine o_bipush K X0 d2_1 rfl (z := 97) rfl ?_
 refine o_icmp_lt_t K X0 d2_3 (by decide) (pc' := 12) (by decide) p0 ?_
 refine o_iloadN K X0 d2_12 rfl rfl ?_
 refine o_bipush K X0 d2_13 rfl (z := 48) rfl ?_
 refine o_icmp_lt_f K X0 d2_15 rfl p1 ?_
 refine o_iloadN K X0 d2_18 rfl rfl ?_
 refine o_bipush K X0 d2_19 rfl (z := 57) rfl ?_
 refine o_icmp_le_f K X0 d2_21 rfl p2 ?_
 refine o_iloadN K X0 d2_24 rfl rfl ?_
 refine o_bipush K X0 d2_25 rfl (z := 45) rfl ?_
 refine o_icmp_ne_t K X0 d2_27 (by decide) (pc' := 34) (by decide) p3 ?_
 refine o_iconst K X0 d2_34 rfl (z := 0) rfl ?_
 refine o_ireturnN K X0 .boolean d2_35 rfl (by simp) (z' := 0) (by decide) ?_ (by decide) (by decide)
 exact ⟨rfl, rfl⟩
def r_shc95 : Room := { frames := 0, cells := 0, slots := 0, locals := 0 }
def Q_shc95 (Z : State) (h0 : Heap) (v : Option Value) (h : Heap) : Prop := v = some (.int 0) ∧ h0 = h
theorem rm_shc95 (l : Launch) (Z : State) (a0 : Array Value) (hw : oHw Z a0) (h0 : Heap) : oMet l Z (⟨z1, "isShelfChar", "(I)Z"⟩ : MethodName) prog_16_method_7_code 1 (some .boolean) r_shc95 [] #[.int 95] h0 (Q_shc95 Z h0) := by
 refine oEnter (plainFor_of_name (by first | (simp [plainName, overriddenIn]; done) | decide +kernel)) (own := z1) (nm := "isShelfChar") rfl rfl (L := #[.val (.int 95)]) (fun m => by first | (simp [entryFrame, mkF, argsToLocals, Value.category]; done) | rfl) ?_
 intro pp ee ss mm bb mtd cc T0 K X0
 have E0 := X0.ext0
 refine o_iloadN K X0 d2_0 rfl rfl ?_
 refine o_bipush K X0 d2_1 rfl (z := 97) rfl ?_
 refine o_icmp_lt_t K X0 d2_3 (by decide) (pc' := 12) (by decide) (by decide) ?_
 refine o_iloadN K X0 d2_12 rfl rfl ?_
 refine o_bipush K X0 d2_13 rfl (z := 48) rfl ?_
 refine o_icmp_lt_f K X0 d2_15 rfl (by decide) ?_
 refine o_iloadN K X0 d2_18 rfl rfl ?_
 refine o_bipush K X0 d2_19 rfl (z := 57) rfl ?_
 refine o_icmp_le_f K X0 d2_21 rfl (by decide) ?_
 refine o_iloadN K X0 d2_24 rfl rfl ?_
 refine o_bipush K X0 d2_25 rfl (z := 45) rfl ?_
 refine o_icmp_ne_t K X0 d2_27 (by decide) (pc' := 34) (by decide) (by decide) ?_
 refine o_iconst K X0 d2_34 rfl (z := 0) rfl ?_
 refine o_ireturnN K X0 .boolean d2_35 rfl (by simp) (z' := 0) (by decide) ?_ (by decide) (by decide)
 exact ⟨rfl, rfl⟩
theorem d3_0 : decode prog_16_method_8_code 0 = .ok (.iload_n 0, 1) := by decide +kernel
theorem d3_1 : decode prog_16_method_8_code 1 = .ok (.invokestatic 67, 3) := by decide +kernel
theorem d3_4 : decode prog_16_method_8_code 4 = .ok (.ifCond .ne 21, 3) := by decide +kernel
theorem d3_7 : decode prog_16_method_8_code 7 = .ok (.iload_n 0, 1) := by decide +kernel
theorem d3_8 : decode prog_16_method_8_code 8 = .ok (.bipush 65, 2) := by decide +kernel
theorem d3_10 : decode prog_16_method_8_code 10 = .ok (.if_icmp .lt 9, 3) := by decide +kernel
theorem d3_13 : decode prog_16_method_8_code 13 = .ok (.iload_n 0, 1) := by decide +kernel
theorem d3_14 : decode prog_16_method_8_code 14 = .ok (.bipush 90, 2) := by decide +kernel
theorem d3_16 : decode prog_16_method_8_code 16 = .ok (.if_icmp .le 9, 3) := by decide +kernel
theorem d3_19 : decode prog_16_method_8_code 19 = .ok (.iload_n 0, 1) := by decide +kernel
theorem d3_20 : decode prog_16_method_8_code 20 = .ok (.bipush 95, 2) := by decide +kernel
theorem d3_22 : decode prog_16_method_8_code 22 = .ok (.if_icmp .ne 7, 3) := by decide +kernel
theorem d3_25 : decode prog_16_method_8_code 25 = .ok (.iconst 1, 1) := by decide +kernel
theorem d3_26 : decode prog_16_method_8_code 26 = .ok (.goto 4, 3) := by decide +kernel
theorem d3_30 : decode prog_16_method_8_code 30 = .ok (.ireturn, 1) := by decide +kernel
theorem pd0 : parseMethodDescriptor "(I)Z" = some ⟨[.int], some .boolean⟩ := by decide +kernel
def r_idc1 : Room := { frames := 1, cells := 0, slots := 0, locals := 12 }
def Q_idc1 (Z : State) (c : Int32) (h0 : Heap) (v : Option Value) (h : Heap) : Prop := v = some (.int 1) ∧ h0 = h
theorem rm_idc1 (l : Launch) (Z : State) (a0 : Array Value) (hw : oHw Z a0) (c : Int32) (h0 : Heap) (q0 : oId c) : oMet l Z (⟨z1, "isIdChar", "(I)Z"⟩ : MethodName) prog_16_method_8_code 1 (some .boolean) r_idc1 [] #[.int c] h0 (Q_idc1 Z c h0) := by
 refine oEnter (plainFor_of_name (by first | (simp [plainName, overriddenIn]; done) | decide +kernel)) (own := z1) (nm := "isIdChar") rfl rfl (L := #[.val (.int c)]) (fun m => by first | (simp [entryFrame, mkF, argsToLocals, Value.category]; done) | rfl) ?_
 intro pp ee ss mm bb mtd cc T0 K X0
 have E0 := X0.ext0
 rcases q0 with p0 | p0 | rfl
 refine o_iloadN K X0 d3_0 rfl rfl ?_
 refine o_static K X0  (w110 hw) (w102 hw) (w10 hw) (w103 hw) (by decide) (rm_shc1 l Z a0 hw c h0 p0) (by decide) rfl (argsL := [.int c]) rfl (lenOf pd0 rfl) (W := 0) rfl (by decide) (by decide) (by decide) d3_1 rfl ?_
 intro v1 T1 h1 X1 U1
 obtain ⟨rfl, rfl⟩ := U1
 show oGoes pp ee bb ss Z T1 (mkF mm 4 _ [.int 1]) _ _ _
 refine o_if_ne_t K X1 d3_4 (by decide) (pc' := 25) (by decide) (by decide) ?_
 refine o_iconst K X1 d3_25 rfl (z := 1) rfl ?_
 refine o_goto K X1 d3_26 (by decide) (pc' := 30) (by decide) ?_
 refine o_ireturnN K X1 .boolean d3_30 rfl (by simp) (z' := 1) (by decide) ?_ (by decide) (by decide)
 exact ⟨rfl, rfl⟩
 obtain ⟨p1, p2, p3, p4, p5, p6⟩ := id p0
 refine o_iloadN K X0 d3_0 rfl rfl ?_
 refine o_static K X0  (w110 hw) (w102 hw) (w10 hw) (w103 hw) (by decide) (rm_shc0 l Z a0 hw c h0 p0) (by decide) rfl (argsL := [.int c]) rfl (lenOf pd0 rfl) (W := 0) rfl (by decide) (by decide) (by decide) d3_1 rfl ?_
 intro v2 T2 h2 X2 U2
 obtain ⟨rfl, rfl⟩ := U2
 show oGoes pp ee bb ss Z T2 (mkF mm 4 _ [.int 0]) _ _ _
 refine o_if_ne_f K X2 d3_4 rfl (by decide) ?_
 refine o_iloadN K X2 d3_7 rfl rfl ?_
 refine o_bipush K X2 d3_8 rfl (z := 65) rfl ?_
 refine o_icmp_lt_f K X2 d3_10 rfl p5 ?_
 refine o_iloadN K X2 d3_13 rfl rfl ?_
 refine o_bipush K X2 d3_14 rfl (z := 90) rfl ?_
 refine o_icmp_le_t K X2 d3_16 (by decide) (pc' := 25) (by decide) p6 ?_
 refine o_iconst K X2 d3_25 rfl (z := 1) rfl ?_
 refine o_goto K X2 d3_26 (by decide) (pc' := 30) (by decide) ?_
 refine o_ireturnN K X2 .boolean d3_30 rfl (by simp) (z' := 1) (by decide) ?_ (by decide) (by decide)
 exact ⟨rfl, rfl⟩
 refine o_iloadN K X0 d3_0 rfl rfl ?_
 refine o_static K X0  (w110 hw) (w102 hw) (w10 hw) (w103 hw) (by decide) (rm_shc95 l Z a0 hw  h0) (by decide) rfl (argsL := [.int 95]) rfl (lenOf pd0 rfl) (W := 0) rfl (by decide) (by decide) (by decide) d3_1 rfl ?_
 intro v3 T3 h3 X3 U3
 obtain ⟨rfl, rfl⟩ := U3
 show oGoes pp ee bb ss Z T3 (mkF mm 4 _ [.int 0]) _ _ _
 refine o_if_ne_f K X3 d3_4 rfl (by decide) ?_
 refine o_iloadN K X3 d3_7 rfl rfl ?_
 refine o_bipush K X3 d3_8 rfl (z := 65) rfl ?_
 refine o_icmp_lt_f K X3 d3_10 rfl (by decide) ?_
 refine o_iloadN K X3 d3_13 rfl rfl ?_
 refine o_bipush K X3 d3_14 rfl (z := 90) rfl ?_
 refine o_icmp_le_f K X3 d3_16 rfl (by decide) ?_
 refine o_iloadN K X3 d3_19 rfl rfl ?_
 refine o_bipush K X3 d3_20 rfl (z := 95) rfl ?_
 refine o_icmp_ne_f K X3 d3_22 rfl (by decide) ?_
 refine o_iconst K X3 d3_25 rfl (z := 1) rfl ?_
 refine o_goto K X3 d3_26 (by decide) (pc' := 30) (by decide) ?_
 refine o_ireturnN K X3 .boolean d3_30 rfl (by simp) (z' := 1) (by decide) ?_ (by decide) (by decide)
 exact ⟨rfl, rfl⟩
theorem d4_0 : decode jdk_52_method_21_code 0 = .ok (.iconst 0, 1) := by decide +kernel
theorem d4_1 : decode jdk_52_method_21_code 1 = .ok (.istore 5, 2) := by decide +kernel
theorem d4_3 : decode jdk_52_method_21_code 3 = .ok (.iload 5, 2) := by decide +kernel
theorem d4_5 : decode jdk_52_method_21_code 5 = .ok (.iload 4, 2) := by decide +kernel
theorem d4_7 : decode jdk_52_method_21_code 7 = .ok (.if_icmp .ge 37, 3) := by decide +kernel
theorem d4_10 : decode jdk_52_method_21_code 10 = .ok (.aload_n 0, 1) := by decide +kernel
theorem d4_11 : decode jdk_52_method_21_code 11 = .ok (.iload_n 1, 1) := by decide +kernel
theorem d4_12 : decode jdk_52_method_21_code 12 = .ok (.caload, 1) := by decide +kernel
theorem d4_13 : decode jdk_52_method_21_code 13 = .ok (.istore 6, 2) := by decide +kernel
theorem d4_15 : decode jdk_52_method_21_code 15 = .ok (.iload 6, 2) := by decide +kernel
theorem d4_17 : decode jdk_52_method_21_code 17 = .ok (.sipush 255, 3) := by decide +kernel
theorem d4_20 : decode jdk_52_method_21_code 20 = .ok (.if_icmp .le 6, 3) := by decide +kernel
theorem d4_26 : decode jdk_52_method_21_code 26 = .ok (.aload_n 2, 1) := by decide +kernel
theorem d4_27 : decode jdk_52_method_21_code 27 = .ok (.iload_n 3, 1) := by decide +kernel
theorem d4_28 : decode jdk_52_method_21_code 28 = .ok (.iload 6, 2) := by decide +kernel
theorem d4_30 : decode jdk_52_method_21_code 30 = .ok (.i2b, 1) := by decide +kernel
theorem d4_31 : decode jdk_52_method_21_code 31 = .ok (.bastore, 1) := by decide +kernel
theorem d4_32 : decode jdk_52_method_21_code 32 = .ok (.iinc 1 1, 3) := by decide +kernel
theorem d4_35 : decode jdk_52_method_21_code 35 = .ok (.iinc 3 1, 3) := by decide +kernel
theorem d4_38 : decode jdk_52_method_21_code 38 = .ok (.iinc 5 1, 3) := by decide +kernel
theorem d4_41 : decode jdk_52_method_21_code 41 = .ok (.goto (-38), 3) := by decide +kernel
theorem d4_44 : decode jdk_52_method_21_code 44 = .ok (.iload 4, 2) := by decide +kernel
theorem d4_46 : decode jdk_52_method_21_code 46 = .ok (.ireturn, 1) := by decide +kernel
def r_cmp5_1 : Room := { frames := 0, cells := 0, slots := 0, locals := 0 }
def Q_cmp5_1 (Z : State) (b : Addr) (kb : ClassId) (d : Addr) (kd : ClassId) (c0 : Int32) (h0 : Heap) (v : Option Value) (h : Heap) : Prop := v = some (.int 1) ∧ Keep h0 h [d] ∧ oArr Z h d kd .byte [(.int (nar .byte c0))]
theorem rm_cmp5_1 (l : Launch) (Z : State) (a0 : Array Value) (hw : oHw Z a0) (b : Addr) (kb : ClassId) (d : Addr) (kd : ClassId) (c0 : Int32) (h0 : Heap) (q0 : oArr Z h0 b kb .char [.int c0]) (q1 : oArr Z h0 d kd .byte [.int 0]) (q2 : Z.heap.size ≤ d) (q3 : b ≠ d) (q4 : ¬ ((255 : Int32) < c0)) : oMet l Z (⟨z9, "compress", "([CI[BII)I"⟩ : MethodName) jdk_52_method_21_code 7 (some .int) r_cmp5_1 [] #[.ref b, .int 0, .ref d, .int 0, .int 1] h0 (Q_cmp5_1 Z b kb d kd c0 h0) := by
 refine oEnter (plainFor_of_name (by first | (simp [plainName, overriddenIn]; done) | decide +kernel)) (own := z9) (nm := "compress") rfl rfl (L := #[.val (.ref b), .val (.int 0), .val (.ref d), .val (.int 0), .val (.int 1), .unset, .unset]) (fun m => by first | (simp [entryFrame, mkF, argsToLocals, Value.category]; done) | rfl) ?_
 intro pp ee ss mm bb mtd cc T0 K X0
 have E0 := X0.ext0
 refine o_iconst K X0 d4_0 rfl (z := 0) rfl ?_
 refine o_istore K X0 d4_1 rfl (L' := #[vR b, vI 0, vR d, vI 0, vI 1, vI 0, uS]) rfl ?_
 refine o_iload K X0 d4_3 rfl rfl ?_
 refine o_iload K X0 d4_5 rfl rfl ?_
 refine o_icmp_ge_f K X0 d4_7 rfl (by decide) ?_
 refine o_aloadN K X0 d4_10 rfl rfl rfl ?_
 refine o_iloadN K X0 d4_11 rfl rfl ?_
 refine o_caload K X0 q0 (by decide) (v := (.int c0)) rfl d4_12 rfl ?_
 refine o_istore K X0 d4_13 rfl (L' := #[vR b, vI 0, vR d, vI 0, vI 1, vI 0, vI c0]) rfl ?_
 refine o_iload K X0 d4_15 rfl rfl ?_
 refine o_sipush K X0 d4_17 rfl (z := 255) rfl ?_
 refine o_icmp_le_t K X0 d4_20 (by decide) (pc' := 26) (by decide) q4 ?_
 refine o_aloadN K X0 d4_26 rfl rfl rfl ?_
 refine o_iloadN K X0 d4_27 rfl rfl ?_
 refine o_iload K X0 d4_28 rfl rfl ?_
 refine o_i2b K X0 d4_30 rfl (z := (nar .byte c0)) rfl ?_
 refine o_bastore K X0 q1 (by decide) (show (0 : Int32).toNatClampNeg < 1 from (by decide)) q2 (z := (.int (nar .byte c0))) (congrArg Value.int (oNarIdembyte _)) d4_31 rfl ?_
 intro T1 h1 X1 W1 A1
 replace A1 : oArr Z h1 d kd .byte [(.int (nar .byte c0))] := A1
 refine o_iinc K X1 d4_32 rfl rfl (L' := #[vR b, vI 1, vR d, vI 0, vI 1, vI 0, vI c0]) (by rw [show (0 : Int32) + Int32.ofInt 1 = (1 : Int32) from (by decide)]; rfl) ?_
 refine o_iinc K X1 d4_35 rfl rfl (L' := #[vR b, vI 1, vR d, vI 1, vI 1, vI 0, vI c0]) (by rw [show (0 : Int32) + Int32.ofInt 1 = (1 : Int32) from (by decide)]; rfl) ?_
 refine o_iinc K X1 d4_38 rfl rfl (L' := #[vR b, vI 1, vR d, vI 1, vI 1, vI 1, vI c0]) (by rw [show (0 : Int32) + Int32.ofInt 1 = (1 : Int32) from (by decide)]; rfl) ?_
 refine o_goto K X1 d4_41 (by decide) (pc' := 3) (by decide) ?_
 refine o_iload K X1 d4_3 rfl rfl ?_
 refine o_iload K X1 d4_5 rfl rfl ?_
 refine o_icmp_ge_t K X1 d4_7 (by decide) (pc' := 44) (by decide) (by decide) ?_
 refine o_iload K X1 d4_44 rfl rfl ?_
 refine o_ireturn K X1 d4_46 rfl ?_ (by decide) (by decide)
 exact ⟨rfl, ((Keep.refl h0 [d]).wr W1 (Or.inl me0)), A1⟩
theorem d5_0 : decode jdk_52_method_16_code 0 = .ok (.iload_n 2, 1) := by decide +kernel
theorem d5_1 : decode jdk_52_method_16_code 1 = .ok (.newarray .byte, 2) := by decide +kernel
theorem d5_3 : decode jdk_52_method_16_code 3 = .ok (.astore_n 3, 1) := by decide +kernel
theorem d5_4 : decode jdk_52_method_16_code 4 = .ok (.aload_n 0, 1) := by decide +kernel
theorem d5_5 : decode jdk_52_method_16_code 5 = .ok (.iload_n 1, 1) := by decide +kernel
theorem d5_6 : decode jdk_52_method_16_code 6 = .ok (.aload_n 3, 1) := by decide +kernel
theorem d5_7 : decode jdk_52_method_16_code 7 = .ok (.iconst 0, 1) := by decide +kernel
theorem d5_8 : decode jdk_52_method_16_code 8 = .ok (.iload_n 2, 1) := by decide +kernel
theorem d5_9 : decode jdk_52_method_16_code 9 = .ok (.invokestatic 115, 3) := by decide +kernel
theorem d5_12 : decode jdk_52_method_16_code 12 = .ok (.istore 4, 2) := by decide +kernel
theorem d5_14 : decode jdk_52_method_16_code 14 = .ok (.iload 4, 2) := by decide +kernel
theorem d5_16 : decode jdk_52_method_16_code 16 = .ok (.iload_n 2, 1) := by decide +kernel
theorem d5_17 : decode jdk_52_method_16_code 17 = .ok (.if_icmp .eq 40, 3) := by decide +kernel
theorem d5_57 : decode jdk_52_method_16_code 57 = .ok (.aload_n 3, 1) := by decide +kernel
theorem d5_58 : decode jdk_52_method_16_code 58 = .ok (.areturn, 1) := by decide +kernel
theorem pd1 : parseMethodDescriptor "([CI[BII)I" = some ⟨[(.array .char), .int, (.array .byte), .int, .int], some .int⟩ := by decide +kernel
def r_cmp3_1 : Room := { frames := 1, cells := 1, slots := 1, locals := 18 }
def Q_cmp3_1 (Z : State) (b : Addr) (kb : ClassId) (c0 : Int32) (h0 : Heap) (v : Option Value) (h : Heap) : Prop := ∃ r : Addr, ∃ k : ClassId, v = some (.ref r) ∧ Keep h0 h [] ∧ h0.size ≤ r ∧ oArr Z h r k .byte [(.int (nar .byte c0))] ∧ Exa Z h r "[B"
theorem rm_cmp3_1 (l : Launch) (Z : State) (a0 : Array Value) (hw : oHw Z a0) (b : Addr) (kb : ClassId) (c0 : Int32) (h0 : Heap) (q0 : oArr Z h0 b kb .char [.int c0]) (q1 : ¬ ((255 : Int32) < c0)) : oMet l Z (⟨z9, "compress", "([CII)[B"⟩ : MethodName) jdk_52_method_16_code 6 (some (.array .byte)) r_cmp3_1 [] #[.ref b, .int 0, .int 1] h0 (Q_cmp3_1 Z b kb c0 h0) := by
 refine oEnter (plainFor_of_name (by first | (simp [plainName, overriddenIn]; done) | decide +kernel)) (own := z9) (nm := "compress") rfl rfl (L := #[.val (.ref b), .val (.int 0), .val (.int 1), .unset, .unset, .unset]) (fun m => by first | (simp [entryFrame, mkF, argsToLocals, Value.category]; done) | rfl) ?_
 intro pp ee ss mm bb mtd cc T0 K X0
 have E0 := X0.ext0
 refine o_iloadN K X0 d5_0 rfl rfl ?_
 refine o_newarray K X0 (aty := .byte) 1 (w33 hw) (ad := "[B") (by decide +kernel) (by decide) (by decide) (by decide) rfl d5_1 rfl (by decide) (by decide) ?_
 intro T1 h1 b1 k1 X1 g1 E1 A1 B1 G1
 replace A1 : oArr Z h1 b1 k1 .byte [.int 0] := A1
 refine o_astoreN K X1 d5_3 rfl rfl (L' := #[vR b, vI 0, vI 1, vR b1, uS, uS]) rfl ?_
 refine o_aloadN K X1 d5_4 rfl rfl rfl ?_
 refine o_iloadN K X1 d5_5 rfl rfl ?_
 refine o_aloadN K X1 d5_6 rfl rfl rfl ?_
 refine o_iconst K X1 d5_7 rfl (z := 0) rfl ?_
 refine o_iloadN K X1 d5_8 rfl rfl ?_
 have m2 := (q0.ext E1)
 have n3 := oLz q0.lt (oLe g1)
 refine o_static K X1  (w34 hw) (w35 hw) (w31 hw) (w36 hw) (by decide) (rm_cmp5_1 l Z a0 hw b kb b1 k1 c0 h1 m2 A1 G1 n3 q1) (by decide) rfl (argsL := [.ref b, .int 0, .ref b1, .int 0, .int 1]) rfl (lenOf pd1 rfl) (W := 0) rfl (by decide) (by decide) (by decide) d5_9 rfl ?_
 intro v4 T4 h4 X4 U4
 obtain ⟨rfl, u4_0, u4_1⟩ := U4
 show oGoes pp ee bb ss Z T4 (mkF mm 12 _ [.int 1]) _ _ _
 refine o_istore K X4 d5_12 rfl (L' := #[vR b, vI 0, vI 1, vR b1, vI 1, uS]) rfl ?_
 refine o_iload K X4 d5_14 rfl rfl ?_
 refine o_iloadN K X4 d5_16 rfl rfl ?_
 refine o_icmp_eq_t K X4 d5_17 (by decide) (pc' := 57) (by decide) (by decide) ?_
 refine o_aloadN K X4 d5_57 rfl rfl rfl ?_
 refine o_areturn K X4 (t := (.array .byte)) d5_58 rfl rfl rfl ?_ (by decide) (by decide)
 have m5 := (B1.keep u4_0)
 exact ⟨b1, k1, rfl, (((Keep.refl h0 []).ext E1).trans u4_0 (allS (Or.inr (oLe g1)) all0)), (oLe g1), u4_1, m5⟩
theorem d6_0 : decode jdk_52_method_15_code 0 = .ok (.iload_n 1, 1) := by decide +kernel
theorem d6_1 : decode jdk_52_method_15_code 1 = .ok (.aload_n 0, 1) := by decide +kernel
theorem d6_2 : decode jdk_52_method_15_code 2 = .ok (.arraylength, 1) := by decide +kernel
theorem d6_3 : decode jdk_52_method_15_code 3 = .ok (.isub, 1) := by decide +kernel
theorem d6_4 : decode jdk_52_method_15_code 4 = .ok (.bipush 31, 2) := by decide +kernel
theorem d6_6 : decode jdk_52_method_15_code 6 = .ok (.iushr, 1) := by decide +kernel
theorem d6_7 : decode jdk_52_method_15_code 7 = .ok (.i2b, 1) := by decide +kernel
theorem d6_8 : decode jdk_52_method_15_code 8 = .ok (.ireturn, 1) := by decide +kernel
def r_coder_1 : Room := { frames := 0, cells := 0, slots := 0, locals := 0 }
def Q_coder_1 (Z : State) (b : Addr) (kb : ClassId) (c0 : Int32) (h0 : Heap) (v : Option Value) (h : Heap) : Prop := v = some (.int 0) ∧ h0 = h
theorem rm_coder_1 (l : Launch) (Z : State) (a0 : Array Value) (hw : oHw Z a0) (b : Addr) (kb : ClassId) (c0 : Int32) (h0 : Heap) (q0 : oArr Z h0 b kb .byte [.int c0]) : oMet l Z (⟨z9, "coderFromArrayLen", "([BI)B"⟩ : MethodName) jdk_52_method_15_code 2 (some .byte) r_coder_1 [] #[.ref b, .int 1] h0 (Q_coder_1 Z b kb c0 h0) := by
 refine oEnter (plainFor_of_name (by first | (simp [plainName, overriddenIn]; done) | decide +kernel)) (own := z9) (nm := "coderFromArrayLen") rfl rfl (L := #[.val (.ref b), .val (.int 1)]) (fun m => by first | (simp [entryFrame, mkF, argsToLocals, Value.category]; done) | rfl) ?_
 intro pp ee ss mm bb mtd cc T0 K X0
 have E0 := X0.ext0
 refine o_iloadN K X0 d6_0 rfl rfl ?_
 refine o_aloadN K X0 d6_1 rfl rfl rfl ?_
 refine o_arraylength K X0 q0 (z := 1) rfl d6_2 rfl ?_
 refine o_isub K X0 d6_3 rfl (z := 0) (by decide) ?_
 refine o_bipush K X0 d6_4 rfl (z := 31) rfl ?_
 refine o_iushr K X0 d6_6 rfl (z := 0) (by decide) ?_
 refine o_i2b K X0 d6_7 rfl (z := 0) (by decide) ?_
 refine o_ireturnN K X0 .byte d6_8 rfl (by simp) (z' := 0) (by decide) ?_ (by decide) (by decide)
 exact ⟨rfl, rfl⟩
theorem d7_0 : decode jdk_42_method_149_code 0 = .ok (.aload_n 0, 1) := by decide +kernel
theorem d7_1 : decode jdk_42_method_149_code 1 = .ok (.invokespecial 1, 3) := by decide +kernel
theorem d7_4 : decode jdk_42_method_149_code 4 = .ok (.iload_n 3, 1) := by decide +kernel
theorem d7_5 : decode jdk_42_method_149_code 5 = .ok (.ifCond .ne 22, 3) := by decide +kernel
theorem d7_27 : decode jdk_42_method_149_code 27 = .ok (.getstatic 38, 3) := by decide +kernel
theorem d7_30 : decode jdk_42_method_149_code 30 = .ok (.ifCond .eq 28, 3) := by decide +kernel
theorem d7_33 : decode jdk_42_method_149_code 33 = .ok (.aload_n 1, 1) := by decide +kernel
theorem d7_34 : decode jdk_42_method_149_code 34 = .ok (.iload_n 2, 1) := by decide +kernel
theorem d7_35 : decode jdk_42_method_149_code 35 = .ok (.iload_n 3, 1) := by decide +kernel
theorem d7_36 : decode jdk_42_method_149_code 36 = .ok (.invokestatic 177, 3) := by decide +kernel
theorem d7_39 : decode jdk_42_method_149_code 39 = .ok (.astore 5, 2) := by decide +kernel
theorem d7_41 : decode jdk_42_method_149_code 41 = .ok (.aload_n 0, 1) := by decide +kernel
theorem d7_42 : decode jdk_42_method_149_code 42 = .ok (.aload 5, 2) := by decide +kernel
theorem d7_44 : decode jdk_42_method_149_code 44 = .ok (.iload_n 3, 1) := by decide +kernel
theorem d7_45 : decode jdk_42_method_149_code 45 = .ok (.invokestatic 47, 3) := by decide +kernel
theorem d7_48 : decode jdk_42_method_149_code 48 = .ok (.putfield 15, 3) := by decide +kernel
theorem d7_51 : decode jdk_42_method_149_code 51 = .ok (.aload_n 0, 1) := by decide +kernel
theorem d7_52 : decode jdk_42_method_149_code 52 = .ok (.aload 5, 2) := by decide +kernel
theorem d7_54 : decode jdk_42_method_149_code 54 = .ok (.putfield 9, 3) := by decide +kernel
theorem d7_57 : decode jdk_42_method_149_code 57 = .ok (.return_, 1) := by decide +kernel
theorem pd2 : parseMethodDescriptor "([CII)[B" = some ⟨[(.array .char), .int, .int], some (.array .byte)⟩ := by decide +kernel
theorem pd3 : parseMethodDescriptor "([BI)B" = some ⟨[(.array .byte), .int], some .byte⟩ := by decide +kernel
def r_str4_1 : Room := { frames := 2, cells := 1, slots := 1, locals := 35 }
def Q_str4_1 (Z : State) (a b : Addr) (kb : ClassId) (cs c0 : Int32) (h0 : Heap) (v : Option Value) (h : Heap) : Prop := ∃ vb : Addr, ∃ k : ClassId, v = none ∧ Keep h0 h [a] ∧ Exa Z h a z0 ∧ Fld Z h a z0 "value" "[B" (.ref vb) ∧ Fld Z h a z0 "coder" "B" (.int 0) ∧ h0.size ≤ vb ∧ oArr Z h vb k .byte [(.int (nar .byte c0))] ∧ Fld Z h a z0 "hash" "I" (.int 0) ∧ Fld Z h a z0 "hashIsZero" "Z" (.int 0) ∧ Exa Z h vb "[B"
theorem rm_str4_1 (l : Launch) (Z : State) (a0 : Array Value) (hw : oHw Z a0) (a b : Addr) (kb : ClassId) (cs c0 : Int32) (h0 : Heap) (q0 : Exa Z h0 a z0) (q1 : Fld Z h0 a z0 "value" "[B" .null) (q2 : Fld Z h0 a z0 "coder" "B" (.int 0)) (q3 : Z.heap.size ≤ a) (q4 : Fld Z h0 a z0 "hash" "I" (.int 0)) (q5 : Fld Z h0 a z0 "hashIsZero" "Z" (.int 0)) (q6 : oArr Z h0 b kb .char [.int c0]) (q7 : Sta Z Z.heap z0 z3 "Z" (.int cs)) (q8 : ¬ (cs = (0 : Int32))) (q9 : ¬ ((255 : Int32) < c0)) : oMet l Z (⟨z0, "<init>", "([CIILjava/lang/Void;)V"⟩ : MethodName) jdk_42_method_149_code 6 none r_str4_1 [] #[.ref a, .ref b, .int 0, .int 1, .null] h0 (Q_str4_1 Z a b kb cs c0 h0) := by
 refine oEnter (plainFor_of_name (by first | (simp [plainName, overriddenIn]; done) | decide +kernel)) (own := z0) (nm := "<init>") rfl rfl (L := #[.val (.ref a), .val (.ref b), .val (.int 0), .val (.int 1), .val .null, .unset]) (fun m => by first | (simp [entryFrame, mkF, argsToLocals, Value.category]; done) | rfl) ?_
 intro pp ee ss mm bb mtd cc T0 K X0
 have E0 := X0.ext0
 refine o_aloadN K X0 d7_0 rfl rfl rfl ?_
 refine o_initObj K X0 (w25 hw) (w26 hw) (w27 hw) d7_1 rfl rfl (by decide) (W := 0) rfl (by decide) ?_
 intro T1 X1
 refine o_iloadN K X1 d7_4 rfl rfl ?_
 refine o_if_ne_t K X1 d7_5 (by decide) (pc' := 27) (by decide) (by decide) ?_
 refine o_getstatic K X1 (host := "") (Or.inl (w28 hw)) Via.refl (q7.ext X1.ext0) d7_27 rfl ?_
 intro T2 X2
 refine o_if_eq_f K X2 d7_30 rfl q8 ?_
 refine o_aloadN K X2 d7_33 rfl rfl rfl ?_
 refine o_iloadN K X2 d7_34 rfl rfl ?_
 refine o_iloadN K X2 d7_35 rfl rfl ?_
 refine o_static K X2  (w29 hw) (w30 hw) (w31 hw) (w32 hw) (by decide) (rm_cmp3_1 l Z a0 hw b kb c0 h0 q6 q9) (by decide) rfl (argsL := [.ref b, .int 0, .int 1]) rfl (lenOf pd2 rfl) (W := 0) rfl (by decide) (by decide) (by decide) d7_36 rfl ?_
 intro v3 T3 h3 X3 U3
 obtain ⟨r_3, k_3, rfl, u3_0, u3_1, u3_2, u3_3⟩ := U3
 have G3_r : Z.heap.size ≤ r_3 := Nat.le_trans X2.ext0.1 u3_1
 show oGoes pp ee bb ss Z T3 (mkF mm 39 _ [.ref r_3]) _ _ _
 refine o_astore K X3 d7_39 rfl rfl (L' := #[vR a, vR b, vI 0, vI 1, vN, vR r_3]) rfl ?_
 refine o_aloadN K X3 d7_41 rfl rfl rfl ?_
 refine o_aload K X3 d7_42 rfl rfl rfl ?_
 refine o_iloadN K X3 d7_44 rfl rfl ?_
 refine o_static K X3  (w37 hw) (w38 hw) (w31 hw) (w39 hw) (by decide) (rm_coder_1 l Z a0 hw r_3 k_3 (nar .byte c0) h3 u3_2) (by decide) rfl (argsL := [.ref r_3, .int 1]) rfl (lenOf pd3 rfl) (W := 1) rfl (by decide) (by decide) (by decide) d7_45 rfl ?_
 intro v4 T4 h4 X4 U4
 obtain ⟨rfl, rfl⟩ := U4
 show oGoes pp ee bb ss Z T4 (mkF mm 48 _ [.int 0, .ref a]) _ _ _
 have m6 := (q2.keep u3_0 nin0)
 have m7 := (q0.keep u3_0)
 refine o_putfieldN K X4 (w40 hw) Via.refl m6 m7 (Or.inr ⟨(w41 hw), rfl, rfl⟩) (w15 hw) (ty := .byte) (by decide) (v' := (.int 0)) (congrArg Value.int (by decide)) (oFitbyte (x := (0 : Int32)) (by decide)) q3 d7_48 rfl ?_
 intro T5 h5 X5 W5
 have F5 := Fld.same W5 m6
 refine o_aloadN K X5 d7_51 rfl rfl rfl ?_
 refine o_aload K X5 d7_52 rfl rfl rfl ?_
 have m9 := (Fld.other W5 (q1.keep u3_0 nin0) (Or.inr (slot_ne (Or.inr (w43 hw)) (Or.inr (w41 hw)) (by decide) (t := (.array .byte)) (t' := .byte) (by decide) (by decide))))
 have m10 := (Exa.wr W5 m7)
 refine o_putfield K X5 (host := "") (Or.inl (w42 hw)) Via.refl m9 m10 (Or.inr ⟨(w43 hw), rfl, rfl⟩) (w15 hw) (ty := (.array .byte)) (by decide) rfl rfl q3 d7_54 rfl ?_
 intro T8 h8 X8 W8
 have F8 := Fld.same W8 m9
 refine o_return K X8 d7_57 rfl ?_ (by decide) (by decide)
 have m11 := (Exa.wr W8 m10)
 have m12 := (Fld.other W8 F5 (Or.inr (slot_ne (Or.inr (w41 hw)) (Or.inr (w43 hw)) (by decide) (t := .byte) (t' := (.array .byte)) (by decide) (by decide))))
 have n13 := oLsz q0.lt u3_1
 have m14 := ((u3_2.other W5 n13).other W8 n13)
 have m15 := (Fld.other W8 (Fld.other W5 (q4.keep u3_0 nin0) (Or.inr (slot_ne (Or.inl (w126 hw)) (Or.inr (w41 hw)) (by decide) (t := .int) (t' := .byte) (by decide) (by decide)))) (Or.inr (slot_ne (Or.inl (w126 hw)) (Or.inr (w43 hw)) (by decide) (t := .int) (t' := (.array .byte)) (by decide) (by decide))))
 have m16 := (Fld.other W8 (Fld.other W5 (q5.keep u3_0 nin0) (Or.inr (slot_ne (Or.inl (w128 hw)) (Or.inr (w41 hw)) (by decide) (t := .boolean) (t' := .byte) (by decide) (by decide)))) (Or.inr (slot_ne (Or.inl (w128 hw)) (Or.inr (w43 hw)) (by decide) (t := .boolean) (t' := (.array .byte)) (by decide) (by decide))))
 have m17 := (Exa.wr W8 (Exa.wr W5 u3_3))
 exact ⟨r_3, k_3, rfl, ((((Keep.refl h0 [a]).trans u3_0 all0).wr W5 (Or.inl me0)).wr W8 (Or.inl me0)), m11, F8, m12, u3_1, m14, m15, m16, m17⟩
theorem d8_0 : decode jdk_42_method_3_code 0 = .ok (.aload_n 0, 1) := by decide +kernel
theorem d8_1 : decode jdk_42_method_3_code 1 = .ok (.aload_n 1, 1) := by decide +kernel
theorem d8_2 : decode jdk_42_method_3_code 2 = .ok (.iconst 0, 1) := by decide +kernel
theorem d8_3 : decode jdk_42_method_3_code 3 = .ok (.aload_n 1, 1) := by decide +kernel
theorem d8_4 : decode jdk_42_method_3_code 4 = .ok (.arraylength, 1) := by decide +kernel
theorem d8_5 : decode jdk_42_method_3_code 5 = .ok (.aconst_null, 1) := by decide +kernel
theorem d8_6 : decode jdk_42_method_3_code 6 = .ok (.invokespecial 27, 3) := by decide +kernel
theorem d8_9 : decode jdk_42_method_3_code 9 = .ok (.return_, 1) := by decide +kernel
theorem pd4 : parseMethodDescriptor "([CIILjava/lang/Void;)V" = some ⟨[(.array .char), .int, .int, (.object "java/lang/Void")], none⟩ := by decide +kernel
def r_str_1 : Room := { frames := 3, cells := 1, slots := 1, locals := 52 }
def Q_str_1 (Z : State) (a b : Addr) (kb : ClassId) (cs c0 : Int32) (h0 : Heap) (v : Option Value) (h : Heap) : Prop := ∃ vb : Addr, ∃ k : ClassId, v = none ∧ Keep h0 h [a] ∧ Exa Z h a z0 ∧ Fld Z h a z0 "value" "[B" (.ref vb) ∧ Fld Z h a z0 "coder" "B" (.int 0) ∧ h0.size ≤ vb ∧ oArr Z h vb k .byte [(.int (nar .byte c0))] ∧ Fld Z h a z0 "hash" "I" (.int 0) ∧ Fld Z h a z0 "hashIsZero" "Z" (.int 0) ∧ Exa Z h vb "[B"
theorem rm_str_1 (l : Launch) (Z : State) (a0 : Array Value) (hw : oHw Z a0) (a b : Addr) (kb : ClassId) (cs c0 : Int32) (h0 : Heap) (q0 : Exa Z h0 a z0) (q1 : Fld Z h0 a z0 "value" "[B" .null) (q2 : Fld Z h0 a z0 "coder" "B" (.int 0)) (q3 : Z.heap.size ≤ a) (q4 : Fld Z h0 a z0 "hash" "I" (.int 0)) (q5 : Fld Z h0 a z0 "hashIsZero" "Z" (.int 0)) (q6 : oArr Z h0 b kb .char [.int c0]) (q7 : Sta Z Z.heap z0 z3 "Z" (.int cs)) (q8 : ¬ (cs = (0 : Int32))) (q9 : ¬ ((255 : Int32) < c0)) : oMet l Z (⟨z0, "<init>", "([C)V"⟩ : MethodName) jdk_42_method_3_code 2 none r_str_1 [] #[.ref a, .ref b] h0 (Q_str_1 Z a b kb cs c0 h0) := by
 refine oEnter (plainFor_of_name (by first | (simp [plainName, overriddenIn]; done) | decide +kernel)) (own := z0) (nm := "<init>") rfl rfl (L := #[.val (.ref a), .val (.ref b)]) (fun m => by first | (simp [entryFrame, mkF, argsToLocals, Value.category]; done) | rfl) ?_
 intro pp ee ss mm bb mtd cc T0 K X0
 have E0 := X0.ext0
 refine o_aloadN K X0 d8_0 rfl rfl rfl ?_
 refine o_aloadN K X0 d8_1 rfl rfl rfl ?_
 refine o_iconst K X0 d8_2 rfl (z := 0) rfl ?_
 refine o_aloadN K X0 d8_3 rfl rfl rfl ?_
 refine o_arraylength K X0 q6 (z := 1) rfl d8_4 rfl ?_
 refine o_aconst_null K X0 d8_5 rfl ?_
 refine o_special K X0 (y := (⟨z0, "<init>", "([CIILjava/lang/Void;)V"⟩ : MethodName)) rfl (w21 hw) (w22 hw) (w16 hw) (w24 hw) (by decide) (rm_str4_1 l Z a0 hw a b kb cs c0 h0 q0 q1 q2 q3 q4 q5 q6 q7 q8 q9) (by decide) rfl (argsL := [.ref b, .int 0, .int 1, .null]) rfl (lenOf pd4 rfl) (W := 0) rfl (by decide) (by decide) (by decide) d8_6 rfl ?_
 intro v1 T1 h1 X1 U1
 obtain ⟨vb_1, k_1, rfl, u1_0, u1_1, u1_2, u1_3, u1_4, u1_5, u1_6, u1_7, u1_8⟩ := U1
 have G1_vb : Z.heap.size ≤ vb_1 := Nat.le_trans X0.ext0.1 u1_4
 show oGoes pp ee bb ss Z T1 (mkF mm 9 _ []) _ _ _
 refine o_return K X1 d8_9 rfl ?_ (by decide) (by decide)
 exact ⟨vb_1, k_1, rfl, ((Keep.refl h0 [a]).trans u1_0 (allS (Or.inl me0) all0)), u1_1, u1_2, u1_3, u1_4, u1_5, u1_6, u1_7, u1_8⟩
def r_cmp5_2 : Room := { frames := 0, cells := 0, slots := 0, locals := 0 }
def Q_cmp5_2 (Z : State) (b : Addr) (kb : ClassId) (d : Addr) (kd : ClassId) (c0 c1 : Int32) (h0 : Heap) (v : Option Value) (h : Heap) : Prop := v = some (.int 2) ∧ Keep h0 h [d] ∧ oArr Z h d kd .byte [(.int (nar .byte c0)), (.int (nar .byte c1))]
theorem rm_cmp5_2 (l : Launch) (Z : State) (a0 : Array Value) (hw : oHw Z a0) (b : Addr) (kb : ClassId) (d : Addr) (kd : ClassId) (c0 c1 : Int32) (h0 : Heap) (q0 : oArr Z h0 b kb .char [.int c0, .int c1]) (q1 : oArr Z h0 d kd .byte [.int 0, .int 0]) (q2 : Z.heap.size ≤ d) (q3 : b ≠ d) (q4 : ¬ ((255 : Int32) < c0)) (q5 : ¬ ((255 : Int32) < c1)) : oMet l Z (⟨z9, "compress", "([CI[BII)I"⟩ : MethodName) jdk_52_method_21_code 7 (some .int) r_cmp5_2 [] #[.ref b, .int 0, .ref d, .int 0, .int 2] h0 (Q_cmp5_2 Z b kb d kd c0 c1 h0) := by
 refine oEnter (plainFor_of_name (by first | (simp [plainName, overriddenIn]; done) | decide +kernel)) (own := z9) (nm := "compress") rfl rfl (L := #[.val (.ref b), .val (.int 0), .val (.ref d), .val (.int 0), .val (.int 2), .unset, .unset]) (fun m => by first | (simp [entryFrame, mkF, argsToLocals, Value.category]; done) | rfl) ?_
 intro pp ee ss mm bb mtd cc T0 K X0
 have E0 := X0.ext0
 refine o_iconst K X0 d4_0 rfl (z := 0) rfl ?_
 refine o_istore K X0 d4_1 rfl (L' := #[vR b, vI 0, vR d, vI 0, vI 2, vI 0, uS]) rfl ?_
 refine o_iload K X0 d4_3 rfl rfl ?_
 refine o_iload K X0 d4_5 rfl rfl ?_
 refine o_icmp_ge_f K X0 d4_7 rfl (by decide) ?_
 refine o_aloadN K X0 d4_10 rfl rfl rfl ?_
 refine o_iloadN K X0 d4_11 rfl rfl ?_
 refine o_caload K X0 q0 (by decide) (v := (.int c0)) rfl d4_12 rfl ?_
 refine o_istore K X0 d4_13 rfl (L' := #[vR b, vI 0, vR d, vI 0, vI 2, vI 0, vI c0]) rfl ?_
 refine o_iload K X0 d4_15 rfl rfl ?_
 refine o_sipush K X0 d4_17 rfl (z := 255) rfl ?_
 refine o_icmp_le_t K X0 d4_20 (by decide) (pc' := 26) (by decide) q4 ?_
 refine o_aloadN K X0 d4_26 rfl rfl rfl ?_
 refine o_iloadN K X0 d4_27 rfl rfl ?_
 refine o_iload K X0 d4_28 rfl rfl ?_
 refine o_i2b K X0 d4_30 rfl (z := (nar .byte c0)) rfl ?_
 refine o_bastore K X0 q1 (by decide) (show (0 : Int32).toNatClampNeg < 2 from (by decide)) q2 (z := (.int (nar .byte c0))) (congrArg Value.int (oNarIdembyte _)) d4_31 rfl ?_
 intro T1 h1 X1 W1 A1
 replace A1 : oArr Z h1 d kd .byte [(.int (nar .byte c0)), .int 0] := A1
 refine o_iinc K X1 d4_32 rfl rfl (L' := #[vR b, vI 1, vR d, vI 0, vI 2, vI 0, vI c0]) (by rw [show (0 : Int32) + Int32.ofInt 1 = (1 : Int32) from (by decide)]; rfl) ?_
 refine o_iinc K X1 d4_35 rfl rfl (L' := #[vR b, vI 1, vR d, vI 1, vI 2, vI 0, vI c0]) (by rw [show (0 : Int32) + Int32.ofInt 1 = (1 : Int32) from (by decide)]; rfl) ?_
 refine o_iinc K X1 d4_38 rfl rfl (L' := #[vR b, vI 1, vR d, vI 1, vI 2, vI 1, vI c0]) (by rw [show (0 : Int32) + Int32.ofInt 1 = (1 : Int32) from (by decide)]; rfl) ?_
 refine o_goto K X1 d4_41 (by decide) (pc' := 3) (by decide) ?_
 refine o_iload K X1 d4_3 rfl rfl ?_
 refine o_iload K X1 d4_5 rfl rfl ?_
 refine o_icmp_ge_f K X1 d4_7 rfl (by decide) ?_
 refine o_aloadN K X1 d4_10 rfl rfl rfl ?_
 refine o_iloadN K X1 d4_11 rfl rfl ?_
 have m2 := (q0.other W1 q3)
 refine o_caload K X1 m2 (by decide) (v := (.int c1)) rfl d4_12 rfl ?_
 refine o_istore K X1 d4_13 rfl (L' := #[vR b, vI 1, vR d, vI 1, vI 2, vI 1, vI c1]) rfl ?_
 refine o_iload K X1 d4_15 rfl rfl ?_
 refine o_sipush K X1 d4_17 rfl (z := 255) rfl ?_
 refine o_icmp_le_t K X1 d4_20 (by decide) (pc' := 26) (by decide) q5 ?_
 refine o_aloadN K X1 d4_26 rfl rfl rfl ?_
 refine o_iloadN K X1 d4_27 rfl rfl ?_
 refine o_iload K X1 d4_28 rfl rfl ?_
 refine o_i2b K X1 d4_30 rfl (z := (nar .byte c1)) rfl ?_
 refine o_bastore K X1 A1 (by decide) (show (1 : Int32).toNatClampNeg < 2 from (by decide)) q2 (z := (.int (nar .byte c1))) (congrArg Value.int (oNarIdembyte _)) d4_31 rfl ?_
 intro T3 h3 X3 W3 A3
 replace A3 : oArr Z h3 d kd .byte [(.int (nar .byte c0)), (.int (nar .byte c1))] := A3
 refine o_iinc K X3 d4_32 rfl rfl (L' := #[vR b, vI 2, vR d, vI 1, vI 2, vI 1, vI c1]) (by rw [show (1 : Int32) + Int32.ofInt 1 = (2 : Int32) from (by decide)]; rfl) ?_
 refine o_iinc K X3 d4_35 rfl rfl (L' := #[vR b, vI 2, vR d, vI 2, vI 2, vI 1, vI c1]) (by rw [show (1 : Int32) + Int32.ofInt 1 = (2 : Int32) from (by decide)]; rfl) ?_
 refine o_iinc K X3 d4_38 rfl rfl (L' := #[vR b, vI 2, vR d, vI 2, vI 2, vI 2, vI c1]) (by rw [show (1 : Int32) + Int32.ofInt 1 = (2 : Int32) from (by decide)]; rfl) ?_
 refine o_goto K X3 d4_41 (by decide) (pc' := 3) (by decide) ?_
 refine o_iload K X3 d4_3 rfl rfl ?_
 refine o_iload K X3 d4_5 rfl rfl ?_
 refine o_icmp_ge_t K X3 d4_7 (by decide) (pc' := 44) (by decide) (by decide) ?_
 refine o_iload K X3 d4_44 rfl rfl ?_
 refine o_ireturn K X3 d4_46 rfl ?_ (by decide) (by decide)
 exact ⟨rfl, (((Keep.refl h0 [d]).wr W1 (Or.inl me0)).wr W3 (Or.inl me0)), A3⟩
def r_cmp3_2 : Room := { frames := 1, cells := 1, slots := 2, locals := 18 }
def Q_cmp3_2 (Z : State) (b : Addr) (kb : ClassId) (c0 c1 : Int32) (h0 : Heap) (v : Option Value) (h : Heap) : Prop := ∃ r : Addr, ∃ k : ClassId, v = some (.ref r) ∧ Keep h0 h [] ∧ h0.size ≤ r ∧ oArr Z h r k .byte [(.int (nar .byte c0)), (.int (nar .byte c1))] ∧ Exa Z h r "[B"
theorem rm_cmp3_2 (l : Launch) (Z : State) (a0 : Array Value) (hw : oHw Z a0) (b : Addr) (kb : ClassId) (c0 c1 : Int32) (h0 : Heap) (q0 : oArr Z h0 b kb .char [.int c0, .int c1]) (q1 : ¬ ((255 : Int32) < c0)) (q2 : ¬ ((255 : Int32) < c1)) : oMet l Z (⟨z9, "compress", "([CII)[B"⟩ : MethodName) jdk_52_method_16_code 6 (some (.array .byte)) r_cmp3_2 [] #[.ref b, .int 0, .int 2] h0 (Q_cmp3_2 Z b kb c0 c1 h0) := by
 refine oEnter (plainFor_of_name (by first | (simp [plainName, overriddenIn]; done) | decide +kernel)) (own := z9) (nm := "compress") rfl rfl (L := #[.val (.ref b), .val (.int 0), .val (.int 2), .unset, .unset, .unset]) (fun m => by first | (simp [entryFrame, mkF, argsToLocals, Value.category]; done) | rfl) ?_
 intro pp ee ss mm bb mtd cc T0 K X0
 have E0 := X0.ext0
 refine o_iloadN K X0 d5_0 rfl rfl ?_
 refine o_newarray K X0 (aty := .byte) 2 (w33 hw) (ad := "[B") (by decide +kernel) (by decide) (by decide) (by decide) rfl d5_1 rfl (by decide) (by decide) ?_
 intro T1 h1 b1 k1 X1 g1 E1 A1 B1 G1
 replace A1 : oArr Z h1 b1 k1 .byte [.int 0, .int 0] := A1
 refine o_astoreN K X1 d5_3 rfl rfl (L' := #[vR b, vI 0, vI 2, vR b1, uS, uS]) rfl ?_
 refine o_aloadN K X1 d5_4 rfl rfl rfl ?_
 refine o_iloadN K X1 d5_5 rfl rfl ?_
 refine o_aloadN K X1 d5_6 rfl rfl rfl ?_
 refine o_iconst K X1 d5_7 rfl (z := 0) rfl ?_
 refine o_iloadN K X1 d5_8 rfl rfl ?_
 have m2 := (q0.ext E1)
 have n3 := oLz q0.lt (oLe g1)
 refine o_static K X1  (w34 hw) (w35 hw) (w31 hw) (w36 hw) (by decide) (rm_cmp5_2 l Z a0 hw b kb b1 k1 c0 c1 h1 m2 A1 G1 n3 q1 q2) (by decide) rfl (argsL := [.ref b, .int 0, .ref b1, .int 0, .int 2]) rfl (lenOf pd1 rfl) (W := 0) rfl (by decide) (by decide) (by decide) d5_9 rfl ?_
 intro v4 T4 h4 X4 U4
 obtain ⟨rfl, u4_0, u4_1⟩ := U4
 show oGoes pp ee bb ss Z T4 (mkF mm 12 _ [.int 2]) _ _ _
 refine o_istore K X4 d5_12 rfl (L' := #[vR b, vI 0, vI 2, vR b1, vI 2, uS]) rfl ?_
 refine o_iload K X4 d5_14 rfl rfl ?_
 refine o_iloadN K X4 d5_16 rfl rfl ?_
 refine o_icmp_eq_t K X4 d5_17 (by decide) (pc' := 57) (by decide) (by decide) ?_
 refine o_aloadN K X4 d5_57 rfl rfl rfl ?_
 refine o_areturn K X4 (t := (.array .byte)) d5_58 rfl rfl rfl ?_ (by decide) (by decide)
 have m5 := (B1.keep u4_0)
 exact ⟨b1, k1, rfl, (((Keep.refl h0 []).ext E1).trans u4_0 (allS (Or.inr (oLe g1)) all0)), (oLe g1), u4_1, m5⟩
def r_coder_2 : Room := { frames := 0, cells := 0, slots := 0, locals := 0 }
def Q_coder_2 (Z : State) (b : Addr) (kb : ClassId) (c0 c1 : Int32) (h0 : Heap) (v : Option Value) (h : Heap) : Prop := v = some (.int 0) ∧ h0 = h
theorem rm_coder_2 (l : Launch) (Z : State) (a0 : Array Value) (hw : oHw Z a0) (b : Addr) (kb : ClassId) (c0 c1 : Int32) (h0 : Heap) (q0 : oArr Z h0 b kb .byte [.int c0, .int c1]) : oMet l Z (⟨z9, "coderFromArrayLen", "([BI)B"⟩ : MethodName) jdk_52_method_15_code 2 (some .byte) r_coder_2 [] #[.ref b, .int 2] h0 (Q_coder_2 Z b kb c0 c1 h0) := by
 refine oEnter (plainFor_of_name (by first | (simp [plainName, overriddenIn]; done) | decide +kernel)) (own := z9) (nm := "coderFromArrayLen") rfl rfl (L := #[.val (.ref b), .val (.int 2)]) (fun m => by first | (simp [entryFrame, mkF, argsToLocals, Value.category]; done) | rfl) ?_
 intro pp ee ss mm bb mtd cc T0 K X0
 have E0 := X0.ext0
 refine o_iloadN K X0 d6_0 rfl rfl ?_
 refine o_aloadN K X0 d6_1 rfl rfl rfl ?_
 refine o_arraylength K X0 q0 (z := 2) rfl d6_2 rfl ?_
 refine o_isub K X0 d6_3 rfl (z := 0) (by decide) ?_
 refine o_bipush K X0 d6_4 rfl (z := 31) rfl ?_
 refine o_iushr K X0 d6_6 rfl (z := 0) (by decide) ?_
 refine o_i2b K X0 d6_7 rfl (z := 0) (by decide) ?_
 refine o_ireturnN K X0 .byte d6_8 rfl (by simp) (z' := 0) (by decide) ?_ (by decide) (by decide)
 exact ⟨rfl, rfl⟩
def r_str4_2 : Room := { frames := 2, cells := 1, slots := 2, locals := 35 }
def Q_str4_2 (Z : State) (a b : Addr) (kb : ClassId) (cs c0 c1 : Int32) (h0 : Heap) (v : Option Value) (h : Heap) : Prop := ∃ vb : Addr, ∃ k : ClassId, v = none ∧ Keep h0 h [a] ∧ Exa Z h a z0 ∧ Fld Z h a z0 "value" "[B" (.ref vb) ∧ Fld Z h a z0 "coder" "B" (.int 0) ∧ h0.size ≤ vb ∧ oArr Z h vb k .byte [(.int (nar .byte c0)), (.int (nar .byte c1))] ∧ Fld Z h a z0 "hash" "I" (.int 0) ∧ Fld Z h a z0 "hashIsZero" "Z" (.int 0) ∧ Exa Z h vb "[B"
theorem rm_str4_2 (l : Launch) (Z : State) (a0 : Array Value) (hw : oHw Z a0) (a b : Addr) (kb : ClassId) (cs c0 c1 : Int32) (h0 : Heap) (q0 : Exa Z h0 a z0) (q1 : Fld Z h0 a z0 "value" "[B" .null) (q2 : Fld Z h0 a z0 "coder" "B" (.int 0)) (q3 : Z.heap.size ≤ a) (q4 : Fld Z h0 a z0 "hash" "I" (.int 0)) (q5 : Fld Z h0 a z0 "hashIsZero" "Z" (.int 0)) (q6 : oArr Z h0 b kb .char [.int c0, .int c1]) (q7 : Sta Z Z.heap z0 z3 "Z" (.int cs)) (q8 : ¬ (cs = (0 : Int32))) (q9 : ¬ ((255 : Int32) < c0)) (q10 : ¬ ((255 : Int32) < c1)) : oMet l Z (⟨z0, "<init>", "([CIILjava/lang/Void;)V"⟩ : MethodName) jdk_42_method_149_code 6 none r_str4_2 [] #[.ref a, .ref b, .int 0, .int 2, .null] h0 (Q_str4_2 Z a b kb cs c0 c1 h0) := by
 refine oEnter (plainFor_of_name (by first | (simp [plainName, overriddenIn]; done) | decide +kernel)) (own := z0) (nm := "<init>") rfl rfl (L := #[.val (.ref a), .val (.ref b), .val (.int 0), .val (.int 2), .val .null, .unset]) (fun m => by first | (simp [entryFrame, mkF, argsToLocals, Value.category]; done) | rfl) ?_
 intro pp ee ss mm bb mtd cc T0 K X0
 have E0 := X0.ext0
 refine o_aloadN K X0 d7_0 rfl rfl rfl ?_
 refine o_initObj K X0 (w25 hw) (w26 hw) (w27 hw) d7_1 rfl rfl (by decide) (W := 0) rfl (by decide) ?_
 intro T1 X1
 refine o_iloadN K X1 d7_4 rfl rfl ?_
 refine o_if_ne_t K X1 d7_5 (by decide) (pc' := 27) (by decide) (by decide) ?_
 refine o_getstatic K X1 (host := "") (Or.inl (w28 hw)) Via.refl (q7.ext X1.ext0) d7_27 rfl ?_
 intro T2 X2
 refine o_if_eq_f K X2 d7_30 rfl q8 ?_
 refine o_aloadN K X2 d7_33 rfl rfl rfl ?_
 refine o_iloadN K X2 d7_34 rfl rfl ?_
 refine o_iloadN K X2 d7_35 rfl rfl ?_
 refine o_static K X2  (w29 hw) (w30 hw) (w31 hw) (w32 hw) (by decide) (rm_cmp3_2 l Z a0 hw b kb c0 c1 h0 q6 q9 q10) (by decide) rfl (argsL := [.ref b, .int 0, .int 2]) rfl (lenOf pd2 rfl) (W := 0) rfl (by decide) (by decide) (by decide) d7_36 rfl ?_
 intro v3 T3 h3 X3 U3
 obtain ⟨r_3, k_3, rfl, u3_0, u3_1, u3_2, u3_3⟩ := U3
 have G3_r : Z.heap.size ≤ r_3 := Nat.le_trans X2.ext0.1 u3_1
 show oGoes pp ee bb ss Z T3 (mkF mm 39 _ [.ref r_3]) _ _ _
 refine o_astore K X3 d7_39 rfl rfl (L' := #[vR a, vR b, vI 0, vI 2, vN, vR r_3]) rfl ?_
 refine o_aloadN K X3 d7_41 rfl rfl rfl ?_
 refine o_aload K X3 d7_42 rfl rfl rfl ?_
 refine o_iloadN K X3 d7_44 rfl rfl ?_
 refine o_static K X3  (w37 hw) (w38 hw) (w31 hw) (w39 hw) (by decide) (rm_coder_2 l Z a0 hw r_3 k_3 (nar .byte c0) (nar .byte c1) h3 u3_2) (by decide) rfl (argsL := [.ref r_3, .int 2]) rfl (lenOf pd3 rfl) (W := 1) rfl (by decide) (by decide) (by decide) d7_45 rfl ?_
 intro v4 T4 h4 X4 U4
 obtain ⟨rfl, rfl⟩ := U4
 show oGoes pp ee bb ss Z T4 (mkF mm 48 _ [.int 0, .ref a]) _ _ _
 have m6 := (q2.keep u3_0 nin0)
 have m7 := (q0.keep u3_0)
 refine o_putfieldN K X4 (w40 hw) Via.refl m6 m7 (Or.inr ⟨(w41 hw), rfl, rfl⟩) (w15 hw) (ty := .byte) (by decide) (v' := (.int 0)) (congrArg Value.int (by decide)) (oFitbyte (x := (0 : Int32)) (by decide)) q3 d7_48 rfl ?_
 intro T5 h5 X5 W5
 have F5 := Fld.same W5 m6
 refine o_aloadN K X5 d7_51 rfl rfl rfl ?_
 refine o_aload K X5 d7_52 rfl rfl rfl ?_
 have m9 := (Fld.other W5 (q1.keep u3_0 nin0) (Or.inr (slot_ne (Or.inr (w43 hw)) (Or.inr (w41 hw)) (by decide) (t := (.array .byte)) (t' := .byte) (by decide) (by decide))))
 have m10 := (Exa.wr W5 m7)
 refine o_putfield K X5 (host := "") (Or.inl (w42 hw)) Via.refl m9 m10 (Or.inr ⟨(w43 hw), rfl, rfl⟩) (w15 hw) (ty := (.array .byte)) (by decide) rfl rfl q3 d7_54 rfl ?_
 intro T8 h8 X8 W8
 have F8 := Fld.same W8 m9
 refine o_return K X8 d7_57 rfl ?_ (by decide) (by decide)
 have m11 := (Exa.wr W8 m10)
 have m12 := (Fld.other W8 F5 (Or.inr (slot_ne (Or.inr (w41 hw)) (Or.inr (w43 hw)) (by decide) (t := .byte) (t' := (.array .byte)) (by decide) (by decide))))
 have n13 := oLsz q0.lt u3_1
 have m14 := ((u3_2.other W5 n13).other W8 n13)
 have m15 := (Fld.other W8 (Fld.other W5 (q4.keep u3_0 nin0) (Or.inr (slot_ne (Or.inl (w126 hw)) (Or.inr (w41 hw)) (by decide) (t := .int) (t' := .byte) (by decide) (by decide)))) (Or.inr (slot_ne (Or.inl (w126 hw)) (Or.inr (w43 hw)) (by decide) (t := .int) (t' := (.array .byte)) (by decide) (by decide))))
 have m16 := (Fld.other W8 (Fld.other W5 (q5.keep u3_0 nin0) (Or.inr (slot_ne (Or.inl (w128 hw)) (Or.inr (w41 hw)) (by decide) (t := .boolean) (t' := .byte) (by decide) (by decide)))) (Or.inr (slot_ne (Or.inl (w128 hw)) (Or.inr (w43 hw)) (by decide) (t := .boolean) (t' := (.array .byte)) (by decide) (by decide))))
 have m17 := (Exa.wr W8 (Exa.wr W5 u3_3))
 exact ⟨r_3, k_3, rfl, ((((Keep.refl h0 [a]).trans u3_0 all0).wr W5 (Or.inl me0)).wr W8 (Or.inl me0)), m11, F8, m12, u3_1, m14, m15, m16, m17⟩
def r_str_2 : Room := { frames := 3, cells := 1, slots := 2, locals := 52 }
def Q_str_2 (Z : State) (a b : Addr) (kb : ClassId) (cs c0 c1 : Int32) (h0 : Heap) (v : Option Value) (h : Heap) : Prop := ∃ vb : Addr, ∃ k : ClassId, v = none ∧ Keep h0 h [a] ∧ Exa Z h a z0 ∧ Fld Z h a z0 "value" "[B" (.ref vb) ∧ Fld Z h a z0 "coder" "B" (.int 0) ∧ h0.size ≤ vb ∧ oArr Z h vb k .byte [(.int (nar .byte c0)), (.int (nar .byte c1))] ∧ Fld Z h a z0 "hash" "I" (.int 0) ∧ Fld Z h a z0 "hashIsZero" "Z" (.int 0) ∧ Exa Z h vb "[B"
theorem rm_str_2 (l : Launch) (Z : State) (a0 : Array Value) (hw : oHw Z a0) (a b : Addr) (kb : ClassId) (cs c0 c1 : Int32) (h0 : Heap) (q0 : Exa Z h0 a z0) (q1 : Fld Z h0 a z0 "value" "[B" .null) (q2 : Fld Z h0 a z0 "coder" "B" (.int 0)) (q3 : Z.heap.size ≤ a) (q4 : Fld Z h0 a z0 "hash" "I" (.int 0)) (q5 : Fld Z h0 a z0 "hashIsZero" "Z" (.int 0)) (q6 : oArr Z h0 b kb .char [.int c0, .int c1]) (q7 : Sta Z Z.heap z0 z3 "Z" (.int cs)) (q8 : ¬ (cs = (0 : Int32))) (q9 : ¬ ((255 : Int32) < c0)) (q10 : ¬ ((255 : Int32) < c1)) : oMet l Z (⟨z0, "<init>", "([C)V"⟩ : MethodName) jdk_42_method_3_code 2 none r_str_2 [] #[.ref a, .ref b] h0 (Q_str_2 Z a b kb cs c0 c1 h0) := by
 refine oEnter (plainFor_of_name (by first | (simp [plainName, overriddenIn]; done) | decide +kernel)) (own := z0) (nm := "<init>") rfl rfl (L := #[.val (.ref a), .val (.ref b)]) (fun m => by first | (simp [entryFrame, mkF, argsToLocals, Value.category]; done) | rfl) ?_
 intro pp ee ss mm bb mtd cc T0 K X0
 have E0 := X0.ext0
 refine o_aloadN K X0 d8_0 rfl rfl rfl ?_
 refine o_aloadN K X0 d8_1 rfl rfl rfl ?_
 refine o_iconst K X0 d8_2 rfl (z := 0) rfl ?_
 refine o_aloadN K X0 d8_3 rfl rfl rfl ?_
 refine o_arraylength K X0 q6 (z := 2) rfl d8_4 rfl ?_
 refine o_aconst_null K X0 d8_5 rfl ?_
 refine o_special K X0 (y := (⟨z0, "<init>", "([CIILjava/lang/Void;)V"⟩ : MethodName)) rfl (w21 hw) (w22 hw) (w16 hw) (w24 hw) (by decide) (rm_str4_2 l Z a0 hw a b kb cs c0 c1 h0 q0 q1 q2 q3 q4 q5 q6 q7 q8 q9 q10) (by decide) rfl (argsL := [.ref b, .int 0, .int 2, .null]) rfl (lenOf pd4 rfl) (W := 0) rfl (by decide) (by decide) (by decide) d8_6 rfl ?_
 intro v1 T1 h1 X1 U1
 obtain ⟨vb_1, k_1, rfl, u1_0, u1_1, u1_2, u1_3, u1_4, u1_5, u1_6, u1_7, u1_8⟩ := U1
 have G1_vb : Z.heap.size ≤ vb_1 := Nat.le_trans X0.ext0.1 u1_4
 show oGoes pp ee bb ss Z T1 (mkF mm 9 _ []) _ _ _
 refine o_return K X1 d8_9 rfl ?_ (by decide) (by decide)
 exact ⟨vb_1, k_1, rfl, ((Keep.refl h0 [a]).trans u1_0 (allS (Or.inl me0) all0)), u1_1, u1_2, u1_3, u1_4, u1_5, u1_6, u1_7, u1_8⟩
theorem d9_0 : decode jdk_30_method_1_code 0 = .ok (.aload_n 0, 1) := by decide +kernel
theorem d9_1 : decode jdk_30_method_1_code 1 = .ok (.invokespecial 1, 3) := by decide +kernel
theorem d9_4 : decode jdk_30_method_1_code 4 = .ok (.return_, 1) := by decide +kernel
def r_rec : Room := { frames := 1, cells := 0, slots := 0, locals := 12 }
def Q_rec (Z : State) (a : Addr) (h0 : Heap) (v : Option Value) (h : Heap) : Prop := v = none ∧ h0 = h
theorem rm_rec (l : Launch) (Z : State) (a0 : Array Value) (hw : oHw Z a0) (a : Addr) (h0 : Heap) : oMet l Z (⟨"java/lang/Record", "<init>", "()V"⟩ : MethodName) jdk_30_method_1_code 1 none r_rec [] #[.ref a] h0 (Q_rec Z a h0) := by
 refine oEnter (plainFor_of_name (by first | (simp [plainName, overriddenIn]; done) | decide +kernel)) (own := "java/lang/Record") (nm := "<init>") rfl rfl (L := #[.val (.ref a)]) (fun m => by first | (simp [entryFrame, mkF, argsToLocals, Value.category]; done) | rfl) ?_
 intro pp ee ss mm bb mtd cc T0 K X0
 have E0 := X0.ext0
 refine o_aloadN K X0 d9_0 rfl rfl rfl ?_
 refine o_initObj K X0 (w52 hw) (w26 hw) (w27 hw) d9_1 rfl rfl (by decide) (W := 0) rfl (by decide) ?_
 intro T1 X1
 refine o_return K X1 d9_4 rfl ?_ (by decide) (by decide)
 exact ⟨rfl, rfl⟩
theorem d10_0 : decode jdk_42_method_152_code 0 = .ok (.getstatic 38, 3) := by decide +kernel
theorem d10_3 : decode jdk_42_method_152_code 3 = .ok (.ifCond .eq 10, 3) := by decide +kernel
theorem d10_6 : decode jdk_42_method_152_code 6 = .ok (.aload_n 0, 1) := by decide +kernel
theorem d10_7 : decode jdk_42_method_152_code 7 = .ok (.getfield 15, 3) := by decide +kernel
theorem d10_10 : decode jdk_42_method_152_code 10 = .ok (.goto 4, 3) := by decide +kernel
theorem d10_14 : decode jdk_42_method_152_code 14 = .ok (.ireturn, 1) := by decide +kernel
def r_strcoder : Room := { frames := 0, cells := 0, slots := 0, locals := 0 }
def Q_strcoder (Z : State) (a : Addr) (cs : Int32) (h0 : Heap) (v : Option Value) (h : Heap) : Prop := v = some (.int 0) ∧ h0 = h
theorem rm_strcoder (l : Launch) (Z : State) (a0 : Array Value) (hw : oHw Z a0) (a : Addr) (cs : Int32) (h0 : Heap) (q0 : Fld Z h0 a z0 "coder" "B" (.int 0)) (q1 : Sta Z Z.heap z0 z3 "Z" (.int cs)) (q2 : ¬ (cs = (0 : Int32))) : oMet l Z (⟨z0, "coder", "()B"⟩ : MethodName) jdk_42_method_152_code 1 (some .byte) r_strcoder [] #[.ref a] h0 (Q_strcoder Z a cs h0) := by
 refine oEnter (plainFor_of_name (by first | (simp [plainName, overriddenIn]; done) | decide +kernel)) (own := z0) (nm := "coder") rfl rfl (L := #[.val (.ref a)]) (fun m => by first | (simp [entryFrame, mkF, argsToLocals, Value.category]; done) | rfl) ?_
 intro pp ee ss mm bb mtd cc T0 K X0
 have E0 := X0.ext0
 refine o_getstatic K X0 (host := "") (Or.inl (w28 hw)) Via.refl (q1.ext X0.ext0) d10_0 rfl ?_
 intro T1 X1
 refine o_if_eq_f K X1 d10_3 rfl q2 ?_
 refine o_aloadN K X1 d10_6 rfl rfl rfl ?_
 refine o_getfield K X1 (host := "") (Or.inl (w40 hw)) Via.refl q0 d10_7 rfl ?_
 intro T2 X2
 refine o_goto K X2 d10_10 (by decide) (pc' := 14) (by decide) ?_
 refine o_ireturnN K X2 .byte d10_14 rfl (by simp) (z' := 0) (by decide) ?_ (by decide) (by decide)
 exact ⟨rfl, rfl⟩
theorem d11_0 : decode jdk_42_method_154_code 0 = .ok (.getstatic 38, 3) := by decide +kernel
theorem d11_3 : decode jdk_42_method_154_code 3 = .ok (.ifCond .eq 14, 3) := by decide +kernel
theorem d11_6 : decode jdk_42_method_154_code 6 = .ok (.aload_n 0, 1) := by decide +kernel
theorem d11_7 : decode jdk_42_method_154_code 7 = .ok (.getfield 15, 3) := by decide +kernel
theorem d11_10 : decode jdk_42_method_154_code 10 = .ok (.ifCond .ne 7, 3) := by decide +kernel
theorem d11_13 : decode jdk_42_method_154_code 13 = .ok (.iconst 1, 1) := by decide +kernel
theorem d11_14 : decode jdk_42_method_154_code 14 = .ok (.goto 4, 3) := by decide +kernel
theorem d11_18 : decode jdk_42_method_154_code 18 = .ok (.ireturn, 1) := by decide +kernel
def r_strlat : Room := { frames := 0, cells := 0, slots := 0, locals := 0 }
def Q_strlat (Z : State) (a : Addr) (cs : Int32) (h0 : Heap) (v : Option Value) (h : Heap) : Prop := v = some (.int 1) ∧ h0 = h
theorem rm_strlat (l : Launch) (Z : State) (a0 : Array Value) (hw : oHw Z a0) (a : Addr) (cs : Int32) (h0 : Heap) (q0 : Fld Z h0 a z0 "coder" "B" (.int 0)) (q1 : Sta Z Z.heap z0 z3 "Z" (.int cs)) (q2 : ¬ (cs = (0 : Int32))) : oMet l Z (⟨z0, "isLatin1", "()Z"⟩ : MethodName) jdk_42_method_154_code 1 (some .boolean) r_strlat [] #[.ref a] h0 (Q_strlat Z a cs h0) := by
 refine oEnter (plainFor_of_name (by first | (simp [plainName, overriddenIn]; done) | decide +kernel)) (own := z0) (nm := "isLatin1") rfl rfl (L := #[.val (.ref a)]) (fun m => by first | (simp [entryFrame, mkF, argsToLocals, Value.category]; done) | rfl) ?_
 intro pp ee ss mm bb mtd cc T0 K X0
 have E0 := X0.ext0
 refine o_getstatic K X0 (host := "") (Or.inl (w28 hw)) Via.refl (q1.ext X0.ext0) d11_0 rfl ?_
 intro T1 X1
 refine o_if_eq_f K X1 d11_3 rfl q2 ?_
 refine o_aloadN K X1 d11_6 rfl rfl rfl ?_
 refine o_getfield K X1 (host := "") (Or.inl (w40 hw)) Via.refl q0 d11_7 rfl ?_
 intro T2 X2
 refine o_if_ne_f K X2 d11_10 rfl (by decide) ?_
 refine o_iconst K X2 d11_13 rfl (z := 1) rfl ?_
 refine o_goto K X2 d11_14 (by decide) (pc' := 18) (by decide) ?_
 refine o_ireturnN K X2 .boolean d11_18 rfl (by simp) (z' := 1) (by decide) ?_ (by decide) (by decide)
 exact ⟨rfl, rfl⟩
theorem d12_0 : decode jdk_42_method_55_code 0 = .ok (.aload_n 0, 1) := by decide +kernel
theorem d12_1 : decode jdk_42_method_55_code 1 = .ok (.getfield 9, 3) := by decide +kernel
theorem d12_4 : decode jdk_42_method_55_code 4 = .ok (.arraylength, 1) := by decide +kernel
theorem d12_5 : decode jdk_42_method_55_code 5 = .ok (.ifCond .ne 7, 3) := by decide +kernel
theorem d12_12 : decode jdk_42_method_55_code 12 = .ok (.iconst 0, 1) := by decide +kernel
theorem d12_13 : decode jdk_42_method_55_code 13 = .ok (.ireturn, 1) := by decide +kernel
def r_strem1 : Room := { frames := 0, cells := 0, slots := 0, locals := 0 }
def Q_strem1 (Z : State) (a va : Addr) (k : ClassId) (c0 : Int32) (h0 : Heap) (v : Option Value) (h : Heap) : Prop := v = some (.int 0) ∧ h0 = h
theorem rm_strem1 (l : Launch) (Z : State) (a0 : Array Value) (hw : oHw Z a0) (a va : Addr) (k : ClassId) (c0 : Int32) (h0 : Heap) (q0 : Exa Z h0 a z0) (q1 : Fld Z h0 a z0 "value" "[B" (.ref va)) (q2 : Fld Z h0 a z0 "coder" "B" (.int 0)) (q3 : oArr Z h0 va k .byte [(.int (nar .byte c0))]) : oMet l Z (⟨z0, "isEmpty", "()Z"⟩ : MethodName) jdk_42_method_55_code 1 (some .boolean) r_strem1 [] #[.ref a] h0 (Q_strem1 Z a va k c0 h0) := by
 refine oEnter (plainFor_of_name (by first | (simp [plainName, overriddenIn]; done) | decide +kernel)) (own := z0) (nm := "isEmpty") rfl rfl (L := #[.val (.ref a)]) (fun m => by first | (simp [entryFrame, mkF, argsToLocals, Value.category]; done) | rfl) ?_
 intro pp ee ss mm bb mtd cc T0 K X0
 have E0 := X0.ext0
 refine o_aloadN K X0 d12_0 rfl rfl rfl ?_
 refine o_getfield K X0 (host := "") (Or.inl (w42 hw)) Via.refl q1 d12_1 rfl ?_
 intro T1 X1
 refine o_arraylength K X1 q3 (z := 1) rfl d12_4 rfl ?_
 refine o_if_ne_t K X1 d12_5 (by decide) (pc' := 12) (by decide) (by decide) ?_
 refine o_iconst K X1 d12_12 rfl (z := 0) rfl ?_
 refine o_ireturnN K X1 .boolean d12_13 rfl (by simp) (z' := 0) (by decide) ?_ (by decide) (by decide)
 exact ⟨rfl, rfl⟩
theorem d13_0 : decode jdk_42_method_54_code 0 = .ok (.aload_n 0, 1) := by decide +kernel
theorem d13_1 : decode jdk_42_method_54_code 1 = .ok (.getfield 9, 3) := by decide +kernel
theorem d13_4 : decode jdk_42_method_54_code 4 = .ok (.arraylength, 1) := by decide +kernel
theorem d13_5 : decode jdk_42_method_54_code 5 = .ok (.aload_n 0, 1) := by decide +kernel
theorem d13_6 : decode jdk_42_method_54_code 6 = .ok (.invokevirtual 335, 3) := by decide +kernel
theorem d13_9 : decode jdk_42_method_54_code 9 = .ok (.ishr, 1) := by decide +kernel
theorem d13_10 : decode jdk_42_method_54_code 10 = .ok (.ireturn, 1) := by decide +kernel
theorem pd5 : parseMethodDescriptor "()B" = some ⟨[], some .byte⟩ := by decide +kernel
def r_strlen1 : Room := { frames := 1, cells := 0, slots := 0, locals := 13 }
def Q_strlen1 (Z : State) (a va : Addr) (k : ClassId) (c0 cs : Int32) (h0 : Heap) (v : Option Value) (h : Heap) : Prop := v = some (.int 1) ∧ h0 = h
theorem rm_strlen1 (l : Launch) (Z : State) (a0 : Array Value) (hw : oHw Z a0) (a va : Addr) (k : ClassId) (c0 cs : Int32) (h0 : Heap) (q0 : Exa Z h0 a z0) (q1 : Fld Z h0 a z0 "value" "[B" (.ref va)) (q2 : Fld Z h0 a z0 "coder" "B" (.int 0)) (q3 : oArr Z h0 va k .byte [(.int (nar .byte c0))]) (q4 : Sta Z Z.heap z0 z3 "Z" (.int cs)) (q5 : ¬ (cs = (0 : Int32))) : oMet l Z (⟨z0, "length", "()I"⟩ : MethodName) jdk_42_method_54_code 1 (some .int) r_strlen1 [] #[.ref a] h0 (Q_strlen1 Z a va k c0 cs h0) := by
 refine oEnter (plainFor_of_name (by first | (simp [plainName, overriddenIn]; done) | decide +kernel)) (own := z0) (nm := "length") rfl rfl (L := #[.val (.ref a)]) (fun m => by first | (simp [entryFrame, mkF, argsToLocals, Value.category]; done) | rfl) ?_
 intro pp ee ss mm bb mtd cc T0 K X0
 have E0 := X0.ext0
 refine o_aloadN K X0 d13_0 rfl rfl rfl ?_
 refine o_getfield K X0 (host := "") (Or.inl (w42 hw)) Via.refl q1 d13_1 rfl ?_
 intro T1 X1
 refine o_arraylength K X1 q3 (z := 1) rfl d13_4 rfl ?_
 refine o_aloadN K X1 d13_5 rfl rfl rfl ?_
 refine o_virtual K X1   (w72 hw) (w73 hw) (oNF (w75 hw)) (w75 hw) (w74 hw) (w16 hw) (w76 hw) (by decide) q0 (rm_strcoder l Z a0 hw a cs h0 q2 q4 q5) (by decide) rfl (argsL := []) rfl (lenOf pd5 rfl) (W := 1) rfl (by decide) (by decide) (by decide) d13_6 rfl ?_
 intro v2 T2 h2 X2 U2
 obtain ⟨rfl, rfl⟩ := U2
 show oGoes pp ee bb ss Z T2 (mkF mm 9 _ [.int 0, .int 1]) _ _ _
 refine o_ishr K X2 d13_9 rfl (z := 1) (by decide) ?_
 refine o_ireturn K X2 d13_10 rfl ?_ (by decide) (by decide)
 exact ⟨rfl, rfl⟩
theorem d14_0 : decode jdk_41_method_11_code 0 = .ok (.iload_n 0, 1) := by decide +kernel
theorem d14_1 : decode jdk_41_method_11_code 1 = .ok (.ifCond .lt 8, 3) := by decide +kernel
theorem d14_4 : decode jdk_41_method_11_code 4 = .ok (.iload_n 0, 1) := by decide +kernel
theorem d14_5 : decode jdk_41_method_11_code 5 = .ok (.iload_n 1, 1) := by decide +kernel
theorem d14_6 : decode jdk_41_method_11_code 6 = .ok (.if_icmp .lt 10, 3) := by decide +kernel
theorem d14_16 : decode jdk_41_method_11_code 16 = .ok (.iload_n 0, 1) := by decide +kernel
theorem d14_17 : decode jdk_41_method_11_code 17 = .ok (.ireturn, 1) := by decide +kernel
def r_pchk1_0 : Room := { frames := 0, cells := 0, slots := 0, locals := 0 }
def Q_pchk1_0 (Z : State) (fm : Value) (h0 : Heap) (v : Option Value) (h : Heap) : Prop := v = some (.int 0) ∧ h0 = h
theorem rm_pchk1_0 (l : Launch) (Z : State) (a0 : Array Value) (hw : oHw Z a0) (fm : Value) (h0 : Heap) (q0 : fm.isRef = true) : oMet l Z (⟨z4, "checkIndex", "(IILjava/util/function/BiFunction;)I"⟩ : MethodName) jdk_41_method_11_code 3 (some .int) r_pchk1_0 [] #[.int 0, .int 1, fm] h0 (Q_pchk1_0 Z fm h0) := by
 refine oEnter (plainFor_of_name (by first | (simp [plainName, overriddenIn]; done) | decide +kernel)) (own := z4) (nm := "checkIndex") rfl rfl (L := #[.val (.int 0), .val (.int 1), .val fm]) (fun m => by first | (simp [entryFrame, mkF, argsToLocals, oCat1, oCat2, oCat3, oCat4, oCatRef q0]; done) | rfl) ?_
 intro pp ee ss mm bb mtd cc T0 K X0
 have E0 := X0.ext0
 refine o_iloadN K X0 d14_0 rfl rfl ?_
 refine o_if_lt_f K X0 d14_1 rfl (by decide) ?_
 refine o_iloadN K X0 d14_4 rfl rfl ?_
 refine o_iloadN K X0 d14_5 rfl rfl ?_
 refine o_icmp_lt_t K X0 d14_6 (by decide) (pc' := 16) (by decide) (by decide) ?_
 refine o_iloadN K X0 d14_16 rfl rfl ?_
 refine o_ireturn K X0 d14_17 rfl ?_ (by decide) (by decide)
 exact ⟨rfl, rfl⟩
theorem d15_0 : decode jdk_42_method_155_code 0 = .ok (.iload_n 0, 1) := by decide +kernel
theorem d15_1 : decode jdk_42_method_155_code 1 = .ok (.iload_n 1, 1) := by decide +kernel
theorem d15_2 : decode jdk_42_method_155_code 2 = .ok (.getstatic 1053, 3) := by decide +kernel
theorem d15_5 : decode jdk_42_method_155_code 5 = .ok (.invokestatic 1059, 3) := by decide +kernel
theorem d15_8 : decode jdk_42_method_155_code 8 = .ok (.pop, 1) := by decide +kernel
theorem d15_9 : decode jdk_42_method_155_code 9 = .ok (.return_, 1) := by decide +kernel
theorem pd6 : parseMethodDescriptor "(IILjava/util/function/BiFunction;)I" = some ⟨[.int, .int, (.object "java/util/function/BiFunction")], some .int⟩ := by decide +kernel
def r_schk1_0 : Room := { frames := 1, cells := 0, slots := 0, locals := 14 }
def Q_schk1_0 (Z : State) (fm : Value) (h0 : Heap) (v : Option Value) (h : Heap) : Prop := v = none ∧ h0 = h
theorem rm_schk1_0 (l : Launch) (Z : State) (a0 : Array Value) (hw : oHw Z a0) (fm : Value) (h0 : Heap) (q0 : Sta Z Z.heap z4 z6 z7 fm) (q1 : fm.isRef = true) : oMet l Z (⟨z0, "checkIndex", "(II)V"⟩ : MethodName) jdk_42_method_155_code 2 none r_schk1_0 [] #[.int 0, .int 1] h0 (Q_schk1_0 Z fm h0) := by
 refine oEnter (plainFor_of_name (by first | (simp [plainName, overriddenIn]; done) | decide +kernel)) (own := z0) (nm := "checkIndex") rfl rfl (L := #[.val (.int 0), .val (.int 1)]) (fun m => by first | (simp [entryFrame, mkF, argsToLocals, Value.category, oCatRef q1]; done) | rfl) ?_
 intro pp ee ss mm bb mtd cc T0 K X0
 have E0 := X0.ext0
 refine o_iloadN K X0 d15_0 rfl rfl ?_
 refine o_iloadN K X0 d15_1 rfl rfl ?_
 refine o_getstatic K X0 (host := "") (Or.inl (w94 hw)) Via.refl (q0.ext X0.ext0) d15_2 rfl ?_
 intro T1 X1
 refine o_static K X1  (w96 hw) (w97 hw) (w95 hw) (w98 hw) (by decide) (rm_pchk1_0 l Z a0 hw fm h0 q1) (by decide) rfl (argsL := [.int 0, .int 1, fm]) rfl (lenOf pd6 rfl) (W := 0) rfl (by decide) (by decide) (by decide) d15_5 rfl ?_
 intro v2 T2 h2 X2 U2
 obtain ⟨rfl, rfl⟩ := U2
 show oGoes pp ee bb ss Z T2 (mkF mm 8 _ [.int 0]) _ _ _
 refine o_pop K X2 d15_8 rfl rfl ?_
 refine o_return K X2 d15_9 rfl ?_ (by decide) (by decide)
 exact ⟨rfl, rfl⟩
theorem d16_0 : decode jdk_43_method_2_code 0 = .ok (.iload_n 1, 1) := by decide +kernel
theorem d16_1 : decode jdk_43_method_2_code 1 = .ok (.aload_n 0, 1) := by decide +kernel
theorem d16_2 : decode jdk_43_method_2_code 2 = .ok (.arraylength, 1) := by decide +kernel
theorem d16_3 : decode jdk_43_method_2_code 3 = .ok (.invokestatic 9, 3) := by decide +kernel
theorem d16_6 : decode jdk_43_method_2_code 6 = .ok (.aload_n 0, 1) := by decide +kernel
theorem d16_7 : decode jdk_43_method_2_code 7 = .ok (.iload_n 1, 1) := by decide +kernel
theorem d16_8 : decode jdk_43_method_2_code 8 = .ok (.baload, 1) := by decide +kernel
theorem d16_9 : decode jdk_43_method_2_code 9 = .ok (.sipush 255, 3) := by decide +kernel
theorem d16_12 : decode jdk_43_method_2_code 12 = .ok (.iand, 1) := by decide +kernel
theorem d16_13 : decode jdk_43_method_2_code 13 = .ok (.i2c, 1) := by decide +kernel
theorem d16_14 : decode jdk_43_method_2_code 14 = .ok (.ireturn, 1) := by decide +kernel
theorem pd7 : parseMethodDescriptor "(II)V" = some ⟨[.int, .int], none⟩ := by decide +kernel
def r_lchar1_0 : Room := { frames := 2, cells := 0, slots := 0, locals := 27 }
def Q_lchar1_0 (Z : State) (va : Addr) (k : ClassId) (c0 : Int32) (fm : Value) (h0 : Heap) (v : Option Value) (h : Heap) : Prop := v = some (.int c0) ∧ h0 = h ∧ nar .char c0 = c0
theorem rm_lchar1_0 (l : Launch) (Z : State) (a0 : Array Value) (hw : oHw Z a0) (va : Addr) (k : ClassId) (c0 : Int32) (fm : Value) (h0 : Heap) (q0 : oArr Z h0 va k .byte [(.int (nar .byte c0))]) (q1 : oCh c0) (q2 : Sta Z Z.heap z4 z6 z7 fm) (q3 : fm.isRef = true) : oMet l Z (⟨"java/lang/StringLatin1", "charAt", "([BI)C"⟩ : MethodName) jdk_43_method_2_code 2 (some .char) r_lchar1_0 [] #[.ref va, .int 0] h0 (Q_lchar1_0 Z va k c0 fm h0) := by
 refine oEnter (plainFor_of_name (by first | (simp [plainName, overriddenIn]; done) | decide +kernel)) (own := "java/lang/StringLatin1") (nm := "charAt") rfl rfl (L := #[.val (.ref va), .val (.int 0)]) (fun m => by first | (simp [entryFrame, mkF, argsToLocals, Value.category, oCatRef q3]; done) | rfl) ?_
 intro pp ee ss mm bb mtd cc T0 K X0
 have E0 := X0.ext0
 refine o_iloadN K X0 d16_0 rfl rfl ?_
 refine o_aloadN K X0 d16_1 rfl rfl rfl ?_
 refine o_arraylength K X0 q0 (z := 1) rfl d16_2 rfl ?_
 refine o_static K X0  (w91 hw) (w92 hw) (w16 hw) (w93 hw) (by decide) (rm_schk1_0 l Z a0 hw fm h0 q2 q3) (by decide) rfl (argsL := [.int 0, .int 1]) rfl (lenOf pd7 rfl) (W := 0) rfl (by decide) (by decide) (by decide) d16_3 rfl ?_
 intro v1 T1 h1 X1 U1
 obtain ⟨rfl, rfl⟩ := U1
 show oGoes pp ee bb ss Z T1 (mkF mm 6 _ []) _ _ _
 refine o_aloadN K X1 d16_6 rfl rfl rfl ?_
 refine o_iloadN K X1 d16_7 rfl rfl ?_
 refine o_baload K X1 q0 (by decide) (v := (.int (nar .byte c0))) rfl d16_8 rfl ?_
 refine o_sipush K X1 d16_9 rfl (z := 255) rfl ?_
 refine o_iand K X1 d16_12 rfl (z := c0) (oBack q1) ?_
 refine o_i2c K X1 d16_13 rfl (z := c0) (oChN q1) ?_
 refine o_ireturnN K X1 .char d16_14 rfl (by simp) (z' := c0) (oChN q1) ?_ (by decide) (by decide)
 exact ⟨rfl, rfl, (oChN q1)⟩
theorem d17_0 : decode jdk_42_method_56_code 0 = .ok (.aload_n 0, 1) := by decide +kernel
theorem d17_1 : decode jdk_42_method_56_code 1 = .ok (.invokevirtual 492, 3) := by decide +kernel
theorem d17_4 : decode jdk_42_method_56_code 4 = .ok (.ifCond .eq 12, 3) := by decide +kernel
theorem d17_7 : decode jdk_42_method_56_code 7 = .ok (.aload_n 0, 1) := by decide +kernel
theorem d17_8 : decode jdk_42_method_56_code 8 = .ok (.getfield 9, 3) := by decide +kernel
theorem d17_11 : decode jdk_42_method_56_code 11 = .ok (.iload_n 1, 1) := by decide +kernel
theorem d17_12 : decode jdk_42_method_56_code 12 = .ok (.invokestatic 495, 3) := by decide +kernel
theorem d17_15 : decode jdk_42_method_56_code 15 = .ok (.ireturn, 1) := by decide +kernel
theorem pd8 : parseMethodDescriptor "()Z" = some ⟨[], some .boolean⟩ := by decide +kernel
theorem pd9 : parseMethodDescriptor "([BI)C" = some ⟨[(.array .byte), .int], some .char⟩ := by decide +kernel
def r_char1_0 : Room := { frames := 3, cells := 0, slots := 0, locals := 40 }
def Q_char1_0 (Z : State) (a va : Addr) (k : ClassId) (c0 : Int32) (fm : Value) (cs : Int32) (h0 : Heap) (v : Option Value) (h : Heap) : Prop := v = some (.int c0) ∧ h0 = h ∧ nar .char c0 = c0
theorem rm_char1_0 (l : Launch) (Z : State) (a0 : Array Value) (hw : oHw Z a0) (a va : Addr) (k : ClassId) (c0 : Int32) (fm : Value) (cs : Int32) (h0 : Heap) (q0 : Exa Z h0 a z0) (q1 : Fld Z h0 a z0 "value" "[B" (.ref va)) (q2 : Fld Z h0 a z0 "coder" "B" (.int 0)) (q3 : oArr Z h0 va k .byte [(.int (nar .byte c0))]) (q4 : oCh c0) (q5 : Sta Z Z.heap z4 z6 z7 fm) (q6 : fm.isRef = true) (q7 : Sta Z Z.heap z0 z3 "Z" (.int cs)) (q8 : ¬ (cs = (0 : Int32))) : oMet l Z (⟨z0, "charAt", "(I)C"⟩ : MethodName) jdk_42_method_56_code 2 (some .char) r_char1_0 [] #[.ref a, .int 0] h0 (Q_char1_0 Z a va k c0 fm cs h0) := by
 refine oEnter (plainFor_of_name (by first | (simp [plainName, overriddenIn]; done) | decide +kernel)) (own := z0) (nm := "charAt") rfl rfl (L := #[.val (.ref a), .val (.int 0)]) (fun m => by first | (simp [entryFrame, mkF, argsToLocals, Value.category, oCatRef q6]; done) | rfl) ?_
 intro pp ee ss mm bb mtd cc T0 K X0
 have E0 := X0.ext0
 refine o_aloadN K X0 d17_0 rfl rfl rfl ?_
 refine o_virtual K X0   (w82 hw) (w83 hw) (oNF (w85 hw)) (w85 hw) (w84 hw) (w16 hw) (w86 hw) (by decide) q0 (rm_strlat l Z a0 hw a cs h0 q2 q7 q8) (by decide) rfl (argsL := []) rfl (lenOf pd8 rfl) (W := 0) rfl (by decide) (by decide) (by decide) d17_1 rfl ?_
 intro v1 T1 h1 X1 U1
 obtain ⟨rfl, rfl⟩ := U1
 show oGoes pp ee bb ss Z T1 (mkF mm 4 _ [.int 1]) _ _ _
 refine o_if_eq_f K X1 d17_4 rfl (by decide) ?_
 refine o_aloadN K X1 d17_7 rfl rfl rfl ?_
 refine o_getfield K X1 (host := "") (Or.inl (w42 hw)) Via.refl q1 d17_8 rfl ?_
 intro T2 X2
 refine o_iloadN K X2 d17_11 rfl rfl ?_
 refine o_static K X2  (w87 hw) (w88 hw) (w89 hw) (w90 hw) (by decide) (rm_lchar1_0 l Z a0 hw va k c0 fm h0 q3 q4 q5 q6) (by decide) rfl (argsL := [.ref va, .int 0]) rfl (lenOf pd9 rfl) (W := 0) rfl (by decide) (by decide) (by decide) d17_12 rfl ?_
 intro v3 T3 h3 X3 U3
 obtain ⟨rfl, rfl, u3_1⟩ := U3
 show oGoes pp ee bb ss Z T3 (mkF mm 15 _ [.int c0]) _ _ _
 refine o_ireturnN K X3 .char d17_15 rfl (by simp) (z' := c0) u3_1 ?_ (by decide) (by decide)
 exact ⟨rfl, rfl, u3_1⟩
theorem d18_0 : decode prog_16_method_6_code 0 = .ok (.aload_n 0, 1) := by decide +kernel
theorem d18_1 : decode prog_16_method_6_code 1 = .ok (.ifnull 18, 3) := by decide +kernel
theorem d18_4 : decode prog_16_method_6_code 4 = .ok (.aload_n 0, 1) := by decide +kernel
theorem d18_5 : decode prog_16_method_6_code 5 = .ok (.invokevirtual 51, 3) := by decide +kernel
theorem d18_8 : decode prog_16_method_6_code 8 = .ok (.ifCond .ne 11, 3) := by decide +kernel
theorem d18_11 : decode prog_16_method_6_code 11 = .ok (.aload_n 0, 1) := by decide +kernel
theorem d18_12 : decode prog_16_method_6_code 12 = .ok (.invokevirtual 55, 3) := by decide +kernel
theorem d18_15 : decode prog_16_method_6_code 15 = .ok (.iload_n 1, 1) := by decide +kernel
theorem d18_16 : decode prog_16_method_6_code 16 = .ok (.if_icmp .le 5, 3) := by decide +kernel
theorem d18_21 : decode prog_16_method_6_code 21 = .ok (.iconst 0, 1) := by decide +kernel
theorem d18_22 : decode prog_16_method_6_code 22 = .ok (.istore_n 3, 1) := by decide +kernel
theorem d18_23 : decode prog_16_method_6_code 23 = .ok (.iload_n 3, 1) := by decide +kernel
theorem d18_24 : decode prog_16_method_6_code 24 = .ok (.aload_n 0, 1) := by decide +kernel
theorem d18_25 : decode prog_16_method_6_code 25 = .ok (.invokevirtual 55, 3) := by decide +kernel
theorem d18_28 : decode prog_16_method_6_code 28 = .ok (.if_icmp .ge 25, 3) := by decide +kernel
theorem d18_31 : decode prog_16_method_6_code 31 = .ok (.aload_n 2, 1) := by decide +kernel
theorem d18_32 : decode prog_16_method_6_code 32 = .ok (.aload_n 0, 1) := by decide +kernel
theorem d18_33 : decode prog_16_method_6_code 33 = .ok (.iload_n 3, 1) := by decide +kernel
theorem d18_34 : decode prog_16_method_6_code 34 = .ok (.invokevirtual 58, 3) := by decide +kernel
theorem d18_37 : decode prog_16_method_6_code 37 = .ok (.invokeinterface 62 2, 5) := by decide +kernel
theorem d18_42 : decode prog_16_method_6_code 42 = .ok (.ifCond .ne 5, 3) := by decide +kernel
theorem d18_47 : decode prog_16_method_6_code 47 = .ok (.iinc 3 1, 3) := by decide +kernel
theorem d18_50 : decode prog_16_method_6_code 50 = .ok (.goto (-27), 3) := by decide +kernel
theorem d18_53 : decode prog_16_method_6_code 53 = .ok (.iconst 1, 1) := by decide +kernel
theorem d18_54 : decode prog_16_method_6_code 54 = .ok (.ireturn, 1) := by decide +kernel
theorem pd10 : parseMethodDescriptor "()I" = some ⟨[], some .int⟩ := by decide +kernel
theorem pd11 : parseMethodDescriptor "(I)C" = some ⟨[.int], some .char⟩ := by decide +kernel
def r_made1_oSh : Room := { frames := 4, cells := 0, slots := 0, locals := 54 }
def Q_made1_oSh (Z : State) (a va : Addr) (k : ClassId) (c0 : Int32) (f : Addr) (kf : ClassId) (fm : Value) (cs : Int32) (h0 : Heap) (v : Option Value) (h : Heap) : Prop := v = some (.int 1) ∧ h0 = h
theorem rm_made1_oSh (l : Launch) (Z : State) (a0 : Array Value) (hw : oHw Z a0) (a va : Addr) (k : ClassId) (c0 : Int32) (f : Addr) (kf : ClassId) (fm : Value) (cs : Int32) (h0 : Heap) (q0 : Exa Z h0 a z0) (q1 : Fld Z h0 a z0 "value" "[B" (.ref va)) (q2 : Fld Z h0 a z0 "coder" "B" (.int 0)) (q3 : oArr Z h0 va k .byte [(.int (nar .byte c0))]) (q4 : oSh c0) (q5 : oCh c0) (q6 : Sta Z Z.heap z4 z6 z7 fm) (q7 : fm.isRef = true) (q8 : Sta Z Z.heap z0 z3 "Z" (.int cs)) (q9 : ¬ (cs = (0 : Int32))) (q10 : Jvm.LamKit.Made Z z1 oSg0 kf ∧ Jvm.LamKit.FnAt Z.heap f kf) : oMet l Z (⟨z1, "isMadeOf", z10⟩ : MethodName) prog_16_method_6_code 4 (some .boolean) r_made1_oSh [] #[.ref a, .int 64, .ref f] h0 (Q_made1_oSh Z a va k c0 f kf fm cs h0) := by
 refine oEnter (plainFor_of_name (by first | (simp [plainName, overriddenIn]; done) | decide +kernel)) (own := z1) (nm := "isMadeOf") rfl rfl (L := #[.val (.ref a), .val (.int 64), .val (.ref f), .unset]) (fun m => by first | (simp [entryFrame, mkF, argsToLocals, Value.category, oCatRef q7]; done) | rfl) ?_
 intro pp ee ss mm bb mtd cc T0 K X0
 have E0 := X0.ext0
 refine o_aloadN K X0 d18_0 rfl rfl rfl ?_
 refine o_ifnull_f K X0 d18_1 rfl ?_
 refine o_aloadN K X0 d18_4 rfl rfl rfl ?_
 refine o_virtual K X0   (w62 hw) (w63 hw) (oNF (w65 hw)) (w65 hw) (w64 hw) (w16 hw) (w66 hw) (by decide) q0 (rm_strem1 l Z a0 hw a va k c0 h0 q0 q1 q2 q3) (by decide) rfl (argsL := []) rfl (lenOf pd8 rfl) (W := 0) rfl (by decide) (by decide) (by decide) d18_5 rfl ?_
 intro v1 T1 h1 X1 U1
 obtain ⟨rfl, rfl⟩ := U1
 show oGoes pp ee bb ss Z T1 (mkF mm 8 _ [.int 0]) _ _ _
 refine o_if_ne_f K X1 d18_8 rfl (by decide) ?_
 refine o_aloadN K X1 d18_11 rfl rfl rfl ?_
 refine o_virtual K X1   (w67 hw) (w68 hw) (oNF (w70 hw)) (w70 hw) (w69 hw) (w16 hw) (w71 hw) (by decide) q0 (rm_strlen1 l Z a0 hw a va k c0 cs h0 q0 q1 q2 q3 q8 q9) (by decide) rfl (argsL := []) rfl (lenOf pd10 rfl) (W := 0) rfl (by decide) (by decide) (by decide) d18_12 rfl ?_
 intro v2 T2 h2 X2 U2
 obtain ⟨rfl, rfl⟩ := U2
 show oGoes pp ee bb ss Z T2 (mkF mm 15 _ [.int 1]) _ _ _
 refine o_iloadN K X2 d18_15 rfl rfl ?_
 refine o_icmp_le_t K X2 d18_16 (by decide) (pc' := 21) (by decide) (by decide) ?_
 refine o_iconst K X2 d18_21 rfl (z := 0) rfl ?_
 refine o_istoreN K X2 d18_22 rfl (L' := #[vR a, vI 64, vR f, vI 0]) rfl ?_
 refine o_iloadN K X2 d18_23 rfl rfl ?_
 refine o_aloadN K X2 d18_24 rfl rfl rfl ?_
 refine o_virtual K X2   (w67 hw) (w68 hw) (oNF (w70 hw)) (w70 hw) (w69 hw) (w16 hw) (w71 hw) (by decide) q0 (rm_strlen1 l Z a0 hw a va k c0 cs h0 q0 q1 q2 q3 q8 q9) (by decide) rfl (argsL := []) rfl (lenOf pd10 rfl) (W := 1) rfl (by decide) (by decide) (by decide) d18_25 rfl ?_
 intro v3 T3 h3 X3 U3
 obtain ⟨rfl, rfl⟩ := U3
 show oGoes pp ee bb ss Z T3 (mkF mm 28 _ [.int 1, .int 0]) _ _ _
 refine o_icmp_ge_f K X3 d18_28 rfl (by decide) ?_
 refine o_aloadN K X3 d18_31 rfl rfl rfl ?_
 refine o_aloadN K X3 d18_32 rfl rfl rfl ?_
 refine o_iloadN K X3 d18_33 rfl rfl ?_
 refine o_virtual K X3   (w77 hw) (w78 hw) (oNF (w80 hw)) (w80 hw) (w79 hw) (w16 hw) (w81 hw) (by decide) q0 (rm_char1_0 l Z a0 hw a va k c0 fm cs h0 q0 q1 q2 q3 q5 q6 q7 q8 q9) (by decide) rfl (argsL := [.int 0]) rfl (lenOf pd11 rfl) (W := 1) rfl (by decide) (by decide) (by decide) d18_34 rfl ?_
 intro v4 T4 h4 X4 U4
 obtain ⟨rfl, rfl, u4_1⟩ := U4
 show oGoes pp ee bb ss Z T4 (mkF mm 37 _ [.int c0, .ref f]) _ _ _
 refine o_callLam K X4 (w99 hw) (w100 hw) (w101 hw) rfl (w103 hw) (w102 hw) (w10 hw) (by decide +kernel) (by decide +kernel) (by decide) q10.1 q10.2 oFw0 oF0_0 oF0_1 oF0_4 (rm_shc1 l Z a0 hw c0 h0 q4) (fun _ _ q => ⟨_, q.1, by decide⟩) pd0 pd0 (by decide) rfl (W := 0) rfl (by decide) (by decide) (by decide) d18_37 rfl ?_
 intro v5 T5 h5 X5 U5
 obtain ⟨rfl, rfl⟩ := U5
 show oGoes pp ee bb ss Z T5 (mkF mm 42 _ [.int 1]) _ _ _
 refine o_if_ne_t K X5 d18_42 (by decide) (pc' := 47) (by decide) (by decide) ?_
 refine o_iinc K X5 d18_47 rfl rfl (L' := #[vR a, vI 64, vR f, vI 1]) (by rw [show (0 : Int32) + Int32.ofInt 1 = (1 : Int32) from (by decide)]; rfl) ?_
 refine o_goto K X5 d18_50 (by decide) (pc' := 23) (by decide) ?_
 refine o_iloadN K X5 d18_23 rfl rfl ?_
 refine o_aloadN K X5 d18_24 rfl rfl rfl ?_
 refine o_virtual K X5   (w67 hw) (w68 hw) (oNF (w70 hw)) (w70 hw) (w69 hw) (w16 hw) (w71 hw) (by decide) q0 (rm_strlen1 l Z a0 hw a va k c0 cs h0 q0 q1 q2 q3 q8 q9) (by decide) rfl (argsL := []) rfl (lenOf pd10 rfl) (W := 1) rfl (by decide) (by decide) (by decide) d18_25 rfl ?_
 intro v6 T6 h6 X6 U6
 obtain ⟨rfl, rfl⟩ := U6
 show oGoes pp ee bb ss Z T6 (mkF mm 28 _ [.int 1, .int 1]) _ _ _
 refine o_icmp_ge_t K X6 d18_28 (by decide) (pc' := 53) (by decide) (by decide) ?_
 refine o_iconst K X6 d18_53 rfl (z := 1) rfl ?_
 refine o_ireturnN K X6 .boolean d18_54 rfl (by simp) (z' := 1) (by decide) ?_ (by decide) (by decide)
 exact ⟨rfl, rfl⟩
theorem d19_0 : decode prog_16_method_4_code 0 = .ok (.aload_n 0, 1) := by decide +kernel
theorem d19_1 : decode prog_16_method_4_code 1 = .ok (.bipush 64, 2) := by decide +kernel
theorem d19_3 : decode prog_16_method_4_code 3 = .ok (.invokedynamic 42, 5) := by decide +kernel
theorem d19_8 : decode prog_16_method_4_code 8 = .ok (.invokestatic 46, 3) := by decide +kernel
theorem d19_11 : decode prog_16_method_4_code 11 = .ok (.ireturn, 1) := by decide +kernel
theorem pd12 : parseMethodDescriptor z10 = some ⟨[(.object z0), .int, (.object "java/util/function/IntPredicate")], some .boolean⟩ := by decide +kernel
def r_is1_oSh : Room := { frames := 5, cells := 0, slots := 0, locals := 3074 }
def Q_is1_oSh (Z : State) (a va : Addr) (k : ClassId) (c0 : Int32) (fm : Value) (cs : Int32) (h0 : Heap) (v : Option Value) (h : Heap) : Prop := v = some (.int 1) ∧ h0 = h
theorem rm_is1_oSh (l : Launch) (Z : State) (a0 : Array Value) (hw : oHw Z a0) (a va : Addr) (k : ClassId) (c0 : Int32) (fm : Value) (cs : Int32) (h0 : Heap) (q0 : Exa Z h0 a z0) (q1 : Fld Z h0 a z0 "value" "[B" (.ref va)) (q2 : Fld Z h0 a z0 "coder" "B" (.int 0)) (q3 : oArr Z h0 va k .byte [(.int (nar .byte c0))]) (q4 : oSh c0) (q5 : oCh c0) (q6 : Sta Z Z.heap z4 z6 z7 fm) (q7 : fm.isRef = true) (q8 : Sta Z Z.heap z0 z3 "Z" (.int cs)) (q9 : ¬ (cs = (0 : Int32))) : oMet l Z (⟨z1, "isShelfName", "(Ljava/lang/String;)Z"⟩ : MethodName) prog_16_method_4_code 1 (some .boolean) r_is1_oSh [] #[.ref a] h0 (Q_is1_oSh Z a va k c0 fm cs h0) := by
 refine oEnter (plainFor_of_name (by first | (simp [plainName, overriddenIn]; done) | decide +kernel)) (own := z1) (nm := "isShelfName") rfl rfl (L := #[.val (.ref a)]) (fun m => by first | (simp [entryFrame, mkF, argsToLocals, Value.category, oCatRef q7]; done) | rfl) ?_
 intro pp ee ss mm bb mtd cc T0 K X0
 have E0 := X0.ext0
 refine o_aloadN K X0 d19_0 rfl rfl rfl ?_
 refine o_bipush K X0 d19_1 rfl (z := 64) rfl ?_
 refine o_lambda K X0 (σ := oSg0) (w56 hw) rfl rfl d19_3 rfl rfl (W := 2) rfl (by decide) ?_
 intro f1 k1 M1 N1
 refine o_static K X0  (w59 hw) (w60 hw) (w10 hw) (w61 hw) (by decide) (rm_made1_oSh l Z a0 hw a va k c0 f1 k1 fm cs h0 q0 q1 q2 q3 q4 q5 q6 q7 q8 q9 ⟨M1, N1⟩) (by decide) rfl (argsL := [.ref a, .int 64, .ref f1]) rfl (lenOf pd12 rfl) (W := 0) rfl (by decide) (by decide) (by decide) d19_8 rfl ?_
 intro v2 T2 h2 X2 U2
 obtain ⟨rfl, rfl⟩ := U2
 show oGoes pp ee bb ss Z T2 (mkF mm 11 _ [.int 1]) _ _ _
 refine o_ireturnN K X2 .boolean d19_11 rfl (by simp) (z' := 1) (by decide) ?_ (by decide) (by decide)
 exact ⟨rfl, rfl⟩
def r_made1_oId : Room := { frames := 4, cells := 0, slots := 0, locals := 54 }
def Q_made1_oId (Z : State) (a va : Addr) (k : ClassId) (c0 : Int32) (f : Addr) (kf : ClassId) (fm : Value) (cs : Int32) (h0 : Heap) (v : Option Value) (h : Heap) : Prop := v = some (.int 1) ∧ h0 = h
theorem rm_made1_oId (l : Launch) (Z : State) (a0 : Array Value) (hw : oHw Z a0) (a va : Addr) (k : ClassId) (c0 : Int32) (f : Addr) (kf : ClassId) (fm : Value) (cs : Int32) (h0 : Heap) (q0 : Exa Z h0 a z0) (q1 : Fld Z h0 a z0 "value" "[B" (.ref va)) (q2 : Fld Z h0 a z0 "coder" "B" (.int 0)) (q3 : oArr Z h0 va k .byte [(.int (nar .byte c0))]) (q4 : oId c0) (q5 : oCh c0) (q6 : Sta Z Z.heap z4 z6 z7 fm) (q7 : fm.isRef = true) (q8 : Sta Z Z.heap z0 z3 "Z" (.int cs)) (q9 : ¬ (cs = (0 : Int32))) (q10 : Jvm.LamKit.Made Z z1 oSg1 kf ∧ Jvm.LamKit.FnAt Z.heap f kf) : oMet l Z (⟨z1, "isMadeOf", z10⟩ : MethodName) prog_16_method_6_code 4 (some .boolean) r_made1_oId [] #[.ref a, .int 128, .ref f] h0 (Q_made1_oId Z a va k c0 f kf fm cs h0) := by
 refine oEnter (plainFor_of_name (by first | (simp [plainName, overriddenIn]; done) | decide +kernel)) (own := z1) (nm := "isMadeOf") rfl rfl (L := #[.val (.ref a), .val (.int 128), .val (.ref f), .unset]) (fun m => by first | (simp [entryFrame, mkF, argsToLocals, Value.category, oCatRef q7]; done) | rfl) ?_
 intro pp ee ss mm bb mtd cc T0 K X0
 have E0 := X0.ext0
 refine o_aloadN K X0 d18_0 rfl rfl rfl ?_
 refine o_ifnull_f K X0 d18_1 rfl ?_
 refine o_aloadN K X0 d18_4 rfl rfl rfl ?_
 refine o_virtual K X0   (w62 hw) (w63 hw) (oNF (w65 hw)) (w65 hw) (w64 hw) (w16 hw) (w66 hw) (by decide) q0 (rm_strem1 l Z a0 hw a va k c0 h0 q0 q1 q2 q3) (by decide) rfl (argsL := []) rfl (lenOf pd8 rfl) (W := 0) rfl (by decide) (by decide) (by decide) d18_5 rfl ?_
 intro v1 T1 h1 X1 U1
 obtain ⟨rfl, rfl⟩ := U1
 show oGoes pp ee bb ss Z T1 (mkF mm 8 _ [.int 0]) _ _ _
 refine o_if_ne_f K X1 d18_8 rfl (by decide) ?_
 refine o_aloadN K X1 d18_11 rfl rfl rfl ?_
 refine o_virtual K X1   (w67 hw) (w68 hw) (oNF (w70 hw)) (w70 hw) (w69 hw) (w16 hw) (w71 hw) (by decide) q0 (rm_strlen1 l Z a0 hw a va k c0 cs h0 q0 q1 q2 q3 q8 q9) (by decide) rfl (argsL := []) rfl (lenOf pd10 rfl) (W := 0) rfl (by decide) (by decide) (by decide) d18_12 rfl ?_
 intro v2 T2 h2 X2 U2
 obtain ⟨rfl, rfl⟩ := U2
 show oGoes pp ee bb ss Z T2 (mkF mm 15 _ [.int 1]) _ _ _
 refine o_iloadN K X2 d18_15 rfl rfl ?_
 refine o_icmp_le_t K X2 d18_16 (by decide) (pc' := 21) (by decide) (by decide) ?_
 refine o_iconst K X2 d18_21 rfl (z := 0) rfl ?_
 refine o_istoreN K X2 d18_22 rfl (L' := #[vR a, vI 128, vR f, vI 0]) rfl ?_
 refine o_iloadN K X2 d18_23 rfl rfl ?_
 refine o_aloadN K X2 d18_24 rfl rfl rfl ?_
 refine o_virtual K X2   (w67 hw) (w68 hw) (oNF (w70 hw)) (w70 hw) (w69 hw) (w16 hw) (w71 hw) (by decide) q0 (rm_strlen1 l Z a0 hw a va k c0 cs h0 q0 q1 q2 q3 q8 q9) (by decide) rfl (argsL := []) rfl (lenOf pd10 rfl) (W := 1) rfl (by decide) (by decide) (by decide) d18_25 rfl ?_
 intro v3 T3 h3 X3 U3
 obtain ⟨rfl, rfl⟩ := U3
 show oGoes pp ee bb ss Z T3 (mkF mm 28 _ [.int 1, .int 0]) _ _ _
 refine o_icmp_ge_f K X3 d18_28 rfl (by decide) ?_
 refine o_aloadN K X3 d18_31 rfl rfl rfl ?_
 refine o_aloadN K X3 d18_32 rfl rfl rfl ?_
 refine o_iloadN K X3 d18_33 rfl rfl ?_
 refine o_virtual K X3   (w77 hw) (w78 hw) (oNF (w80 hw)) (w80 hw) (w79 hw) (w16 hw) (w81 hw) (by decide) q0 (rm_char1_0 l Z a0 hw a va k c0 fm cs h0 q0 q1 q2 q3 q5 q6 q7 q8 q9) (by decide) rfl (argsL := [.int 0]) rfl (lenOf pd11 rfl) (W := 1) rfl (by decide) (by decide) (by decide) d18_34 rfl ?_
 intro v4 T4 h4 X4 U4
 obtain ⟨rfl, rfl, u4_1⟩ := U4
 show oGoes pp ee bb ss Z T4 (mkF mm 37 _ [.int c0, .ref f]) _ _ _
 refine o_callLam K X4 (w99 hw) (w100 hw) (w101 hw) rfl (w109 hw) (w108 hw) (w10 hw) (by decide +kernel) (by decide +kernel) (by decide) q10.1 q10.2 oFw1 oF1_0 oF1_1 oF1_4 (rm_idc1 l Z a0 hw c0 h0 q4) (fun _ _ q => ⟨_, q.1, by decide⟩) pd0 pd0 (by decide) rfl (W := 0) rfl (by decide) (by decide) (by decide) d18_37 rfl ?_
 intro v5 T5 h5 X5 U5
 obtain ⟨rfl, rfl⟩ := U5
 show oGoes pp ee bb ss Z T5 (mkF mm 42 _ [.int 1]) _ _ _
 refine o_if_ne_t K X5 d18_42 (by decide) (pc' := 47) (by decide) (by decide) ?_
 refine o_iinc K X5 d18_47 rfl rfl (L' := #[vR a, vI 128, vR f, vI 1]) (by rw [show (0 : Int32) + Int32.ofInt 1 = (1 : Int32) from (by decide)]; rfl) ?_
 refine o_goto K X5 d18_50 (by decide) (pc' := 23) (by decide) ?_
 refine o_iloadN K X5 d18_23 rfl rfl ?_
 refine o_aloadN K X5 d18_24 rfl rfl rfl ?_
 refine o_virtual K X5   (w67 hw) (w68 hw) (oNF (w70 hw)) (w70 hw) (w69 hw) (w16 hw) (w71 hw) (by decide) q0 (rm_strlen1 l Z a0 hw a va k c0 cs h0 q0 q1 q2 q3 q8 q9) (by decide) rfl (argsL := []) rfl (lenOf pd10 rfl) (W := 1) rfl (by decide) (by decide) (by decide) d18_25 rfl ?_
 intro v6 T6 h6 X6 U6
 obtain ⟨rfl, rfl⟩ := U6
 show oGoes pp ee bb ss Z T6 (mkF mm 28 _ [.int 1, .int 1]) _ _ _
 refine o_icmp_ge_t K X6 d18_28 (by decide) (pc' := 53) (by decide) (by decide) ?_
 refine o_iconst K X6 d18_53 rfl (z := 1) rfl ?_
 refine o_ireturnN K X6 .boolean d18_54 rfl (by simp) (z' := 1) (by decide) ?_ (by decide) (by decide)
 exact ⟨rfl, rfl⟩
theorem d20_0 : decode prog_16_method_5_code 0 = .ok (.aload_n 0, 1) := by decide +kernel
theorem d20_1 : decode prog_16_method_5_code 1 = .ok (.sipush 128, 3) := by decide +kernel
theorem d20_4 : decode prog_16_method_5_code 4 = .ok (.invokedynamic 50, 5) := by decide +kernel
theorem d20_9 : decode prog_16_method_5_code 9 = .ok (.invokestatic 46, 3) := by decide +kernel
theorem d20_12 : decode prog_16_method_5_code 12 = .ok (.ireturn, 1) := by decide +kernel
def r_is1_oId : Room := { frames := 5, cells := 0, slots := 0, locals := 3074 }
def Q_is1_oId (Z : State) (a va : Addr) (k : ClassId) (c0 : Int32) (fm : Value) (cs : Int32) (h0 : Heap) (v : Option Value) (h : Heap) : Prop := v = some (.int 1) ∧ h0 = h
theorem rm_is1_oId (l : Launch) (Z : State) (a0 : Array Value) (hw : oHw Z a0) (a va : Addr) (k : ClassId) (c0 : Int32) (fm : Value) (cs : Int32) (h0 : Heap) (q0 : Exa Z h0 a z0) (q1 : Fld Z h0 a z0 "value" "[B" (.ref va)) (q2 : Fld Z h0 a z0 "coder" "B" (.int 0)) (q3 : oArr Z h0 va k .byte [(.int (nar .byte c0))]) (q4 : oId c0) (q5 : oCh c0) (q6 : Sta Z Z.heap z4 z6 z7 fm) (q7 : fm.isRef = true) (q8 : Sta Z Z.heap z0 z3 "Z" (.int cs)) (q9 : ¬ (cs = (0 : Int32))) : oMet l Z (⟨z1, "isRecordId", "(Ljava/lang/String;)Z"⟩ : MethodName) prog_16_method_5_code 1 (some .boolean) r_is1_oId [] #[.ref a] h0 (Q_is1_oId Z a va k c0 fm cs h0) := by
 refine oEnter (plainFor_of_name (by first | (simp [plainName, overriddenIn]; done) | decide +kernel)) (own := z1) (nm := "isRecordId") rfl rfl (L := #[.val (.ref a)]) (fun m => by first | (simp [entryFrame, mkF, argsToLocals, Value.category, oCatRef q7]; done) | rfl) ?_
 intro pp ee ss mm bb mtd cc T0 K X0
 have E0 := X0.ext0
 refine o_aloadN K X0 d20_0 rfl rfl rfl ?_
 refine o_sipush K X0 d20_1 rfl (z := 128) rfl ?_
 refine o_lambda K X0 (σ := oSg1) (w107 hw) rfl rfl d20_4 rfl rfl (W := 2) rfl (by decide) ?_
 intro f1 k1 M1 N1
 refine o_static K X0  (w59 hw) (w60 hw) (w10 hw) (w61 hw) (by decide) (rm_made1_oId l Z a0 hw a va k c0 f1 k1 fm cs h0 q0 q1 q2 q3 q4 q5 q6 q7 q8 q9 ⟨M1, N1⟩) (by decide) rfl (argsL := [.ref a, .int 128, .ref f1]) rfl (lenOf pd12 rfl) (W := 0) rfl (by decide) (by decide) (by decide) d20_9 rfl ?_
 intro v2 T2 h2 X2 U2
 obtain ⟨rfl, rfl⟩ := U2
 show oGoes pp ee bb ss Z T2 (mkF mm 12 _ [.int 1]) _ _ _
 refine o_ireturnN K X2 .boolean d20_12 rfl (by simp) (z' := 1) (by decide) ?_ (by decide) (by decide)
 exact ⟨rfl, rfl⟩
def r_strem2 : Room := { frames := 0, cells := 0, slots := 0, locals := 0 }
def Q_strem2 (Z : State) (a va : Addr) (k : ClassId) (c0 c1 : Int32) (h0 : Heap) (v : Option Value) (h : Heap) : Prop := v = some (.int 0) ∧ h0 = h
theorem rm_strem2 (l : Launch) (Z : State) (a0 : Array Value) (hw : oHw Z a0) (a va : Addr) (k : ClassId) (c0 c1 : Int32) (h0 : Heap) (q0 : Exa Z h0 a z0) (q1 : Fld Z h0 a z0 "value" "[B" (.ref va)) (q2 : Fld Z h0 a z0 "coder" "B" (.int 0)) (q3 : oArr Z h0 va k .byte [(.int (nar .byte c0)), (.int (nar .byte c1))]) : oMet l Z (⟨z0, "isEmpty", "()Z"⟩ : MethodName) jdk_42_method_55_code 1 (some .boolean) r_strem2 [] #[.ref a] h0 (Q_strem2 Z a va k c0 c1 h0) := by
 refine oEnter (plainFor_of_name (by first | (simp [plainName, overriddenIn]; done) | decide +kernel)) (own := z0) (nm := "isEmpty") rfl rfl (L := #[.val (.ref a)]) (fun m => by first | (simp [entryFrame, mkF, argsToLocals, Value.category]; done) | rfl) ?_
 intro pp ee ss mm bb mtd cc T0 K X0
 have E0 := X0.ext0
 refine o_aloadN K X0 d12_0 rfl rfl rfl ?_
 refine o_getfield K X0 (host := "") (Or.inl (w42 hw)) Via.refl q1 d12_1 rfl ?_
 intro T1 X1
 refine o_arraylength K X1 q3 (z := 2) rfl d12_4 rfl ?_
 refine o_if_ne_t K X1 d12_5 (by decide) (pc' := 12) (by decide) (by decide) ?_
 refine o_iconst K X1 d12_12 rfl (z := 0) rfl ?_
 refine o_ireturnN K X1 .boolean d12_13 rfl (by simp) (z' := 0) (by decide) ?_ (by decide) (by decide)
 exact ⟨rfl, rfl⟩
def r_strlen2 : Room := { frames := 1, cells := 0, slots := 0, locals := 13 }
def Q_strlen2 (Z : State) (a va : Addr) (k : ClassId) (c0 c1 cs : Int32) (h0 : Heap) (v : Option Value) (h : Heap) : Prop := v = some (.int 2) ∧ h0 = h
theorem rm_strlen2 (l : Launch) (Z : State) (a0 : Array Value) (hw : oHw Z a0) (a va : Addr) (k : ClassId) (c0 c1 cs : Int32) (h0 : Heap) (q0 : Exa Z h0 a z0) (q1 : Fld Z h0 a z0 "value" "[B" (.ref va)) (q2 : Fld Z h0 a z0 "coder" "B" (.int 0)) (q3 : oArr Z h0 va k .byte [(.int (nar .byte c0)), (.int (nar .byte c1))]) (q4 : Sta Z Z.heap z0 z3 "Z" (.int cs)) (q5 : ¬ (cs = (0 : Int32))) : oMet l Z (⟨z0, "length", "()I"⟩ : MethodName) jdk_42_method_54_code 1 (some .int) r_strlen2 [] #[.ref a] h0 (Q_strlen2 Z a va k c0 c1 cs h0) := by
 refine oEnter (plainFor_of_name (by first | (simp [plainName, overriddenIn]; done) | decide +kernel)) (own := z0) (nm := "length") rfl rfl (L := #[.val (.ref a)]) (fun m => by first | (simp [entryFrame, mkF, argsToLocals, Value.category]; done) | rfl) ?_
 intro pp ee ss mm bb mtd cc T0 K X0
 have E0 := X0.ext0
 refine o_aloadN K X0 d13_0 rfl rfl rfl ?_
 refine o_getfield K X0 (host := "") (Or.inl (w42 hw)) Via.refl q1 d13_1 rfl ?_
 intro T1 X1
 refine o_arraylength K X1 q3 (z := 2) rfl d13_4 rfl ?_
 refine o_aloadN K X1 d13_5 rfl rfl rfl ?_
 refine o_virtual K X1   (w72 hw) (w73 hw) (oNF (w75 hw)) (w75 hw) (w74 hw) (w16 hw) (w76 hw) (by decide) q0 (rm_strcoder l Z a0 hw a cs h0 q2 q4 q5) (by decide) rfl (argsL := []) rfl (lenOf pd5 rfl) (W := 1) rfl (by decide) (by decide) (by decide) d13_6 rfl ?_
 intro v2 T2 h2 X2 U2
 obtain ⟨rfl, rfl⟩ := U2
 show oGoes pp ee bb ss Z T2 (mkF mm 9 _ [.int 0, .int 2]) _ _ _
 refine o_ishr K X2 d13_9 rfl (z := 2) (by decide) ?_
 refine o_ireturn K X2 d13_10 rfl ?_ (by decide) (by decide)
 exact ⟨rfl, rfl⟩
def r_pchk2_0 : Room := { frames := 0, cells := 0, slots := 0, locals := 0 }
def Q_pchk2_0 (Z : State) (fm : Value) (h0 : Heap) (v : Option Value) (h : Heap) : Prop := v = some (.int 0) ∧ h0 = h
theorem rm_pchk2_0 (l : Launch) (Z : State) (a0 : Array Value) (hw : oHw Z a0) (fm : Value) (h0 : Heap) (q0 : fm.isRef = true) : oMet l Z (⟨z4, "checkIndex", "(IILjava/util/function/BiFunction;)I"⟩ : MethodName) jdk_41_method_11_code 3 (some .int) r_pchk2_0 [] #[.int 0, .int 2, fm] h0 (Q_pchk2_0 Z fm h0) := by
 refine oEnter (plainFor_of_name (by first | (simp [plainName, overriddenIn]; done) | decide +kernel)) (own := z4) (nm := "checkIndex") rfl rfl (L := #[.val (.int 0), .val (.int 2), .val fm]) (fun m => by first | (simp [entryFrame, mkF, argsToLocals, oCat1, oCat2, oCat3, oCat4, oCatRef q0]; done) | rfl) ?_
 intro pp ee ss mm bb mtd cc T0 K X0
 have E0 := X0.ext0
 refine o_iloadN K X0 d14_0 rfl rfl ?_
 refine o_if_lt_f K X0 d14_1 rfl (by decide) ?_
 refine o_iloadN K X0 d14_4 rfl rfl ?_
 refine o_iloadN K X0 d14_5 rfl rfl ?_
 refine o_icmp_lt_t K X0 d14_6 (by decide) (pc' := 16) (by decide) (by decide) ?_
 refine o_iloadN K X0 d14_16 rfl rfl ?_
 refine o_ireturn K X0 d14_17 rfl ?_ (by decide) (by decide)
 exact ⟨rfl, rfl⟩
def r_schk2_0 : Room := { frames := 1, cells := 0, slots := 0, locals := 14 }
def Q_schk2_0 (Z : State) (fm : Value) (h0 : Heap) (v : Option Value) (h : Heap) : Prop := v = none ∧ h0 = h
theorem rm_schk2_0 (l : Launch) (Z : State) (a0 : Array Value) (hw : oHw Z a0) (fm : Value) (h0 : Heap) (q0 : Sta Z Z.heap z4 z6 z7 fm) (q1 : fm.isRef = true) : oMet l Z (⟨z0, "checkIndex", "(II)V"⟩ : MethodName) jdk_42_method_155_code 2 none r_schk2_0 [] #[.int 0, .int 2] h0 (Q_schk2_0 Z fm h0) := by
 refine oEnter (plainFor_of_name (by first | (simp [plainName, overriddenIn]; done) | decide +kernel)) (own := z0) (nm := "checkIndex") rfl rfl (L := #[.val (.int 0), .val (.int 2)]) (fun m => by first | (simp [entryFrame, mkF, argsToLocals, Value.category, oCatRef q1]; done) | rfl) ?_
 intro pp ee ss mm bb mtd cc T0 K X0
 have E0 := X0.ext0
 refine o_iloadN K X0 d15_0 rfl rfl ?_
 refine o_iloadN K X0 d15_1 rfl rfl ?_
 refine o_getstatic K X0 (host := "") (Or.inl (w94 hw)) Via.refl (q0.ext X0.ext0) d15_2 rfl ?_
 intro T1 X1
 refine o_static K X1  (w96 hw) (w97 hw) (w95 hw) (w98 hw) (by decide) (rm_pchk2_0 l Z a0 hw fm h0 q1) (by decide) rfl (argsL := [.int 0, .int 2, fm]) rfl (lenOf pd6 rfl) (W := 0) rfl (by decide) (by decide) (by decide) d15_5 rfl ?_
 intro v2 T2 h2 X2 U2
 obtain ⟨rfl, rfl⟩ := U2
 show oGoes pp ee bb ss Z T2 (mkF mm 8 _ [.int 0]) _ _ _
 refine o_pop K X2 d15_8 rfl rfl ?_
 refine o_return K X2 d15_9 rfl ?_ (by decide) (by decide)
 exact ⟨rfl, rfl⟩
def r_lchar2_0 : Room := { frames := 2, cells := 0, slots := 0, locals := 27 }
def Q_lchar2_0 (Z : State) (va : Addr) (k : ClassId) (c0 c1 : Int32) (fm : Value) (h0 : Heap) (v : Option Value) (h : Heap) : Prop := v = some (.int c0) ∧ h0 = h ∧ nar .char c0 = c0
theorem rm_lchar2_0 (l : Launch) (Z : State) (a0 : Array Value) (hw : oHw Z a0) (va : Addr) (k : ClassId) (c0 c1 : Int32) (fm : Value) (h0 : Heap) (q0 : oArr Z h0 va k .byte [(.int (nar .byte c0)), (.int (nar .byte c1))]) (q1 : oCh c0) (q2 : Sta Z Z.heap z4 z6 z7 fm) (q3 : fm.isRef = true) : oMet l Z (⟨"java/lang/StringLatin1", "charAt", "([BI)C"⟩ : MethodName) jdk_43_method_2_code 2 (some .char) r_lchar2_0 [] #[.ref va, .int 0] h0 (Q_lchar2_0 Z va k c0 c1 fm h0) := by
 refine oEnter (plainFor_of_name (by first | (simp [plainName, overriddenIn]; done) | decide +kernel)) (own := "java/lang/StringLatin1") (nm := "charAt") rfl rfl (L := #[.val (.ref va), .val (.int 0)]) (fun m => by first | (simp [entryFrame, mkF, argsToLocals, Value.category, oCatRef q3]; done) | rfl) ?_
 intro pp ee ss mm bb mtd cc T0 K X0
 have E0 := X0.ext0
 refine o_iloadN K X0 d16_0 rfl rfl ?_
 refine o_aloadN K X0 d16_1 rfl rfl rfl ?_
 refine o_arraylength K X0 q0 (z := 2) rfl d16_2 rfl ?_
 refine o_static K X0  (w91 hw) (w92 hw) (w16 hw) (w93 hw) (by decide) (rm_schk2_0 l Z a0 hw fm h0 q2 q3) (by decide) rfl (argsL := [.int 0, .int 2]) rfl (lenOf pd7 rfl) (W := 0) rfl (by decide) (by decide) (by decide) d16_3 rfl ?_
 intro v1 T1 h1 X1 U1
 obtain ⟨rfl, rfl⟩ := U1
 show oGoes pp ee bb ss Z T1 (mkF mm 6 _ []) _ _ _
 refine o_aloadN K X1 d16_6 rfl rfl rfl ?_
 refine o_iloadN K X1 d16_7 rfl rfl ?_
 refine o_baload K X1 q0 (by decide) (v := (.int (nar .byte c0))) rfl d16_8 rfl ?_
 refine o_sipush K X1 d16_9 rfl (z := 255) rfl ?_
 refine o_iand K X1 d16_12 rfl (z := c0) (oBack q1) ?_
 refine o_i2c K X1 d16_13 rfl (z := c0) (oChN q1) ?_
 refine o_ireturnN K X1 .char d16_14 rfl (by simp) (z' := c0) (oChN q1) ?_ (by decide) (by decide)
 exact ⟨rfl, rfl, (oChN q1)⟩
def r_char2_0 : Room := { frames := 3, cells := 0, slots := 0, locals := 40 }
def Q_char2_0 (Z : State) (a va : Addr) (k : ClassId) (c0 c1 : Int32) (fm : Value) (cs : Int32) (h0 : Heap) (v : Option Value) (h : Heap) : Prop := v = some (.int c0) ∧ h0 = h ∧ nar .char c0 = c0
theorem rm_char2_0 (l : Launch) (Z : State) (a0 : Array Value) (hw : oHw Z a0) (a va : Addr) (k : ClassId) (c0 c1 : Int32) (fm : Value) (cs : Int32) (h0 : Heap) (q0 : Exa Z h0 a z0) (q1 : Fld Z h0 a z0 "value" "[B" (.ref va)) (q2 : Fld Z h0 a z0 "coder" "B" (.int 0)) (q3 : oArr Z h0 va k .byte [(.int (nar .byte c0)), (.int (nar .byte c1))]) (q4 : oCh c0) (q5 : Sta Z Z.heap z4 z6 z7 fm) (q6 : fm.isRef = true) (q7 : Sta Z Z.heap z0 z3 "Z" (.int cs)) (q8 : ¬ (cs = (0 : Int32))) : oMet l Z (⟨z0, "charAt", "(I)C"⟩ : MethodName) jdk_42_method_56_code 2 (some .char) r_char2_0 [] #[.ref a, .int 0] h0 (Q_char2_0 Z a va k c0 c1 fm cs h0) := by
 refine oEnter (plainFor_of_name (by first | (simp [plainName, overriddenIn]; done) | decide +kernel)) (own := z0) (nm := "charAt") rfl rfl (L := #[.val (.ref a), .val (.int 0)]) (fun m => by first | (simp [entryFrame, mkF, argsToLocals, Value.category, oCatRef q6]; done) | rfl) ?_
 intro pp ee ss mm bb mtd cc T0 K X0
 have E0 := X0.ext0
 refine o_aloadN K X0 d17_0 rfl rfl rfl ?_
 refine o_virtual K X0   (w82 hw) (w83 hw) (oNF (w85 hw)) (w85 hw) (w84 hw) (w16 hw) (w86 hw) (by decide) q0 (rm_strlat l Z a0 hw a cs h0 q2 q7 q8) (by decide) rfl (argsL := []) rfl (lenOf pd8 rfl) (W := 0) rfl (by decide) (by decide) (by decide) d17_1 rfl ?_
 intro v1 T1 h1 X1 U1
 obtain ⟨rfl, rfl⟩ := U1
 show oGoes pp ee bb ss Z T1 (mkF mm 4 _ [.int 1]) _ _ _
 refine o_if_eq_f K X1 d17_4 rfl (by decide) ?_
 refine o_aloadN K X1 d17_7 rfl rfl rfl ?_
 refine o_getfield K X1 (host := "") (Or.inl (w42 hw)) Via.refl q1 d17_8 rfl ?_
 intro T2 X2
 refine o_iloadN K X2 d17_11 rfl rfl ?_
 refine o_static K X2  (w87 hw) (w88 hw) (w89 hw) (w90 hw) (by decide) (rm_lchar2_0 l Z a0 hw va k c0 c1 fm h0 q3 q4 q5 q6) (by decide) rfl (argsL := [.ref va, .int 0]) rfl (lenOf pd9 rfl) (W := 0) rfl (by decide) (by decide) (by decide) d17_12 rfl ?_
 intro v3 T3 h3 X3 U3
 obtain ⟨rfl, rfl, u3_1⟩ := U3
 show oGoes pp ee bb ss Z T3 (mkF mm 15 _ [.int c0]) _ _ _
 refine o_ireturnN K X3 .char d17_15 rfl (by simp) (z' := c0) u3_1 ?_ (by decide) (by decide)
 exact ⟨rfl, rfl, u3_1⟩
def r_pchk2_1 : Room := { frames := 0, cells := 0, slots := 0, locals := 0 }
def Q_pchk2_1 (Z : State) (fm : Value) (h0 : Heap) (v : Option Value) (h : Heap) : Prop := v = some (.int 1) ∧ h0 = h
theorem rm_pchk2_1 (l : Launch) (Z : State) (a0 : Array Value) (hw : oHw Z a0) (fm : Value) (h0 : Heap) (q0 : fm.isRef = true) : oMet l Z (⟨z4, "checkIndex", "(IILjava/util/function/BiFunction;)I"⟩ : MethodName) jdk_41_method_11_code 3 (some .int) r_pchk2_1 [] #[.int 1, .int 2, fm] h0 (Q_pchk2_1 Z fm h0) := by
 refine oEnter (plainFor_of_name (by first | (simp [plainName, overriddenIn]; done) | decide +kernel)) (own := z4) (nm := "checkIndex") rfl rfl (L := #[.val (.int 1), .val (.int 2), .val fm]) (fun m => by first | (simp [entryFrame, mkF, argsToLocals, oCat1, oCat2, oCat3, oCat4, oCatRef q0]; done) | rfl) ?_
 intro pp ee ss mm bb mtd cc T0 K X0
 have E0 := X0.ext0
 refine o_iloadN K X0 d14_0 rfl rfl ?_
 refine o_if_lt_f K X0 d14_1 rfl (by decide) ?_
 refine o_iloadN K X0 d14_4 rfl rfl ?_
 refine o_iloadN K X0 d14_5 rfl rfl ?_
 refine o_icmp_lt_t K X0 d14_6 (by decide) (pc' := 16) (by decide) (by decide) ?_
 refine o_iloadN K X0 d14_16 rfl rfl ?_
 refine o_ireturn K X0 d14_17 rfl ?_ (by decide) (by decide)
 exact ⟨rfl, rfl⟩
def r_schk2_1 : Room := { frames := 1, cells := 0, slots := 0, locals := 14 }
def Q_schk2_1 (Z : State) (fm : Value) (h0 : Heap) (v : Option Value) (h : Heap) : Prop := v = none ∧ h0 = h
theorem rm_schk2_1 (l : Launch) (Z : State) (a0 : Array Value) (hw : oHw Z a0) (fm : Value) (h0 : Heap) (q0 : Sta Z Z.heap z4 z6 z7 fm) (q1 : fm.isRef = true) : oMet l Z (⟨z0, "checkIndex", "(II)V"⟩ : MethodName) jdk_42_method_155_code 2 none r_schk2_1 [] #[.int 1, .int 2] h0 (Q_schk2_1 Z fm h0) := by
 refine oEnter (plainFor_of_name (by first | (simp [plainName, overriddenIn]; done) | decide +kernel)) (own := z0) (nm := "checkIndex") rfl rfl (L := #[.val (.int 1), .val (.int 2)]) (fun m => by first | (simp [entryFrame, mkF, argsToLocals, Value.category, oCatRef q1]; done) | rfl) ?_
 intro pp ee ss mm bb mtd cc T0 K X0
 have E0 := X0.ext0
 refine o_iloadN K X0 d15_0 rfl rfl ?_
 refine o_iloadN K X0 d15_1 rfl rfl ?_
 refine o_getstatic K X0 (host := "") (Or.inl (w94 hw)) Via.refl (q0.ext X0.ext0) d15_2 rfl ?_
 intro T1 X1
 refine o_static K X1  (w96 hw) (w97 hw) (w95 hw) (w98 hw) (by decide) (rm_pchk2_1 l Z a0 hw fm h0 q1) (by decide) rfl (argsL := [.int 1, .int 2, fm]) rfl (lenOf pd6 rfl) (W := 0) rfl (by decide) (by decide) (by decide) d15_5 rfl ?_
 intro v2 T2 h2 X2 U2
 obtain ⟨rfl, rfl⟩ := U2
 show oGoes pp ee bb ss Z T2 (mkF mm 8 _ [.int 1]) _ _ _
 refine o_pop K X2 d15_8 rfl rfl ?_
 refine o_return K X2 d15_9 rfl ?_ (by decide) (by decide)
 exact ⟨rfl, rfl⟩
def r_lchar2_1 : Room := { frames := 2, cells := 0, slots := 0, locals := 27 }
def Q_lchar2_1 (Z : State) (va : Addr) (k : ClassId) (c0 c1 : Int32) (fm : Value) (h0 : Heap) (v : Option Value) (h : Heap) : Prop := v = some (.int c1) ∧ h0 = h ∧ nar .char c1 = c1
theorem rm_lchar2_1 (l : Launch) (Z : State) (a0 : Array Value) (hw : oHw Z a0) (va : Addr) (k : ClassId) (c0 c1 : Int32) (fm : Value) (h0 : Heap) (q0 : oArr Z h0 va k .byte [(.int (nar .byte c0)), (.int (nar .byte c1))]) (q1 : oCh c1) (q2 : Sta Z Z.heap z4 z6 z7 fm) (q3 : fm.isRef = true) : oMet l Z (⟨"java/lang/StringLatin1", "charAt", "([BI)C"⟩ : MethodName) jdk_43_method_2_code 2 (some .char) r_lchar2_1 [] #[.ref va, .int 1] h0 (Q_lchar2_1 Z va k c0 c1 fm h0) := by
 refine oEnter (plainFor_of_name (by first | (simp [plainName, overriddenIn]; done) | decide +kernel)) (own := "java/lang/StringLatin1") (nm := "charAt") rfl rfl (L := #[.val (.ref va), .val (.int 1)]) (fun m => by first | (simp [entryFrame, mkF, argsToLocals, Value.category, oCatRef q3]; done) | rfl) ?_
 intro pp ee ss mm bb mtd cc T0 K X0
 have E0 := X0.ext0
 refine o_iloadN K X0 d16_0 rfl rfl ?_
 refine o_aloadN K X0 d16_1 rfl rfl rfl ?_
 refine o_arraylength K X0 q0 (z := 2) rfl d16_2 rfl ?_
 refine o_static K X0  (w91 hw) (w92 hw) (w16 hw) (w93 hw) (by decide) (rm_schk2_1 l Z a0 hw fm h0 q2 q3) (by decide) rfl (argsL := [.int 1, .int 2]) rfl (lenOf pd7 rfl) (W := 0) rfl (by decide) (by decide) (by decide) d16_3 rfl ?_
 intro v1 T1 h1 X1 U1
 obtain ⟨rfl, rfl⟩ := U1
 show oGoes pp ee bb ss Z T1 (mkF mm 6 _ []) _ _ _
 refine o_aloadN K X1 d16_6 rfl rfl rfl ?_
 refine o_iloadN K X1 d16_7 rfl rfl ?_
 refine o_baload K X1 q0 (by decide) (v := (.int (nar .byte c1))) rfl d16_8 rfl ?_
 refine o_sipush K X1 d16_9 rfl (z := 255) rfl ?_
 refine o_iand K X1 d16_12 rfl (z := c1) (oBack q1) ?_
 refine o_i2c K X1 d16_13 rfl (z := c1) (oChN q1) ?_
 refine o_ireturnN K X1 .char d16_14 rfl (by simp) (z' := c1) (oChN q1) ?_ (by decide) (by decide)
 exact ⟨rfl, rfl, (oChN q1)⟩
def r_char2_1 : Room := { frames := 3, cells := 0, slots := 0, locals := 40 }
def Q_char2_1 (Z : State) (a va : Addr) (k : ClassId) (c0 c1 : Int32) (fm : Value) (cs : Int32) (h0 : Heap) (v : Option Value) (h : Heap) : Prop := v = some (.int c1) ∧ h0 = h ∧ nar .char c1 = c1
theorem rm_char2_1 (l : Launch) (Z : State) (a0 : Array Value) (hw : oHw Z a0) (a va : Addr) (k : ClassId) (c0 c1 : Int32) (fm : Value) (cs : Int32) (h0 : Heap) (q0 : Exa Z h0 a z0) (q1 : Fld Z h0 a z0 "value" "[B" (.ref va)) (q2 : Fld Z h0 a z0 "coder" "B" (.int 0)) (q3 : oArr Z h0 va k .byte [(.int (nar .byte c0)), (.int (nar .byte c1))]) (q4 : oCh c1) (q5 : Sta Z Z.heap z4 z6 z7 fm) (q6 : fm.isRef = true) (q7 : Sta Z Z.heap z0 z3 "Z" (.int cs)) (q8 : ¬ (cs = (0 : Int32))) : oMet l Z (⟨z0, "charAt", "(I)C"⟩ : MethodName) jdk_42_method_56_code 2 (some .char) r_char2_1 [] #[.ref a, .int 1] h0 (Q_char2_1 Z a va k c0 c1 fm cs h0) := by
 refine oEnter (plainFor_of_name (by first | (simp [plainName, overriddenIn]; done) | decide +kernel)) (own := z0) (nm := "charAt") rfl rfl (L := #[.val (.ref a), .val (.int 1)]) (fun m => by first | (simp [entryFrame, mkF, argsToLocals, Value.category, oCatRef q6]; done) | rfl) ?_
 intro pp ee ss mm bb mtd cc T0 K X0
 have E0 := X0.ext0
 refine o_aloadN K X0 d17_0 rfl rfl rfl ?_
 refine o_virtual K X0   (w82 hw) (w83 hw) (oNF (w85 hw)) (w85 hw) (w84 hw) (w16 hw) (w86 hw) (by decide) q0 (rm_strlat l Z a0 hw a cs h0 q2 q7 q8) (by decide) rfl (argsL := []) rfl (lenOf pd8 rfl) (W := 0) rfl (by decide) (by decide) (by decide) d17_1 rfl ?_
 intro v1 T1 h1 X1 U1
 obtain ⟨rfl, rfl⟩ := U1
 show oGoes pp ee bb ss Z T1 (mkF mm 4 _ [.int 1]) _ _ _
 refine o_if_eq_f K X1 d17_4 rfl (by decide) ?_
 refine o_aloadN K X1 d17_7 rfl rfl rfl ?_
 refine o_getfield K X1 (host := "") (Or.inl (w42 hw)) Via.refl q1 d17_8 rfl ?_
 intro T2 X2
 refine o_iloadN K X2 d17_11 rfl rfl ?_
 refine o_static K X2  (w87 hw) (w88 hw) (w89 hw) (w90 hw) (by decide) (rm_lchar2_1 l Z a0 hw va k c0 c1 fm h0 q3 q4 q5 q6) (by decide) rfl (argsL := [.ref va, .int 1]) rfl (lenOf pd9 rfl) (W := 0) rfl (by decide) (by decide) (by decide) d17_12 rfl ?_
 intro v3 T3 h3 X3 U3
 obtain ⟨rfl, rfl, u3_1⟩ := U3
 show oGoes pp ee bb ss Z T3 (mkF mm 15 _ [.int c1]) _ _ _
 refine o_ireturnN K X3 .char d17_15 rfl (by simp) (z' := c1) u3_1 ?_ (by decide) (by decide)
 exact ⟨rfl, rfl, u3_1⟩
def r_made2_oSh : Room := { frames := 4, cells := 0, slots := 0, locals := 54 }
def Q_made2_oSh (Z : State) (a va : Addr) (k : ClassId) (c0 c1 : Int32) (f : Addr) (kf : ClassId) (fm : Value) (cs : Int32) (h0 : Heap) (v : Option Value) (h : Heap) : Prop := v = some (.int 1) ∧ h0 = h
theorem rm_made2_oSh (l : Launch) (Z : State) (a0 : Array Value) (hw : oHw Z a0) (a va : Addr) (k : ClassId) (c0 c1 : Int32) (f : Addr) (kf : ClassId) (fm : Value) (cs : Int32) (h0 : Heap) (q0 : Exa Z h0 a z0) (q1 : Fld Z h0 a z0 "value" "[B" (.ref va)) (q2 : Fld Z h0 a z0 "coder" "B" (.int 0)) (q3 : oArr Z h0 va k .byte [(.int (nar .byte c0)), (.int (nar .byte c1))]) (q4 : oSh c0) (q5 : oSh c1) (q6 : oCh c0) (q7 : oCh c1) (q8 : Sta Z Z.heap z4 z6 z7 fm) (q9 : fm.isRef = true) (q10 : Sta Z Z.heap z0 z3 "Z" (.int cs)) (q11 : ¬ (cs = (0 : Int32))) (q12 : Jvm.LamKit.Made Z z1 oSg0 kf ∧ Jvm.LamKit.FnAt Z.heap f kf) : oMet l Z (⟨z1, "isMadeOf", z10⟩ : MethodName) prog_16_method_6_code 4 (some .boolean) r_made2_oSh [] #[.ref a, .int 64, .ref f] h0 (Q_made2_oSh Z a va k c0 c1 f kf fm cs h0) := by
 refine oEnter (plainFor_of_name (by first | (simp [plainName, overriddenIn]; done) | decide +kernel)) (own := z1) (nm := "isMadeOf") rfl rfl (L := #[.val (.ref a), .val (.int 64), .val (.ref f), .unset]) (fun m => by first | (simp [entryFrame, mkF, argsToLocals, Value.category, oCatRef q9]; done) | rfl) ?_
 intro pp ee ss mm bb mtd cc T0 K X0
 have E0 := X0.ext0
 refine o_aloadN K X0 d18_0 rfl rfl rfl ?_
 refine o_ifnull_f K X0 d18_1 rfl ?_
 refine o_aloadN K X0 d18_4 rfl rfl rfl ?_
 refine o_virtual K X0   (w62 hw) (w63 hw) (oNF (w65 hw)) (w65 hw) (w64 hw) (w16 hw) (w66 hw) (by decide) q0 (rm_strem2 l Z a0 hw a va k c0 c1 h0 q0 q1 q2 q3) (by decide) rfl (argsL := []) rfl (lenOf pd8 rfl) (W := 0) rfl (by decide) (by decide) (by decide) d18_5 rfl ?_
 intro v1 T1 h1 X1 U1
 obtain ⟨rfl, rfl⟩ := U1
 show oGoes pp ee bb ss Z T1 (mkF mm 8 _ [.int 0]) _ _ _
 refine o_if_ne_f K X1 d18_8 rfl (by decide) ?_
 refine o_aloadN K X1 d18_11 rfl rfl rfl ?_
 refine o_virtual K X1   (w67 hw) (w68 hw) (oNF (w70 hw)) (w70 hw) (w69 hw) (w16 hw) (w71 hw) (by decide) q0 (rm_strlen2 l Z a0 hw a va k c0 c1 cs h0 q0 q1 q2 q3 q10 q11) (by decide) rfl (argsL := []) rfl (lenOf pd10 rfl) (W := 0) rfl (by decide) (by decide) (by decide) d18_12 rfl ?_
 intro v2 T2 h2 X2 U2
 obtain ⟨rfl, rfl⟩ := U2
 show oGoes pp ee bb ss Z T2 (mkF mm 15 _ [.int 2]) _ _ _
 refine o_iloadN K X2 d18_15 rfl rfl ?_
 refine o_icmp_le_t K X2 d18_16 (by decide) (pc' := 21) (by decide) (by decide) ?_
 refine o_iconst K X2 d18_21 rfl (z := 0) rfl ?_
 refine o_istoreN K X2 d18_22 rfl (L' := #[vR a, vI 64, vR f, vI 0]) rfl ?_
 refine o_iloadN K X2 d18_23 rfl rfl ?_
 refine o_aloadN K X2 d18_24 rfl rfl rfl ?_
 refine o_virtual K X2   (w67 hw) (w68 hw) (oNF (w70 hw)) (w70 hw) (w69 hw) (w16 hw) (w71 hw) (by decide) q0 (rm_strlen2 l Z a0 hw a va k c0 c1 cs h0 q0 q1 q2 q3 q10 q11) (by decide) rfl (argsL := []) rfl (lenOf pd10 rfl) (W := 1) rfl (by decide) (by decide) (by decide) d18_25 rfl ?_
 intro v3 T3 h3 X3 U3
 obtain ⟨rfl, rfl⟩ := U3
 show oGoes pp ee bb ss Z T3 (mkF mm 28 _ [.int 2, .int 0]) _ _ _
 refine o_icmp_ge_f K X3 d18_28 rfl (by decide) ?_
 refine o_aloadN K X3 d18_31 rfl rfl rfl ?_
 refine o_aloadN K X3 d18_32 rfl rfl rfl ?_
 refine o_iloadN K X3 d18_33 rfl rfl ?_
 refine o_virtual K X3   (w77 hw) (w78 hw) (oNF (w80 hw)) (w80 hw) (w79 hw) (w16 hw) (w81 hw) (by decide) q0 (rm_char2_0 l Z a0 hw a va k c0 c1 fm cs h0 q0 q1 q2 q3 q6 q8 q9 q10 q11) (by decide) rfl (argsL := [.int 0]) rfl (lenOf pd11 rfl) (W := 1) rfl (by decide) (by decide) (by decide) d18_34 rfl ?_
 intro v4 T4 h4 X4 U4
 obtain ⟨rfl, rfl, u4_1⟩ := U4
 show oGoes pp ee bb ss Z T4 (mkF mm 37 _ [.int c0, .ref f]) _ _ _
 refine o_callLam K X4 (w99 hw) (w100 hw) (w101 hw) rfl (w103 hw) (w102 hw) (w10 hw) (by decide +kernel) (by decide +kernel) (by decide) q12.1 q12.2 oFw0 oF0_0 oF0_1 oF0_4 (rm_shc1 l Z a0 hw c0 h0 q4) (fun _ _ q => ⟨_, q.1, by decide⟩) pd0 pd0 (by decide) rfl (W := 0) rfl (by decide) (by decide) (by decide) d18_37 rfl ?_
 intro v5 T5 h5 X5 U5
 obtain ⟨rfl, rfl⟩ := U5
 show oGoes pp ee bb ss Z T5 (mkF mm 42 _ [.int 1]) _ _ _
 refine o_if_ne_t K X5 d18_42 (by decide) (pc' := 47) (by decide) (by decide) ?_
 refine o_iinc K X5 d18_47 rfl rfl (L' := #[vR a, vI 64, vR f, vI 1]) (by rw [show (0 : Int32) + Int32.ofInt 1 = (1 : Int32) from (by decide)]; rfl) ?_
 refine o_goto K X5 d18_50 (by decide) (pc' := 23) (by decide) ?_
 refine o_iloadN K X5 d18_23 rfl rfl ?_
 refine o_aloadN K X5 d18_24 rfl rfl rfl ?_
 refine o_virtual K X5   (w67 hw) (w68 hw) (oNF (w70 hw)) (w70 hw) (w69 hw) (w16 hw) (w71 hw) (by decide) q0 (rm_strlen2 l Z a0 hw a va k c0 c1 cs h0 q0 q1 q2 q3 q10 q11) (by decide) rfl (argsL := []) rfl (lenOf pd10 rfl) (W := 1) rfl (by decide) (by decide) (by decide) d18_25 rfl ?_
 intro v6 T6 h6 X6 U6
 obtain ⟨rfl, rfl⟩ := U6
 show oGoes pp ee bb ss Z T6 (mkF mm 28 _ [.int 2, .int 1]) _ _ _
 refine o_icmp_ge_f K X6 d18_28 rfl (by decide) ?_
 refine o_aloadN K X6 d18_31 rfl rfl rfl ?_
 refine o_aloadN K X6 d18_32 rfl rfl rfl ?_
 refine o_iloadN K X6 d18_33 rfl rfl ?_
 refine o_virtual K X6   (w77 hw) (w78 hw) (oNF (w80 hw)) (w80 hw) (w79 hw) (w16 hw) (w81 hw) (by decide) q0 (rm_char2_1 l Z a0 hw a va k c0 c1 fm cs h0 q0 q1 q2 q3 q7 q8 q9 q10 q11) (by decide) rfl (argsL := [.int 1]) rfl (lenOf pd11 rfl) (W := 1) rfl (by decide) (by decide) (by decide) d18_34 rfl ?_
 intro v7 T7 h7 X7 U7
 obtain ⟨rfl, rfl, u7_1⟩ := U7
 show oGoes pp ee bb ss Z T7 (mkF mm 37 _ [.int c1, .ref f]) _ _ _
 refine o_callLam K X7 (w99 hw) (w100 hw) (w101 hw) rfl (w103 hw) (w102 hw) (w10 hw) (by decide +kernel) (by decide +kernel) (by decide) q12.1 q12.2 oFw0 oF0_0 oF0_1 oF0_4 (rm_shc1 l Z a0 hw c1 h0 q5) (fun _ _ q => ⟨_, q.1, by decide⟩) pd0 pd0 (by decide) rfl (W := 0) rfl (by decide) (by decide) (by decide) d18_37 rfl ?_
 intro v8 T8 h8 X8 U8
 obtain ⟨rfl, rfl⟩ := U8
 show oGoes pp ee bb ss Z T8 (mkF mm 42 _ [.int 1]) _ _ _
 refine o_if_ne_t K X8 d18_42 (by decide) (pc' := 47) (by decide) (by decide) ?_
 refine o_iinc K X8 d18_47 rfl rfl (L' := #[vR a, vI 64, vR f, vI 2]) (by rw [show (1 : Int32) + Int32.ofInt 1 = (2 : Int32) from (by decide)]; rfl) ?_
 refine o_goto K X8 d18_50 (by decide) (pc' := 23) (by decide) ?_
 refine o_iloadN K X8 d18_23 rfl rfl ?_
 refine o_aloadN K X8 d18_24 rfl rfl rfl ?_
 refine o_virtual K X8   (w67 hw) (w68 hw) (oNF (w70 hw)) (w70 hw) (w69 hw) (w16 hw) (w71 hw) (by decide) q0 (rm_strlen2 l Z a0 hw a va k c0 c1 cs h0 q0 q1 q2 q3 q10 q11) (by decide) rfl (argsL := []) rfl (lenOf pd10 rfl) (W := 1) rfl (by decide) (by decide) (by decide) d18_25 rfl ?_
 intro v9 T9 h9 X9 U9
 obtain ⟨rfl, rfl⟩ := U9
 show oGoes pp ee bb ss Z T9 (mkF mm 28 _ [.int 2, .int 2]) _ _ _
 refine o_icmp_ge_t K X9 d18_28 (by decide) (pc' := 53) (by decide) (by decide) ?_
 refine o_iconst K X9 d18_53 rfl (z := 1) rfl ?_
 refine o_ireturnN K X9 .boolean d18_54 rfl (by simp) (z' := 1) (by decide) ?_ (by decide) (by decide)
 exact ⟨rfl, rfl⟩
def r_is2_oSh : Room := { frames := 5, cells := 0, slots := 0, locals := 3074 }
def Q_is2_oSh (Z : State) (a va : Addr) (k : ClassId) (c0 c1 : Int32) (fm : Value) (cs : Int32) (h0 : Heap) (v : Option Value) (h : Heap) : Prop := v = some (.int 1) ∧ h0 = h
theorem rm_is2_oSh (l : Launch) (Z : State) (a0 : Array Value) (hw : oHw Z a0) (a va : Addr) (k : ClassId) (c0 c1 : Int32) (fm : Value) (cs : Int32) (h0 : Heap) (q0 : Exa Z h0 a z0) (q1 : Fld Z h0 a z0 "value" "[B" (.ref va)) (q2 : Fld Z h0 a z0 "coder" "B" (.int 0)) (q3 : oArr Z h0 va k .byte [(.int (nar .byte c0)), (.int (nar .byte c1))]) (q4 : oSh c0) (q5 : oSh c1) (q6 : oCh c0) (q7 : oCh c1) (q8 : Sta Z Z.heap z4 z6 z7 fm) (q9 : fm.isRef = true) (q10 : Sta Z Z.heap z0 z3 "Z" (.int cs)) (q11 : ¬ (cs = (0 : Int32))) : oMet l Z (⟨z1, "isShelfName", "(Ljava/lang/String;)Z"⟩ : MethodName) prog_16_method_4_code 1 (some .boolean) r_is2_oSh [] #[.ref a] h0 (Q_is2_oSh Z a va k c0 c1 fm cs h0) := by
 refine oEnter (plainFor_of_name (by first | (simp [plainName, overriddenIn]; done) | decide +kernel)) (own := z1) (nm := "isShelfName") rfl rfl (L := #[.val (.ref a)]) (fun m => by first | (simp [entryFrame, mkF, argsToLocals, Value.category, oCatRef q9]; done) | rfl) ?_
 intro pp ee ss mm bb mtd cc T0 K X0
 have E0 := X0.ext0
 refine o_aloadN K X0 d19_0 rfl rfl rfl ?_
 refine o_bipush K X0 d19_1 rfl (z := 64) rfl ?_
 refine o_lambda K X0 (σ := oSg0) (w56 hw) rfl rfl d19_3 rfl rfl (W := 2) rfl (by decide) ?_
 intro f1 k1 M1 N1
 refine o_static K X0  (w59 hw) (w60 hw) (w10 hw) (w61 hw) (by decide) (rm_made2_oSh l Z a0 hw a va k c0 c1 f1 k1 fm cs h0 q0 q1 q2 q3 q4 q5 q6 q7 q8 q9 q10 q11 ⟨M1, N1⟩) (by decide) rfl (argsL := [.ref a, .int 64, .ref f1]) rfl (lenOf pd12 rfl) (W := 0) rfl (by decide) (by decide) (by decide) d19_8 rfl ?_
 intro v2 T2 h2 X2 U2
 obtain ⟨rfl, rfl⟩ := U2
 show oGoes pp ee bb ss Z T2 (mkF mm 11 _ [.int 1]) _ _ _
 refine o_ireturnN K X2 .boolean d19_11 rfl (by simp) (z' := 1) (by decide) ?_ (by decide) (by decide)
 exact ⟨rfl, rfl⟩
def r_made2_oId : Room := { frames := 4, cells := 0, slots := 0, locals := 54 }
def Q_made2_oId (Z : State) (a va : Addr) (k : ClassId) (c0 c1 : Int32) (f : Addr) (kf : ClassId) (fm : Value) (cs : Int32) (h0 : Heap) (v : Option Value) (h : Heap) : Prop := v = some (.int 1) ∧ h0 = h
theorem rm_made2_oId (l : Launch) (Z : State) (a0 : Array Value) (hw : oHw Z a0) (a va : Addr) (k : ClassId) (c0 c1 : Int32) (f : Addr) (kf : ClassId) (fm : Value) (cs : Int32) (h0 : Heap) (q0 : Exa Z h0 a z0) (q1 : Fld Z h0 a z0 "value" "[B" (.ref va)) (q2 : Fld Z h0 a z0 "coder" "B" (.int 0)) (q3 : oArr Z h0 va k .byte [(.int (nar .byte c0)), (.int (nar .byte c1))]) (q4 : oId c0) (q5 : oId c1) (q6 : oCh c0) (q7 : oCh c1) (q8 : Sta Z Z.heap z4 z6 z7 fm) (q9 : fm.isRef = true) (q10 : Sta Z Z.heap z0 z3 "Z" (.int cs)) (q11 : ¬ (cs = (0 : Int32))) (q12 : Jvm.LamKit.Made Z z1 oSg1 kf ∧ Jvm.LamKit.FnAt Z.heap f kf) : oMet l Z (⟨z1, "isMadeOf", z10⟩ : MethodName) prog_16_method_6_code 4 (some .boolean) r_made2_oId [] #[.ref a, .int 128, .ref f] h0 (Q_made2_oId Z a va k c0 c1 f kf fm cs h0) := by
 refine oEnter (plainFor_of_name (by first | (simp [plainName, overriddenIn]; done) | decide +kernel)) (own := z1) (nm := "isMadeOf") rfl rfl (L := #[.val (.ref a), .val (.int 128), .val (.ref f), .unset]) (fun m => by first | (simp [entryFrame, mkF, argsToLocals, Value.category, oCatRef q9]; done) | rfl) ?_
 intro pp ee ss mm bb mtd cc T0 K X0
 have E0 := X0.ext0
 refine o_aloadN K X0 d18_0 rfl rfl rfl ?_
 refine o_ifnull_f K X0 d18_1 rfl ?_
 refine o_aloadN K X0 d18_4 rfl rfl rfl ?_
 refine o_virtual K X0   (w62 hw) (w63 hw) (oNF (w65 hw)) (w65 hw) (w64 hw) (w16 hw) (w66 hw) (by decide) q0 (rm_strem2 l Z a0 hw a va k c0 c1 h0 q0 q1 q2 q3) (by decide) rfl (argsL := []) rfl (lenOf pd8 rfl) (W := 0) rfl (by decide) (by decide) (by decide) d18_5 rfl ?_
 intro v1 T1 h1 X1 U1
 obtain ⟨rfl, rfl⟩ := U1
 show oGoes pp ee bb ss Z T1 (mkF mm 8 _ [.int 0]) _ _ _
 refine o_if_ne_f K X1 d18_8 rfl (by decide) ?_
 refine o_aloadN K X1 d18_11 rfl rfl rfl ?_
 refine o_virtual K X1   (w67 hw) (w68 hw) (oNF (w70 hw)) (w70 hw) (w69 hw) (w16 hw) (w71 hw) (by decide) q0 (rm_strlen2 l Z a0 hw a va k c0 c1 cs h0 q0 q1 q2 q3 q10 q11) (by decide) rfl (argsL := []) rfl (lenOf pd10 rfl) (W := 0) rfl (by decide) (by decide) (by decide) d18_12 rfl ?_
 intro v2 T2 h2 X2 U2
 obtain ⟨rfl, rfl⟩ := U2
 show oGoes pp ee bb ss Z T2 (mkF mm 15 _ [.int 2]) _ _ _
 refine o_iloadN K X2 d18_15 rfl rfl ?_
 refine o_icmp_le_t K X2 d18_16 (by decide) (pc' := 21) (by decide) (by decide) ?_
 refine o_iconst K X2 d18_21 rfl (z := 0) rfl ?_
 refine o_istoreN K X2 d18_22 rfl (L' := #[vR a, vI 128, vR f, vI 0]) rfl ?_
 refine o_iloadN K X2 d18_23 rfl rfl ?_
 refine o_aloadN K X2 d18_24 rfl rfl rfl ?_
 refine o_virtual K X2   (w67 hw) (w68 hw) (oNF (w70 hw)) (w70 hw) (w69 hw) (w16 hw) (w71 hw) (by decide) q0 (rm_strlen2 l Z a0 hw a va k c0 c1 cs h0 q0 q1 q2 q3 q10 q11) (by decide) rfl (argsL := []) rfl (lenOf pd10 rfl) (W := 1) rfl (by decide) (by decide) (by decide) d18_25 rfl ?_
 intro v3 T3 h3 X3 U3
 obtain ⟨rfl, rfl⟩ := U3
 show oGoes pp ee bb ss Z T3 (mkF mm 28 _ [.int 2, .int 0]) _ _ _
 refine o_icmp_ge_f K X3 d18_28 rfl (by decide) ?_
 refine o_aloadN K X3 d18_31 rfl rfl rfl ?_
 refine o_aloadN K X3 d18_32 rfl rfl rfl ?_
 refine o_iloadN K X3 d18_33 rfl rfl ?_
 refine o_virtual K X3   (w77 hw) (w78 hw) (oNF (w80 hw)) (w80 hw) (w79 hw) (w16 hw) (w81 hw) (by decide) q0 (rm_char2_0 l Z a0 hw a va k c0 c1 fm cs h0 q0 q1 q2 q3 q6 q8 q9 q10 q11) (by decide) rfl (argsL := [.int 0]) rfl (lenOf pd11 rfl) (W := 1) rfl (by decide) (by decide) (by decide) d18_34 rfl ?_
 intro v4 T4 h4 X4 U4
 obtain ⟨rfl, rfl, u4_1⟩ := U4
 show oGoes pp ee bb ss Z T4 (mkF mm 37 _ [.int c0, .ref f]) _ _ _
 refine o_callLam K X4 (w99 hw) (w100 hw) (w101 hw) rfl (w109 hw) (w108 hw) (w10 hw) (by decide +kernel) (by decide +kernel) (by decide) q12.1 q12.2 oFw1 oF1_0 oF1_1 oF1_4 (rm_idc1 l Z a0 hw c0 h0 q4) (fun _ _ q => ⟨_, q.1, by decide⟩) pd0 pd0 (by decide) rfl (W := 0) rfl (by decide) (by decide) (by decide) d18_37 rfl ?_
 intro v5 T5 h5 X5 U5
 obtain ⟨rfl, rfl⟩ := U5
 show oGoes pp ee bb ss Z T5 (mkF mm 42 _ [.int 1]) _ _ _
 refine o_if_ne_t K X5 d18_42 (by decide) (pc' := 47) (by decide) (by decide) ?_
 refine o_iinc K X5 d18_47 rfl rfl (L' := #[vR a, vI 128, vR f, vI 1]) (by rw [show (0 : Int32) + Int32.ofInt 1 = (1 : Int32) from (by decide)]; rfl) ?_
 refine o_goto K X5 d18_50 (by decide) (pc' := 23) (by decide) ?_
 refine o_iloadN K X5 d18_23 rfl rfl ?_
 refine o_aloadN K X5 d18_24 rfl rfl rfl ?_
 refine o_virtual K X5   (w67 hw) (w68 hw) (oNF (w70 hw)) (w70 hw) (w69 hw) (w16 hw) (w71 hw) (by decide) q0 (rm_strlen2 l Z a0 hw a va k c0 c1 cs h0 q0 q1 q2 q3 q10 q11) (by decide) rfl (argsL := []) rfl (lenOf pd10 rfl) (W := 1) rfl (by decide) (by decide) (by decide) d18_25 rfl ?_
 intro v6 T6 h6 X6 U6
 obtain ⟨rfl, rfl⟩ := U6
 show oGoes pp ee bb ss Z T6 (mkF mm 28 _ [.int 2, .int 1]) _ _ _
 refine o_icmp_ge_f K X6 d18_28 rfl (by decide) ?_
 refine o_aloadN K X6 d18_31 rfl rfl rfl ?_
 refine o_aloadN K X6 d18_32 rfl rfl rfl ?_
 refine o_iloadN K X6 d18_33 rfl rfl ?_
 refine o_virtual K X6   (w77 hw) (w78 hw) (oNF (w80 hw)) (w80 hw) (w79 hw) (w16 hw) (w81 hw) (by decide) q0 (rm_char2_1 l Z a0 hw a va k c0 c1 fm cs h0 q0 q1 q2 q3 q7 q8 q9 q10 q11) (by decide) rfl (argsL := [.int 1]) rfl (lenOf pd11 rfl) (W := 1) rfl (by decide) (by decide) (by decide) d18_34 rfl ?_
 intro v7 T7 h7 X7 U7
 obtain ⟨rfl, rfl, u7_1⟩ := U7
 show oGoes pp ee bb ss Z T7 (mkF mm 37 _ [.int c1, .ref f]) _ _ _
 refine o_callLam K X7 (w99 hw) (w100 hw) (w101 hw) rfl (w109 hw) (w108 hw) (w10 hw) (by decide +kernel) (by decide +kernel) (by decide) q12.1 q12.2 oFw1 oF1_0 oF1_1 oF1_4 (rm_idc1 l Z a0 hw c1 h0 q5) (fun _ _ q => ⟨_, q.1, by decide⟩) pd0 pd0 (by decide) rfl (W := 0) rfl (by decide) (by decide) (by decide) d18_37 rfl ?_
 intro v8 T8 h8 X8 U8
 obtain ⟨rfl, rfl⟩ := U8
 show oGoes pp ee bb ss Z T8 (mkF mm 42 _ [.int 1]) _ _ _
 refine o_if_ne_t K X8 d18_42 (by decide) (pc' := 47) (by decide) (by decide) ?_
 refine o_iinc K X8 d18_47 rfl rfl (L' := #[vR a, vI 128, vR f, vI 2]) (by rw [show (1 : Int32) + Int32.ofInt 1 = (2 : Int32) from (by decide)]; rfl) ?_
 refine o_goto K X8 d18_50 (by decide) (pc' := 23) (by decide) ?_
 refine o_iloadN K X8 d18_23 rfl rfl ?_
 refine o_aloadN K X8 d18_24 rfl rfl rfl ?_
 refine o_virtual K X8   (w67 hw) (w68 hw) (oNF (w70 hw)) (w70 hw) (w69 hw) (w16 hw) (w71 hw) (by decide) q0 (rm_strlen2 l Z a0 hw a va k c0 c1 cs h0 q0 q1 q2 q3 q10 q11) (by decide) rfl (argsL := []) rfl (lenOf pd10 rfl) (W := 1) rfl (by decide) (by decide) (by decide) d18_25 rfl ?_
 intro v9 T9 h9 X9 U9
 obtain ⟨rfl, rfl⟩ := U9
 show oGoes pp ee bb ss Z T9 (mkF mm 28 _ [.int 2, .int 2]) _ _ _
 refine o_icmp_ge_t K X9 d18_28 (by decide) (pc' := 53) (by decide) (by decide) ?_
 refine o_iconst K X9 d18_53 rfl (z := 1) rfl ?_
 refine o_ireturnN K X9 .boolean d18_54 rfl (by simp) (z' := 1) (by decide) ?_ (by decide) (by decide)
 exact ⟨rfl, rfl⟩
def r_is2_oId : Room := { frames := 5, cells := 0, slots := 0, locals := 3074 }
def Q_is2_oId (Z : State) (a va : Addr) (k : ClassId) (c0 c1 : Int32) (fm : Value) (cs : Int32) (h0 : Heap) (v : Option Value) (h : Heap) : Prop := v = some (.int 1) ∧ h0 = h
theorem rm_is2_oId (l : Launch) (Z : State) (a0 : Array Value) (hw : oHw Z a0) (a va : Addr) (k : ClassId) (c0 c1 : Int32) (fm : Value) (cs : Int32) (h0 : Heap) (q0 : Exa Z h0 a z0) (q1 : Fld Z h0 a z0 "value" "[B" (.ref va)) (q2 : Fld Z h0 a z0 "coder" "B" (.int 0)) (q3 : oArr Z h0 va k .byte [(.int (nar .byte c0)), (.int (nar .byte c1))]) (q4 : oId c0) (q5 : oId c1) (q6 : oCh c0) (q7 : oCh c1) (q8 : Sta Z Z.heap z4 z6 z7 fm) (q9 : fm.isRef = true) (q10 : Sta Z Z.heap z0 z3 "Z" (.int cs)) (q11 : ¬ (cs = (0 : Int32))) : oMet l Z (⟨z1, "isRecordId", "(Ljava/lang/String;)Z"⟩ : MethodName) prog_16_method_5_code 1 (some .boolean) r_is2_oId [] #[.ref a] h0 (Q_is2_oId Z a va k c0 c1 fm cs h0) := by
 refine oEnter (plainFor_of_name (by first | (simp [plainName, overriddenIn]; done) | decide +kernel)) (own := z1) (nm := "isRecordId") rfl rfl (L := #[.val (.ref a)]) (fun m => by first | (simp [entryFrame, mkF, argsToLocals, Value.category, oCatRef q9]; done) | rfl) ?_
 intro pp ee ss mm bb mtd cc T0 K X0
 have E0 := X0.ext0
 refine o_aloadN K X0 d20_0 rfl rfl rfl ?_
 refine o_sipush K X0 d20_1 rfl (z := 128) rfl ?_
 refine o_lambda K X0 (σ := oSg1) (w107 hw) rfl rfl d20_4 rfl rfl (W := 2) rfl (by decide) ?_
 intro f1 k1 M1 N1
 refine o_static K X0  (w59 hw) (w60 hw) (w10 hw) (w61 hw) (by decide) (rm_made2_oId l Z a0 hw a va k c0 c1 f1 k1 fm cs h0 q0 q1 q2 q3 q4 q5 q6 q7 q8 q9 q10 q11 ⟨M1, N1⟩) (by decide) rfl (argsL := [.ref a, .int 128, .ref f1]) rfl (lenOf pd12 rfl) (W := 0) rfl (by decide) (by decide) (by decide) d20_9 rfl ?_
 intro v2 T2 h2 X2 U2
 obtain ⟨rfl, rfl⟩ := U2
 show oGoes pp ee bb ss Z T2 (mkF mm 12 _ [.int 1]) _ _ _
 refine o_ireturnN K X2 .boolean d20_12 rfl (by simp) (z' := 1) (by decide) ?_ (by decide) (by decide)
 exact ⟨rfl, rfl⟩
theorem d21_0 : decode jdk_48_method_5_code 0 = .ok (.iload_n 2, 1) := by decide +kernel
theorem d21_1 : decode jdk_48_method_5_code 1 = .ok (.iload_n 3, 1) := by decide +kernel
theorem d21_2 : decode jdk_48_method_5_code 2 = .ok (.iadd, 1) := by decide +kernel
theorem d21_3 : decode jdk_48_method_5_code 3 = .ok (.istore 4, 2) := by decide +kernel
theorem d21_5 : decode jdk_48_method_5_code 5 = .ok (.iload_n 2, 1) := by decide +kernel
theorem d21_6 : decode jdk_48_method_5_code 6 = .ok (.istore 5, 2) := by decide +kernel
theorem d21_8 : decode jdk_48_method_5_code 8 = .ok (.iload 5, 2) := by decide +kernel
theorem d21_10 : decode jdk_48_method_5_code 10 = .ok (.iload 4, 2) := by decide +kernel
theorem d21_12 : decode jdk_48_method_5_code 12 = .ok (.if_icmp .ge 23, 3) := by decide +kernel
theorem d21_15 : decode jdk_48_method_5_code 15 = .ok (.bipush 31, 2) := by decide +kernel
theorem d21_17 : decode jdk_48_method_5_code 17 = .ok (.iload_n 0, 1) := by decide +kernel
theorem d21_18 : decode jdk_48_method_5_code 18 = .ok (.imul, 1) := by decide +kernel
theorem d21_19 : decode jdk_48_method_5_code 19 = .ok (.aload_n 1, 1) := by decide +kernel
theorem d21_20 : decode jdk_48_method_5_code 20 = .ok (.iload 5, 2) := by decide +kernel
theorem d21_22 : decode jdk_48_method_5_code 22 = .ok (.baload, 1) := by decide +kernel
theorem d21_23 : decode jdk_48_method_5_code 23 = .ok (.sipush 255, 3) := by decide +kernel
theorem d21_26 : decode jdk_48_method_5_code 26 = .ok (.iand, 1) := by decide +kernel
theorem d21_27 : decode jdk_48_method_5_code 27 = .ok (.iadd, 1) := by decide +kernel
theorem d21_28 : decode jdk_48_method_5_code 28 = .ok (.istore_n 0, 1) := by decide +kernel
theorem d21_29 : decode jdk_48_method_5_code 29 = .ok (.iinc 5 1, 3) := by decide +kernel
theorem d21_32 : decode jdk_48_method_5_code 32 = .ok (.goto (-24), 3) := by decide +kernel
theorem d21_35 : decode jdk_48_method_5_code 35 = .ok (.iload_n 0, 1) := by decide +kernel
theorem d21_36 : decode jdk_48_method_5_code 36 = .ok (.ireturn, 1) := by decide +kernel
def r_shash : Room := { frames := 0, cells := 0, slots := 0, locals := 0 }
def Q_shash (Z : State) (va : Addr) (k : ClassId) (c0 c1 : Int32) (h0 : Heap) (v : Option Value) (h : Heap) : Prop := v = some (.int (((31 : Int32) * c0) + c1)) ∧ h0 = h
theorem rm_shash (l : Launch) (Z : State) (a0 : Array Value) (hw : oHw Z a0) (va : Addr) (k : ClassId) (c0 c1 : Int32) (h0 : Heap) (q0 : oArr Z h0 va k .byte [(.int (nar .byte c0)), (.int (nar .byte c1))]) (q1 : oCh c0) (q2 : oCh c1) : oMet l Z (⟨"jdk/internal/util/ArraysSupport", "signedHashCode", "(I[BII)I"⟩ : MethodName) jdk_48_method_5_code 6 (some .int) r_shash [] #[.int 0, .ref va, .int 0, .int 2] h0 (Q_shash Z va k c0 c1 h0) := by
 refine oEnter (plainFor_of_name (by first | (simp [plainName, overriddenIn]; done) | decide +kernel)) (own := "jdk/internal/util/ArraysSupport") (nm := "signedHashCode") rfl rfl (L := #[.val (.int 0), .val (.ref va), .val (.int 0), .val (.int 2), .unset, .unset]) (fun m => by first | (simp [entryFrame, mkF, argsToLocals, Value.category]; done) | rfl) ?_
 intro pp ee ss mm bb mtd cc T0 K X0
 have E0 := X0.ext0
 refine o_iloadN K X0 d21_0 rfl rfl ?_
 refine o_iloadN K X0 d21_1 rfl rfl ?_
 refine o_iadd K X0 d21_2 rfl (z := 2) (Int32.zero_add _) ?_
 refine o_istore K X0 d21_3 rfl (L' := #[vI 0, vR va, vI 0, vI 2, vI 2, uS]) rfl ?_
 refine o_iloadN K X0 d21_5 rfl rfl ?_
 refine o_istore K X0 d21_6 rfl (L' := #[vI 0, vR va, vI 0, vI 2, vI 2, vI 0]) rfl ?_
 refine o_iload K X0 d21_8 rfl rfl ?_
 refine o_iload K X0 d21_10 rfl rfl ?_
 refine o_icmp_ge_f K X0 d21_12 rfl (by decide) ?_
 refine o_bipush K X0 d21_15 rfl (z := 31) rfl ?_
 refine o_iloadN K X0 d21_17 rfl rfl ?_
 refine o_imul K X0 d21_18 rfl (z := 0) (by decide) ?_
 refine o_aloadN K X0 d21_19 rfl rfl rfl ?_
 refine o_iload K X0 d21_20 rfl rfl ?_
 refine o_baload K X0 q0 (by decide) (v := (.int (nar .byte c0))) rfl d21_22 rfl ?_
 refine o_sipush K X0 d21_23 rfl (z := 255) rfl ?_
 refine o_iand K X0 d21_26 rfl (z := c0) (oBack q1) ?_
 refine o_iadd K X0 d21_27 rfl (z := c0) (Int32.zero_add _) ?_
 refine o_istoreN K X0 d21_28 rfl (L' := #[vI c0, vR va, vI 0, vI 2, vI 2, vI 0]) rfl ?_
 refine o_iinc K X0 d21_29 rfl rfl (L' := #[vI c0, vR va, vI 0, vI 2, vI 2, vI 1]) (by rw [show (0 : Int32) + Int32.ofInt 1 = (1 : Int32) from (Int32.zero_add _)]; rfl) ?_
 refine o_goto K X0 d21_32 (by decide) (pc' := 8) (by decide) ?_
 refine o_iload K X0 d21_8 rfl rfl ?_
 refine o_iload K X0 d21_10 rfl rfl ?_
 refine o_icmp_ge_f K X0 d21_12 rfl (by decide) ?_
 refine o_bipush K X0 d21_15 rfl (z := 31) rfl ?_
 refine o_iloadN K X0 d21_17 rfl rfl ?_
 refine o_imul K X0 d21_18 rfl (z := ((31 : Int32) * c0)) rfl ?_
 refine o_aloadN K X0 d21_19 rfl rfl rfl ?_
 refine o_iload K X0 d21_20 rfl rfl ?_
 refine o_baload K X0 q0 (by decide) (v := (.int (nar .byte c1))) rfl d21_22 rfl ?_
 refine o_sipush K X0 d21_23 rfl (z := 255) rfl ?_
 refine o_iand K X0 d21_26 rfl (z := c1) (oBack q2) ?_
 refine o_iadd K X0 d21_27 rfl (z := (((31 : Int32) * c0) + c1)) rfl ?_
 refine o_istoreN K X0 d21_28 rfl (L' := #[vI (((31 : Int32) * c0) + c1), vR va, vI 0, vI 2, vI 2, vI 1]) rfl ?_
 refine o_iinc K X0 d21_29 rfl rfl (L' := #[vI (((31 : Int32) * c0) + c1), vR va, vI 0, vI 2, vI 2, vI 2]) (by rw [show (1 : Int32) + Int32.ofInt 1 = (2 : Int32) from (by decide)]; rfl) ?_
 refine o_goto K X0 d21_32 (by decide) (pc' := 8) (by decide) ?_
 refine o_iload K X0 d21_8 rfl rfl ?_
 refine o_iload K X0 d21_10 rfl rfl ?_
 refine o_icmp_ge_t K X0 d21_12 (by decide) (pc' := 35) (by decide) (by decide) ?_
 refine o_iloadN K X0 d21_35 rfl rfl ?_
 refine o_ireturn K X0 d21_36 rfl ?_ (by decide) (by decide)
 exact ⟨rfl, rfl⟩
theorem d22_0 : decode jdk_48_method_4_code 0 = .ok (.iload 4, 2) := by decide +kernel
theorem d22_2 : decode jdk_48_method_4_code 2 = .ok (.tableswitch 127 4 10 #[42, 55, 127, 127, 88, 101, 114], 42) := by decide +kernel
theorem d22_44 : decode jdk_48_method_4_code 44 = .ok (.iload_n 3, 1) := by decide +kernel
theorem d22_45 : decode jdk_48_method_4_code 45 = .ok (.aload_n 0, 1) := by decide +kernel
theorem d22_46 : decode jdk_48_method_4_code 46 = .ok (.checkcast 60, 3) := by decide +kernel
theorem d22_49 : decode jdk_48_method_4_code 49 = .ok (.iload_n 1, 1) := by decide +kernel
theorem d22_50 : decode jdk_48_method_4_code 50 = .ok (.iload_n 2, 1) := by decide +kernel
theorem d22_51 : decode jdk_48_method_4_code 51 = .ok (.invokestatic 62, 3) := by decide +kernel
theorem d22_54 : decode jdk_48_method_4_code 54 = .ok (.goto 103, 3) := by decide +kernel
theorem d22_157 : decode jdk_48_method_4_code 157 = .ok (.ireturn, 1) := by decide +kernel
theorem pd13 : parseMethodDescriptor "(I[BII)I" = some ⟨[.int, (.array .byte), .int, .int], some .int⟩ := by decide +kernel
def r_vhash : Room := { frames := 1, cells := 0, slots := 0, locals := 17 }
def Q_vhash (Z : State) (va : Addr) (k : ClassId) (c0 c1 : Int32) (h0 : Heap) (v : Option Value) (h : Heap) : Prop := v = some (.int (((31 : Int32) * c0) + c1)) ∧ h0 = h
theorem rm_vhash (l : Launch) (Z : State) (a0 : Array Value) (hw : oHw Z a0) (va : Addr) (k : ClassId) (c0 c1 : Int32) (h0 : Heap) (q0 : oArr Z h0 va k .byte [(.int (nar .byte c0)), (.int (nar .byte c1))]) (q1 : Exa Z h0 va "[B") (q2 : oCh c0) (q3 : oCh c1) : oMet l Z (⟨"jdk/internal/util/ArraysSupport", "vectorizedHashCode", "(Ljava/lang/Object;IIII)I"⟩ : MethodName) jdk_48_method_4_code 5 (some .int) r_vhash [] #[.ref va, .int 0, .int 2, .int 0, .int 4] h0 (Q_vhash Z va k c0 c1 h0) := by
 refine oEnter (plainFor_of_name (by first | (simp [plainName, overriddenIn]; done) | decide +kernel)) (own := "jdk/internal/util/ArraysSupport") (nm := "vectorizedHashCode") rfl rfl (L := #[.val (.ref va), .val (.int 0), .val (.int 2), .val (.int 0), .val (.int 4)]) (fun m => by first | (simp [entryFrame, mkF, argsToLocals, Value.category]; done) | rfl) ?_
 intro pp ee ss mm bb mtd cc T0 K X0
 have E0 := X0.ext0
 refine o_iload K X0 d22_0 rfl rfl ?_
 refine o_tswIn K X0 d22_2 (o := 42) (by decide) (by decide) (by decide) (pc' := 44) (by decide) ?_
 refine o_iloadN K X0 d22_44 rfl rfl ?_
 refine o_aloadN K X0 d22_45 rfl rfl rfl ?_
 refine o_checkcast K X0 (w136 hw) (Ins.self q1) d22_46 rfl ?_
 intro T1 X1
 refine o_iloadN K X1 d22_49 rfl rfl ?_
 refine o_iloadN K X1 d22_50 rfl rfl ?_
 refine o_static K X1  (w138 hw) (w139 hw) (w134 hw) (w140 hw) (by decide) (rm_shash l Z a0 hw va k c0 c1 h0 q0 q2 q3) (by decide) rfl (argsL := [.int 0, .ref va, .int 0, .int 2]) rfl (lenOf pd13 rfl) (W := 0) rfl (by decide) (by decide) (by decide) d22_51 rfl ?_
 intro v2 T2 h2 X2 U2
 obtain ⟨rfl, rfl⟩ := U2
 show oGoes pp ee bb ss Z T2 (mkF mm 54 _ [(.int (((31 : Int32) * c0) + c1))]) _ _ _
 refine o_goto K X2 d22_54 (by decide) (pc' := 157) (by decide) ?_
 refine o_ireturn K X2 d22_157 rfl ?_ (by decide) (by decide)
 exact ⟨rfl, rfl⟩
theorem d23_0 : decode jdk_43_method_21_code 0 = .ok (.aload_n 0, 1) := by decide +kernel
theorem d23_1 : decode jdk_43_method_21_code 1 = .ok (.arraylength, 1) := by decide +kernel
theorem d23_2 : decode jdk_43_method_21_code 2 = .ok (.lookupswitch 40 #[(0, 26), (1, 30)], 26) := by decide +kernel
theorem d23_32 : decode jdk_43_method_21_code 32 = .ok (.aload_n 0, 1) := by decide +kernel
theorem d23_33 : decode jdk_43_method_21_code 33 = .ok (.iconst 0, 1) := by decide +kernel
theorem d23_34 : decode jdk_43_method_21_code 34 = .ok (.baload, 1) := by decide +kernel
theorem d23_35 : decode jdk_43_method_21_code 35 = .ok (.sipush 255, 3) := by decide +kernel
theorem d23_38 : decode jdk_43_method_21_code 38 = .ok (.iand, 1) := by decide +kernel
theorem d23_39 : decode jdk_43_method_21_code 39 = .ok (.goto 12, 3) := by decide +kernel
theorem d23_51 : decode jdk_43_method_21_code 51 = .ok (.ireturn, 1) := by decide +kernel
def r_lhash1 : Room := { frames := 0, cells := 0, slots := 0, locals := 0 }
def Q_lhash1 (Z : State) (va : Addr) (k : ClassId) (c0 : Int32) (h0 : Heap) (v : Option Value) (h : Heap) : Prop := v = some (.int c0) ∧ h0 = h
theorem rm_lhash1 (l : Launch) (Z : State) (a0 : Array Value) (hw : oHw Z a0) (va : Addr) (k : ClassId) (c0 : Int32) (h0 : Heap) (q0 : oArr Z h0 va k .byte [(.int (nar .byte c0))]) (q1 : Exa Z h0 va "[B") (q2 : oCh c0) : oMet l Z (⟨"java/lang/StringLatin1", "hashCode", "([B)I"⟩ : MethodName) jdk_43_method_21_code 1 (some .int) r_lhash1 [] #[.ref va] h0 (Q_lhash1 Z va k c0 h0) := by
 refine oEnter (plainFor_of_name (by first | (simp [plainName, overriddenIn]; done) | decide +kernel)) (own := "java/lang/StringLatin1") (nm := "hashCode") rfl rfl (L := #[.val (.ref va)]) (fun m => by first | (simp [entryFrame, mkF, argsToLocals, Value.category]; done) | rfl) ?_
 intro pp ee ss mm bb mtd cc T0 K X0
 have E0 := X0.ext0
 refine o_aloadN K X0 d23_0 rfl rfl rfl ?_
 refine o_arraylength K X0 q0 (z := 1) rfl d23_1 rfl ?_
 refine o_lswHit K X0 d23_2 (v := 1) (by decide) (o := 30) (by decide) (by decide) (by decide) (pc' := 32) (by decide) ?_
 refine o_aloadN K X0 d23_32 rfl rfl rfl ?_
 refine o_iconst K X0 d23_33 rfl (z := 0) rfl ?_
 refine o_baload K X0 q0 (by decide) (v := (.int (nar .byte c0))) rfl d23_34 rfl ?_
 refine o_sipush K X0 d23_35 rfl (z := 255) rfl ?_
 refine o_iand K X0 d23_38 rfl (z := c0) (oBack q2) ?_
 refine o_goto K X0 d23_39 (by decide) (pc' := 51) (by decide) ?_
 refine o_ireturn K X0 d23_51 rfl ?_ (by decide) (by decide)
 exact ⟨rfl, rfl⟩
theorem d24_0 : decode jdk_42_method_78_code 0 = .ok (.aload_n 0, 1) := by decide +kernel
theorem d24_1 : decode jdk_42_method_78_code 1 = .ok (.getfield 19, 3) := by decide +kernel
theorem d24_4 : decode jdk_42_method_78_code 4 = .ok (.istore_n 1, 1) := by decide +kernel
theorem d24_5 : decode jdk_42_method_78_code 5 = .ok (.iload_n 1, 1) := by decide +kernel
theorem d24_6 : decode jdk_42_method_78_code 6 = .ok (.ifCond .ne 52, 3) := by decide +kernel
theorem d24_9 : decode jdk_42_method_78_code 9 = .ok (.aload_n 0, 1) := by decide +kernel
theorem d24_10 : decode jdk_42_method_78_code 10 = .ok (.getfield 23, 3) := by decide +kernel
theorem d24_13 : decode jdk_42_method_78_code 13 = .ok (.ifCond .ne 45, 3) := by decide +kernel
theorem d24_16 : decode jdk_42_method_78_code 16 = .ok (.aload_n 0, 1) := by decide +kernel
theorem d24_17 : decode jdk_42_method_78_code 17 = .ok (.invokevirtual 492, 3) := by decide +kernel
theorem d24_20 : decode jdk_42_method_78_code 20 = .ok (.ifCond .eq 13, 3) := by decide +kernel
theorem d24_23 : decode jdk_42_method_78_code 23 = .ok (.aload_n 0, 1) := by decide +kernel
theorem d24_24 : decode jdk_42_method_78_code 24 = .ok (.getfield 9, 3) := by decide +kernel
theorem d24_27 : decode jdk_42_method_78_code 27 = .ok (.invokestatic 628, 3) := by decide +kernel
theorem d24_30 : decode jdk_42_method_78_code 30 = .ok (.goto 10, 3) := by decide +kernel
theorem d24_40 : decode jdk_42_method_78_code 40 = .ok (.istore_n 1, 1) := by decide +kernel
theorem d24_41 : decode jdk_42_method_78_code 41 = .ok (.iload_n 1, 1) := by decide +kernel
theorem d24_42 : decode jdk_42_method_78_code 42 = .ok (.ifCond .ne 11, 3) := by decide +kernel
theorem d24_45 : decode jdk_42_method_78_code 45 = .ok (.aload_n 0, 1) := by decide +kernel
theorem d24_46 : decode jdk_42_method_78_code 46 = .ok (.iconst 1, 1) := by decide +kernel
theorem d24_47 : decode jdk_42_method_78_code 47 = .ok (.putfield 23, 3) := by decide +kernel
theorem d24_50 : decode jdk_42_method_78_code 50 = .ok (.goto 8, 3) := by decide +kernel
theorem d24_53 : decode jdk_42_method_78_code 53 = .ok (.aload_n 0, 1) := by decide +kernel
theorem d24_54 : decode jdk_42_method_78_code 54 = .ok (.iload_n 1, 1) := by decide +kernel
theorem d24_55 : decode jdk_42_method_78_code 55 = .ok (.putfield 19, 3) := by decide +kernel
theorem d24_58 : decode jdk_42_method_78_code 58 = .ok (.iload_n 1, 1) := by decide +kernel
theorem d24_59 : decode jdk_42_method_78_code 59 = .ok (.ireturn, 1) := by decide +kernel
theorem pd14 : parseMethodDescriptor "([B)I" = some ⟨[(.array .byte)], some .int⟩ := by decide +kernel
def r_strh1 : Room := { frames := 1, cells := 0, slots := 0, locals := 12 }
def Q_strh1 (Z : State) (a va : Addr) (k : ClassId) (c0 cs : Int32) (h0 : Heap) (v : Option Value) (h : Heap) : Prop := v = some (.int c0) ∧ Keep h0 h [a]
theorem rm_strh1 (l : Launch) (Z : State) (a0 : Array Value) (hw : oHw Z a0) (a va : Addr) (k : ClassId) (c0 cs : Int32) (h0 : Heap) (q0 : Exa Z h0 a z0) (q1 : Fld Z h0 a z0 "value" "[B" (.ref va)) (q2 : Fld Z h0 a z0 "coder" "B" (.int 0)) (q3 : oArr Z h0 va k .byte [(.int (nar .byte c0))]) (q4 : Fld Z h0 a z0 "hash" "I" (.int 0)) (q5 : Fld Z h0 a z0 "hashIsZero" "Z" (.int 0)) (q6 : Exa Z h0 va "[B") (q7 : Z.heap.size ≤ a) (q8 : oCh c0) (q9 : Sta Z Z.heap z0 z3 "Z" (.int cs)) (q10 : ¬ (cs = (0 : Int32))) : oMet l Z (⟨z0, "hashCode", "()I"⟩ : MethodName) jdk_42_method_78_code 2 (some .int) r_strh1 [] #[.ref a] h0 (Q_strh1 Z a va k c0 cs h0) := by
 refine oEnter (plainFor_of_name (by first | (simp [plainName, overriddenIn]; done) | decide +kernel)) (own := z0) (nm := "hashCode") rfl rfl (L := #[.val (.ref a), .unset]) (fun m => by first | (simp [entryFrame, mkF, argsToLocals, Value.category]; done) | rfl) ?_
 intro pp ee ss mm bb mtd cc T0 K X0
 have E0 := X0.ext0
 refine o_aloadN K X0 d24_0 rfl rfl rfl ?_
 refine o_getfield K X0 (host := "") (Or.inl (w125 hw)) Via.refl q4 d24_1 rfl ?_
 intro T1 X1
 refine o_istoreN K X1 d24_4 rfl (L' := #[vR a, vI 0]) rfl ?_
 refine o_iloadN K X1 d24_5 rfl rfl ?_
 refine o_if_ne_f K X1 d24_6 rfl (by decide) ?_
 refine o_aloadN K X1 d24_9 rfl rfl rfl ?_
 refine o_getfield K X1 (host := "") (Or.inl (w127 hw)) Via.refl q5 d24_10 rfl ?_
 intro T2 X2
 refine o_if_ne_f K X2 d24_13 rfl (by decide) ?_
 refine o_aloadN K X2 d24_16 rfl rfl rfl ?_
 refine o_virtual K X2   (w82 hw) (w83 hw) (oNF (w85 hw)) (w85 hw) (w84 hw) (w16 hw) (w86 hw) (by decide) q0 (rm_strlat l Z a0 hw a cs h0 q2 q9 q10) (by decide) rfl (argsL := []) rfl (lenOf pd8 rfl) (W := 0) rfl (by decide) (by decide) (by decide) d24_17 rfl ?_
 intro v3 T3 h3 X3 U3
 obtain ⟨rfl, rfl⟩ := U3
 show oGoes pp ee bb ss Z T3 (mkF mm 20 _ [.int 1]) _ _ _
 refine o_if_eq_f K X3 d24_20 rfl (by decide) ?_
 refine o_aloadN K X3 d24_23 rfl rfl rfl ?_
 refine o_getfield K X3 (host := "") (Or.inl (w42 hw)) Via.refl q1 d24_24 rfl ?_
 intro T4 X4
 refine o_static K X4  (w129 hw) (w130 hw) (w89 hw) (w131 hw) (by decide) (rm_lhash1 l Z a0 hw va k c0 h0 q3 q6 q8) (by decide) rfl (argsL := [.ref va]) rfl (lenOf pd14 rfl) (W := 0) rfl (by decide) (by decide) (by decide) d24_27 rfl ?_
 intro v5 T5 h5 X5 U5
 obtain ⟨rfl, rfl⟩ := U5
 show oGoes pp ee bb ss Z T5 (mkF mm 30 _ [.int c0]) _ _ _
 refine o_goto K X5 d24_30 (by decide) (pc' := 40) (by decide) ?_
 refine o_istoreN K X5 d24_40 rfl (L' := #[vR a, vI c0]) rfl ?_
 refine o_iloadN K X5 d24_41 rfl rfl ?_
 by_cases c42_6 : c0 = (0 : Int32)
 refine o_if_ne_f K X5 d24_42 rfl c42_6 ?_
 refine o_aloadN K X5 d24_45 rfl rfl rfl ?_
 refine o_iconst K X5 d24_46 rfl (z := 1) rfl ?_
 refine o_putfieldN K X5 (w127 hw) Via.refl q5 q0 (Or.inl (w128 hw)) (w15 hw) (ty := .boolean) (by decide) (v' := (.int 1)) (congrArg Value.int (by decide)) (oFitboolean (x := (1 : Int32)) (by decide)) q7 d24_47 rfl ?_
 intro T7 h7 X7 W7
 have F7 := Fld.same W7 q5
 refine o_goto K X7 d24_50 (by decide) (pc' := 58) (by decide) ?_
 refine o_iloadN K X7 d24_58 rfl rfl ?_
 refine o_ireturn K X7 d24_59 rfl ?_ (by decide) (by decide)
 exact ⟨rfl, ((Keep.refl h0 [a]).wr W7 (Or.inl me0))⟩
 refine o_if_ne_t K X5 d24_42 (by decide) (pc' := 53) (by decide) c42_6 ?_
 refine o_aloadN K X5 d24_53 rfl rfl rfl ?_
 refine o_iloadN K X5 d24_54 rfl rfl ?_
 refine o_putfield K X5 (host := "") (Or.inl (w125 hw)) Via.refl q4 q0 (Or.inl (w126 hw)) (w15 hw) (ty := .int) (by decide) rfl rfl q7 d24_55 rfl ?_
 intro T8 h8 X8 W8
 have F8 := Fld.same W8 q4
 refine o_iloadN K X8 d24_58 rfl rfl ?_
 refine o_ireturn K X8 d24_59 rfl ?_ (by decide) (by decide)
 exact ⟨rfl, ((Keep.refl h0 [a]).wr W8 (Or.inl me0))⟩
theorem d23_42 : decode jdk_43_method_21_code 42 = .ok (.aload_n 0, 1) := by decide +kernel
theorem d23_43 : decode jdk_43_method_21_code 43 = .ok (.iconst 0, 1) := by decide +kernel
theorem d23_44 : decode jdk_43_method_21_code 44 = .ok (.aload_n 0, 1) := by decide +kernel
theorem d23_45 : decode jdk_43_method_21_code 45 = .ok (.arraylength, 1) := by decide +kernel
theorem d23_46 : decode jdk_43_method_21_code 46 = .ok (.iconst 0, 1) := by decide +kernel
theorem d23_47 : decode jdk_43_method_21_code 47 = .ok (.iconst 4, 1) := by decide +kernel
theorem d23_48 : decode jdk_43_method_21_code 48 = .ok (.invokestatic 84, 3) := by decide +kernel
theorem pd15 : parseMethodDescriptor "(Ljava/lang/Object;IIII)I" = some ⟨[(.object "java/lang/Object"), .int, .int, .int, .int], some .int⟩ := by decide +kernel
def r_lhash2 : Room := { frames := 2, cells := 0, slots := 0, locals := 33 }
def Q_lhash2 (Z : State) (va : Addr) (k : ClassId) (c0 c1 : Int32) (h0 : Heap) (v : Option Value) (h : Heap) : Prop := v = some (.int (((31 : Int32) * c0) + c1)) ∧ h0 = h
theorem rm_lhash2 (l : Launch) (Z : State) (a0 : Array Value) (hw : oHw Z a0) (va : Addr) (k : ClassId) (c0 c1 : Int32) (h0 : Heap) (q0 : oArr Z h0 va k .byte [(.int (nar .byte c0)), (.int (nar .byte c1))]) (q1 : Exa Z h0 va "[B") (q2 : oCh c0) (q3 : oCh c1) : oMet l Z (⟨"java/lang/StringLatin1", "hashCode", "([B)I"⟩ : MethodName) jdk_43_method_21_code 1 (some .int) r_lhash2 [] #[.ref va] h0 (Q_lhash2 Z va k c0 c1 h0) := by
 refine oEnter (plainFor_of_name (by first | (simp [plainName, overriddenIn]; done) | decide +kernel)) (own := "java/lang/StringLatin1") (nm := "hashCode") rfl rfl (L := #[.val (.ref va)]) (fun m => by first | (simp [entryFrame, mkF, argsToLocals, Value.category]; done) | rfl) ?_
 intro pp ee ss mm bb mtd cc T0 K X0
 have E0 := X0.ext0
 refine o_aloadN K X0 d23_0 rfl rfl rfl ?_
 refine o_arraylength K X0 q0 (z := 2) rfl d23_1 rfl ?_
 refine o_lswMiss K X0 d23_2 (v := 2) (by decide) (by decide) (by decide) (by decide) (pc' := 42) (by decide) ?_
 refine o_aloadN K X0 d23_42 rfl rfl rfl ?_
 refine o_iconst K X0 d23_43 rfl (z := 0) rfl ?_
 refine o_aloadN K X0 d23_44 rfl rfl rfl ?_
 refine o_arraylength K X0 q0 (z := 2) rfl d23_45 rfl ?_
 refine o_iconst K X0 d23_46 rfl (z := 0) rfl ?_
 refine o_iconst K X0 d23_47 rfl (z := 4) rfl ?_
 refine o_static K X0  (w132 hw) (w133 hw) (w134 hw) (w135 hw) (by decide) (rm_vhash l Z a0 hw va k c0 c1 h0 q0 q1 q2 q3) (by decide) rfl (argsL := [.ref va, .int 0, .int 2, .int 0, .int 4]) rfl (lenOf pd15 rfl) (W := 0) rfl (by decide) (by decide) (by decide) d23_48 rfl ?_
 intro v1 T1 h1 X1 U1
 obtain ⟨rfl, rfl⟩ := U1
 show oGoes pp ee bb ss Z T1 (mkF mm 51 _ [(.int (((31 : Int32) * c0) + c1))]) _ _ _
 refine o_ireturn K X1 d23_51 rfl ?_ (by decide) (by decide)
 exact ⟨rfl, rfl⟩
def r_strh2 : Room := { frames := 3, cells := 0, slots := 0, locals := 45 }
def Q_strh2 (Z : State) (a va : Addr) (k : ClassId) (c0 c1 cs : Int32) (h0 : Heap) (v : Option Value) (h : Heap) : Prop := v = some (.int (((31 : Int32) * c0) + c1)) ∧ Keep h0 h [a]
theorem rm_strh2 (l : Launch) (Z : State) (a0 : Array Value) (hw : oHw Z a0) (a va : Addr) (k : ClassId) (c0 c1 cs : Int32) (h0 : Heap) (q0 : Exa Z h0 a z0) (q1 : Fld Z h0 a z0 "value" "[B" (.ref va)) (q2 : Fld Z h0 a z0 "coder" "B" (.int 0)) (q3 : oArr Z h0 va k .byte [(.int (nar .byte c0)), (.int (nar .byte c1))]) (q4 : Fld Z h0 a z0 "hash" "I" (.int 0)) (q5 : Fld Z h0 a z0 "hashIsZero" "Z" (.int 0)) (q6 : Exa Z h0 va "[B") (q7 : Z.heap.size ≤ a) (q8 : oCh c0) (q9 : oCh c1) (q10 : Sta Z Z.heap z0 z3 "Z" (.int cs)) (q11 : ¬ (cs = (0 : Int32))) : oMet l Z (⟨z0, "hashCode", "()I"⟩ : MethodName) jdk_42_method_78_code 2 (some .int) r_strh2 [] #[.ref a] h0 (Q_strh2 Z a va k c0 c1 cs h0) := by
 refine oEnter (plainFor_of_name (by first | (simp [plainName, overriddenIn]; done) | decide +kernel)) (own := z0) (nm := "hashCode") rfl rfl (L := #[.val (.ref a), .unset]) (fun m => by first | (simp [entryFrame, mkF, argsToLocals, Value.category]; done) | rfl) ?_
 intro pp ee ss mm bb mtd cc T0 K X0
 have E0 := X0.ext0
 refine o_aloadN K X0 d24_0 rfl rfl rfl ?_
 refine o_getfield K X0 (host := "") (Or.inl (w125 hw)) Via.refl q4 d24_1 rfl ?_
 intro T1 X1
 refine o_istoreN K X1 d24_4 rfl (L' := #[vR a, vI 0]) rfl ?_
 refine o_iloadN K X1 d24_5 rfl rfl ?_
 refine o_if_ne_f K X1 d24_6 rfl (by decide) ?_
 refine o_aloadN K X1 d24_9 rfl rfl rfl ?_
 refine o_getfield K X1 (host := "") (Or.inl (w127 hw)) Via.refl q5 d24_10 rfl ?_
 intro T2 X2
 refine o_if_ne_f K X2 d24_13 rfl (by decide) ?_
 refine o_aloadN K X2 d24_16 rfl rfl rfl ?_
 refine o_virtual K X2   (w82 hw) (w83 hw) (oNF (w85 hw)) (w85 hw) (w84 hw) (w16 hw) (w86 hw) (by decide) q0 (rm_strlat l Z a0 hw a cs h0 q2 q10 q11) (by decide) rfl (argsL := []) rfl (lenOf pd8 rfl) (W := 0) rfl (by decide) (by decide) (by decide) d24_17 rfl ?_
 intro v3 T3 h3 X3 U3
 obtain ⟨rfl, rfl⟩ := U3
 show oGoes pp ee bb ss Z T3 (mkF mm 20 _ [.int 1]) _ _ _
 refine o_if_eq_f K X3 d24_20 rfl (by decide) ?_
 refine o_aloadN K X3 d24_23 rfl rfl rfl ?_
 refine o_getfield K X3 (host := "") (Or.inl (w42 hw)) Via.refl q1 d24_24 rfl ?_
 intro T4 X4
 refine o_static K X4  (w129 hw) (w130 hw) (w89 hw) (w131 hw) (by decide) (rm_lhash2 l Z a0 hw va k c0 c1 h0 q3 q6 q8 q9) (by decide) rfl (argsL := [.ref va]) rfl (lenOf pd14 rfl) (W := 0) rfl (by decide) (by decide) (by decide) d24_27 rfl ?_
 intro v5 T5 h5 X5 U5
 obtain ⟨rfl, rfl⟩ := U5
 show oGoes pp ee bb ss Z T5 (mkF mm 30 _ [(.int (((31 : Int32) * c0) + c1))]) _ _ _
 refine o_goto K X5 d24_30 (by decide) (pc' := 40) (by decide) ?_
 refine o_istoreN K X5 d24_40 rfl (L' := #[vR a, vI (((31 : Int32) * c0) + c1)]) rfl ?_
 refine o_iloadN K X5 d24_41 rfl rfl ?_
 by_cases c42_6 : (((31 : Int32) * c0) + c1) = (0 : Int32)
 refine o_if_ne_f K X5 d24_42 rfl c42_6 ?_
 refine o_aloadN K X5 d24_45 rfl rfl rfl ?_
 refine o_iconst K X5 d24_46 rfl (z := 1) rfl ?_
 refine o_putfieldN K X5 (w127 hw) Via.refl q5 q0 (Or.inl (w128 hw)) (w15 hw) (ty := .boolean) (by decide) (v' := (.int 1)) (congrArg Value.int (by decide)) (oFitboolean (x := (1 : Int32)) (by decide)) q7 d24_47 rfl ?_
 intro T7 h7 X7 W7
 have F7 := Fld.same W7 q5
 refine o_goto K X7 d24_50 (by decide) (pc' := 58) (by decide) ?_
 refine o_iloadN K X7 d24_58 rfl rfl ?_
 refine o_ireturn K X7 d24_59 rfl ?_ (by decide) (by decide)
 exact ⟨rfl, ((Keep.refl h0 [a]).wr W7 (Or.inl me0))⟩
 refine o_if_ne_t K X5 d24_42 (by decide) (pc' := 53) (by decide) c42_6 ?_
 refine o_aloadN K X5 d24_53 rfl rfl rfl ?_
 refine o_iloadN K X5 d24_54 rfl rfl ?_
 refine o_putfield K X5 (host := "") (Or.inl (w125 hw)) Via.refl q4 q0 (Or.inl (w126 hw)) (w15 hw) (ty := .int) (by decide) rfl rfl q7 d24_55 rfl ?_
 intro T8 h8 X8 W8
 have F8 := Fld.same W8 q4
 refine o_iloadN K X8 d24_58 rfl rfl ?_
 refine o_ireturn K X8 d24_59 rfl ?_ (by decide) (by decide)
 exact ⟨rfl, ((Keep.refl h0 [a]).wr W8 (Or.inl me0))⟩
theorem d25_0 : decode method_5_code 0 = .ok (.iload_n 0, 1) := by decide +kernel
theorem d25_1 : decode method_5_code 1 = .ok (.iconst 1, 1) := by decide +kernel
theorem d25_2 : decode method_5_code 2 = .ok (.if_icmp .ne 18, 3) := by decide +kernel
theorem d25_5 : decode method_5_code 5 = .ok (.new 30, 3) := by decide +kernel
theorem d25_8 : decode method_5_code 8 = .ok (.dup, 1) := by decide +kernel
theorem d25_9 : decode method_5_code 9 = .ok (.iconst 1, 1) := by decide +kernel
theorem d25_10 : decode method_5_code 10 = .ok (.newarray .char, 2) := by decide +kernel
theorem d25_12 : decode method_5_code 12 = .ok (.dup, 1) := by decide +kernel
theorem d25_13 : decode method_5_code 13 = .ok (.iconst 0, 1) := by decide +kernel
theorem d25_14 : decode method_5_code 14 = .ok (.iload_n 1, 1) := by decide +kernel
theorem d25_15 : decode method_5_code 15 = .ok (.castore, 1) := by decide +kernel
theorem d25_16 : decode method_5_code 16 = .ok (.invokespecial 32, 3) := by decide +kernel
theorem d25_19 : decode method_5_code 19 = .ok (.areturn, 1) := by decide +kernel
theorem pd16 : parseMethodDescriptor "([C)V" = some ⟨[(.array .char)], none⟩ := by decide +kernel
def r_str1 : Room := { frames := 4, cells := 3, slots := 6, locals := 66 }
def Q_str1 (Z : State) (c0 c1 cs : Int32) (h0 : Heap) (v : Option Value) (h : Heap) : Prop := ∃ s sv : Addr, ∃ ks : ClassId, v = some (.ref s) ∧ Keep h0 h [] ∧ h0.size ≤ s ∧ Exa Z h s z0 ∧ Fld Z h s z0 "value" "[B" (.ref sv) ∧ Fld Z h s z0 "coder" "B" (.int 0) ∧ oArr Z h sv ks .byte [(.int (nar .byte c0))] ∧ Fld Z h s z0 "hash" "I" (.int 0) ∧ Fld Z h s z0 "hashIsZero" "Z" (.int 0) ∧ h0.size ≤ sv ∧ Exa Z h sv "[B"
theorem rm_str1 (l : Launch) (Z : State) (a0 : Array Value) (hw : oHw Z a0) (c0 c1 cs : Int32) (h0 : Heap) (q0 : ¬ ((255 : Int32) < c0)) (q1 : nar .char c0 = c0) (q2 : nar .char c1 = c1) (q3 : Sta Z Z.heap z0 z3 "Z" (.int cs)) (q4 : ¬ (cs = (0 : Int32))) : oMet l Z (⟨z5, "str", "(ICC)Ljava/lang/String;"⟩ : MethodName) method_5_code 3 (some (.object z0)) r_str1 [] #[.int 1, .int c0, .int c1] h0 (Q_str1 Z c0 c1 cs h0) := by
 refine oEnter (plainFor_of_name (by first | (simp [plainName, overriddenIn]; done) | decide +kernel)) (own := z5) (nm := "str") rfl rfl (L := #[.val (.int 1), .val (.int c0), .val (.int c1)]) (fun m => by first | (simp [entryFrame, mkF, argsToLocals, Value.category]; done) | rfl) ?_
 intro pp ee ss mm bb mtd cc T0 K X0
 have E0 := X0.ext0
 refine o_iloadN K X0 d25_0 rfl rfl ?_
 refine o_iconst K X0 d25_1 rfl (z := 1) rfl ?_
 refine o_icmp_ne_f K X0 d25_2 rfl (by decide) ?_
 refine o_new K X0 (w14 hw) (w15 hw) (w16 hw) d25_5 rfl (by decide) (by decide) ?_
 intro T1 h1 b1 X1 g1 E1 A1 D1 G1
 have F1_coder : Fld Z h1 b1 z0 "coder" "B" (.int 0) := (D1 (Or.inr (w41 hw)) (ty := .byte) (by decide))
 have F1_value : Fld Z h1 b1 z0 "value" "[B" .null := (D1 (Or.inr (w43 hw)) (ty := (.array .byte)) (by decide))
 have F1_hash : Fld Z h1 b1 z0 "hash" "I" (.int 0) := (D1 (Or.inl (w126 hw)) (ty := .int) (by decide))
 have F1_hashIsZero : Fld Z h1 b1 z0 "hashIsZero" "Z" (.int 0) := (D1 (Or.inl (w128 hw)) (ty := .boolean) (by decide))
 refine o_dup K X1 d25_8 rfl rfl ?_
 refine o_iconst K X1 d25_9 rfl (z := 1) rfl ?_
 refine o_newarray K X1 (aty := .char) 1 (w17 hw) (ad := "[C") (by decide +kernel) (by decide) (by decide) (by decide) rfl d25_10 rfl (by decide) (by decide) ?_
 intro T2 h2 b2 k2 X2 g2 E2 A2 B2 G2
 replace A2 : oArr Z h2 b2 k2 .char [.int 0] := A2
 refine o_dup K X2 d25_12 rfl rfl ?_
 refine o_iconst K X2 d25_13 rfl (z := 0) rfl ?_
 refine o_iloadN K X2 d25_14 rfl rfl ?_
 refine o_castore K X2 A2 (by decide) (show (0 : Int32).toNatClampNeg < 1 from (by decide)) G2 (z := (.int c0)) (congrArg Value.int q1) d25_15 rfl ?_
 intro T3 h3 X3 W3 A3
 replace A3 : oArr Z h3 b2 k2 .char [.int c0] := A3
 have m4 := (Exa.wr W3 (A1.ext E2))
 have n5 := oLz A1.lt (oLe g2)
 have m6 := (Fld.other W3 (F1_value.ext E2) (Or.inl n5))
 have m7 := (Fld.other W3 (F1_coder.ext E2) (Or.inl n5))
 have m8 := (Fld.other W3 (F1_hash.ext E2) (Or.inl n5))
 have m9 := (Fld.other W3 (F1_hashIsZero.ext E2) (Or.inl n5))
 refine o_special K X3 (y := (⟨z0, "<init>", "([C)V"⟩ : MethodName)) rfl (w18 hw) (w19 hw) (w16 hw) (w20 hw) (by decide) (rm_str_1 l Z a0 hw b1 b2 k2 cs c0 h3 m4 m6 m7 G1 m8 m9 A3 q3 q4 q0) (by decide) rfl (argsL := [.ref b2]) rfl (lenOf pd16 rfl) (W := 1) rfl (by decide) (by decide) (by decide) d25_16 rfl ?_
 intro v10 T10 h10 X10 U10
 obtain ⟨vb_10, k_10, rfl, u10_0, u10_1, u10_2, u10_3, u10_4, u10_5, u10_6, u10_7, u10_8⟩ := U10
 have G10_vb : Z.heap.size ≤ vb_10 := Nat.le_trans X3.ext0.1 u10_4
 show oGoes pp ee bb ss Z T10 (mkF mm 19 _ [.ref b1]) _ _ _
 refine o_areturn K X10 (t := (.object z0)) d25_19 rfl rfl rfl ?_ (by decide) (by decide)
 have y0_3 := Nat.le_trans (Nat.le_trans E1.1 E2.1) (Keep.of_wr W3).1
 exact ⟨b1, vb_10, k_10, rfl, (((((Keep.refl h0 []).ext E1).ext E2).wr W3 (Or.inr (Nat.le_trans E1.1 (oLe g2)))).trans u10_0 (allS (Or.inr (oLe g1)) all0)), (oLe g1), u10_1, u10_2, u10_3, u10_5, u10_6, u10_7, (Nat.le_trans y0_3 u10_4), u10_8⟩
theorem d25_20 : decode method_5_code 20 = .ok (.new 30, 3) := by decide +kernel
theorem d25_23 : decode method_5_code 23 = .ok (.dup, 1) := by decide +kernel
theorem d25_24 : decode method_5_code 24 = .ok (.iconst 2, 1) := by decide +kernel
theorem d25_25 : decode method_5_code 25 = .ok (.newarray .char, 2) := by decide +kernel
theorem d25_27 : decode method_5_code 27 = .ok (.dup, 1) := by decide +kernel
theorem d25_28 : decode method_5_code 28 = .ok (.iconst 0, 1) := by decide +kernel
theorem d25_29 : decode method_5_code 29 = .ok (.iload_n 1, 1) := by decide +kernel
theorem d25_30 : decode method_5_code 30 = .ok (.castore, 1) := by decide +kernel
theorem d25_31 : decode method_5_code 31 = .ok (.dup, 1) := by decide +kernel
theorem d25_32 : decode method_5_code 32 = .ok (.iconst 1, 1) := by decide +kernel
theorem d25_33 : decode method_5_code 33 = .ok (.iload_n 2, 1) := by decide +kernel
theorem d25_34 : decode method_5_code 34 = .ok (.castore, 1) := by decide +kernel
theorem d25_35 : decode method_5_code 35 = .ok (.invokespecial 32, 3) := by decide +kernel
theorem d25_38 : decode method_5_code 38 = .ok (.areturn, 1) := by decide +kernel
def r_str2 : Room := { frames := 4, cells := 3, slots := 8, locals := 66 }
def Q_str2 (Z : State) (c0 c1 cs : Int32) (h0 : Heap) (v : Option Value) (h : Heap) : Prop := ∃ s sv : Addr, ∃ ks : ClassId, v = some (.ref s) ∧ Keep h0 h [] ∧ h0.size ≤ s ∧ Exa Z h s z0 ∧ Fld Z h s z0 "value" "[B" (.ref sv) ∧ Fld Z h s z0 "coder" "B" (.int 0) ∧ oArr Z h sv ks .byte [(.int (nar .byte c0)), (.int (nar .byte c1))] ∧ Fld Z h s z0 "hash" "I" (.int 0) ∧ Fld Z h s z0 "hashIsZero" "Z" (.int 0) ∧ h0.size ≤ sv ∧ Exa Z h sv "[B"
theorem rm_str2 (l : Launch) (Z : State) (a0 : Array Value) (hw : oHw Z a0) (c0 c1 cs : Int32) (h0 : Heap) (q0 : ¬ ((255 : Int32) < c0)) (q1 : ¬ ((255 : Int32) < c1)) (q2 : nar .char c0 = c0) (q3 : nar .char c1 = c1) (q4 : Sta Z Z.heap z0 z3 "Z" (.int cs)) (q5 : ¬ (cs = (0 : Int32))) : oMet l Z (⟨z5, "str", "(ICC)Ljava/lang/String;"⟩ : MethodName) method_5_code 3 (some (.object z0)) r_str2 [] #[.int 2, .int c0, .int c1] h0 (Q_str2 Z c0 c1 cs h0) := by
 refine oEnter (plainFor_of_name (by first | (simp [plainName, overriddenIn]; done) | decide +kernel)) (own := z5) (nm := "str") rfl rfl (L := #[.val (.int 2), .val (.int c0), .val (.int c1)]) (fun m => by first | (simp [entryFrame, mkF, argsToLocals, Value.category]; done) | rfl) ?_
 intro pp ee ss mm bb mtd cc T0 K X0
 have E0 := X0.ext0
 refine o_iloadN K X0 d25_0 rfl rfl ?_
 refine o_iconst K X0 d25_1 rfl (z := 1) rfl ?_
 refine o_icmp_ne_t K X0 d25_2 (by decide) (pc' := 20) (by decide) (by decide) ?_
 refine o_new K X0 (w14 hw) (w15 hw) (w16 hw) d25_20 rfl (by decide) (by decide) ?_
 intro T1 h1 b1 X1 g1 E1 A1 D1 G1
 have F1_coder : Fld Z h1 b1 z0 "coder" "B" (.int 0) := (D1 (Or.inr (w41 hw)) (ty := .byte) (by decide))
 have F1_value : Fld Z h1 b1 z0 "value" "[B" .null := (D1 (Or.inr (w43 hw)) (ty := (.array .byte)) (by decide))
 have F1_hash : Fld Z h1 b1 z0 "hash" "I" (.int 0) := (D1 (Or.inl (w126 hw)) (ty := .int) (by decide))
 have F1_hashIsZero : Fld Z h1 b1 z0 "hashIsZero" "Z" (.int 0) := (D1 (Or.inl (w128 hw)) (ty := .boolean) (by decide))
 refine o_dup K X1 d25_23 rfl rfl ?_
 refine o_iconst K X1 d25_24 rfl (z := 2) rfl ?_
 refine o_newarray K X1 (aty := .char) 2 (w17 hw) (ad := "[C") (by decide +kernel) (by decide) (by decide) (by decide) rfl d25_25 rfl (by decide) (by decide) ?_
 intro T2 h2 b2 k2 X2 g2 E2 A2 B2 G2
 replace A2 : oArr Z h2 b2 k2 .char [.int 0, .int 0] := A2
 refine o_dup K X2 d25_27 rfl rfl ?_
 refine o_iconst K X2 d25_28 rfl (z := 0) rfl ?_
 refine o_iloadN K X2 d25_29 rfl rfl ?_
 refine o_castore K X2 A2 (by decide) (show (0 : Int32).toNatClampNeg < 2 from (by decide)) G2 (z := (.int c0)) (congrArg Value.int q2) d25_30 rfl ?_
 intro T3 h3 X3 W3 A3
 replace A3 : oArr Z h3 b2 k2 .char [.int c0, .int 0] := A3
 refine o_dup K X3 d25_31 rfl rfl ?_
 refine o_iconst K X3 d25_32 rfl (z := 1) rfl ?_
 refine o_iloadN K X3 d25_33 rfl rfl ?_
 refine o_castore K X3 A3 (by decide) (show (1 : Int32).toNatClampNeg < 2 from (by decide)) G2 (z := (.int c1)) (congrArg Value.int q3) d25_34 rfl ?_
 intro T4 h4 X4 W4 A4
 replace A4 : oArr Z h4 b2 k2 .char [.int c0, .int c1] := A4
 have m5 := (Exa.wr W4 (Exa.wr W3 (A1.ext E2)))
 have n6 := oLz A1.lt (oLe g2)
 have m7 := (Fld.other W4 (Fld.other W3 (F1_value.ext E2) (Or.inl n6)) (Or.inl n6))
 have m8 := (Fld.other W4 (Fld.other W3 (F1_coder.ext E2) (Or.inl n6)) (Or.inl n6))
 have m9 := (Fld.other W4 (Fld.other W3 (F1_hash.ext E2) (Or.inl n6)) (Or.inl n6))
 have m10 := (Fld.other W4 (Fld.other W3 (F1_hashIsZero.ext E2) (Or.inl n6)) (Or.inl n6))
 refine o_special K X4 (y := (⟨z0, "<init>", "([C)V"⟩ : MethodName)) rfl (w18 hw) (w19 hw) (w16 hw) (w20 hw) (by decide) (rm_str_2 l Z a0 hw b1 b2 k2 cs c0 c1 h4 m5 m7 m8 G1 m9 m10 A4 q4 q5 q0 q1) (by decide) rfl (argsL := [.ref b2]) rfl (lenOf pd16 rfl) (W := 1) rfl (by decide) (by decide) (by decide) d25_35 rfl ?_
 intro v11 T11 h11 X11 U11
 obtain ⟨vb_11, k_11, rfl, u11_0, u11_1, u11_2, u11_3, u11_4, u11_5, u11_6, u11_7, u11_8⟩ := U11
 have G11_vb : Z.heap.size ≤ vb_11 := Nat.le_trans X4.ext0.1 u11_4
 show oGoes pp ee bb ss Z T11 (mkF mm 38 _ [.ref b1]) _ _ _
 refine o_areturn K X11 (t := (.object z0)) d25_38 rfl rfl rfl ?_ (by decide) (by decide)
 have y0_4 := Nat.le_trans (Nat.le_trans (Nat.le_trans E1.1 E2.1) (Keep.of_wr W3).1) (Keep.of_wr W4).1
 exact ⟨b1, vb_11, k_11, rfl, ((((((Keep.refl h0 []).ext E1).ext E2).wr W3 (Or.inr (Nat.le_trans E1.1 (oLe g2)))).wr W4 (Or.inr (Nat.le_trans E1.1 (oLe g2)))).trans u11_0 (allS (Or.inr (oLe g1)) all0)), (oLe g1), u11_1, u11_2, u11_3, u11_5, u11_6, u11_7, (Nat.le_trans y0_4 u11_4), u11_8⟩
theorem d26_0 : decode prog_16_method_1_code 0 = .ok (.aload_n 0, 1) := by decide +kernel
theorem d26_1 : decode prog_16_method_1_code 1 = .ok (.invokespecial 3, 3) := by decide +kernel
theorem d26_4 : decode prog_16_method_1_code 4 = .ok (.aload_n 1, 1) := by decide +kernel
theorem d26_5 : decode prog_16_method_1_code 5 = .ok (.invokestatic 9, 3) := by decide +kernel
theorem d26_8 : decode prog_16_method_1_code 8 = .ok (.ifCond .ne 13, 3) := by decide +kernel
theorem d26_21 : decode prog_16_method_1_code 21 = .ok (.aload_n 2, 1) := by decide +kernel
theorem d26_22 : decode prog_16_method_1_code 22 = .ok (.invokestatic 20, 3) := by decide +kernel
theorem d26_25 : decode prog_16_method_1_code 25 = .ok (.ifCond .ne 13, 3) := by decide +kernel
theorem d26_38 : decode prog_16_method_1_code 38 = .ok (.aload_n 0, 1) := by decide +kernel
theorem d26_39 : decode prog_16_method_1_code 39 = .ok (.aload_n 1, 1) := by decide +kernel
theorem d26_40 : decode prog_16_method_1_code 40 = .ok (.putfield 25, 3) := by decide +kernel
theorem d26_43 : decode prog_16_method_1_code 43 = .ok (.aload_n 0, 1) := by decide +kernel
theorem d26_44 : decode prog_16_method_1_code 44 = .ok (.aload_n 2, 1) := by decide +kernel
theorem d26_45 : decode prog_16_method_1_code 45 = .ok (.putfield 29, 3) := by decide +kernel
theorem d26_48 : decode prog_16_method_1_code 48 = .ok (.return_, 1) := by decide +kernel
theorem pd17 : parseMethodDescriptor "()V" = some ⟨[], none⟩ := by decide +kernel
theorem pd18 : parseMethodDescriptor "(Ljava/lang/String;)Z" = some ⟨[(.object z0)], some .boolean⟩ := by decide +kernel
def r_rk11 : Room := { frames := 6, cells := 0, slots := 0, locals := 3086 }
def Q_rk11 (Z : State) (a s vs : Addr) (ks : ClassId) (t vt : Addr) (kt : ClassId) (c0 d0 : Int32) (fm : Value) (cs : Int32) (h0 : Heap) (v : Option Value) (h : Heap) : Prop := v = none ∧ Keep h0 h [a] ∧ Exa Z h a z1 ∧ Fld Z h a z1 "shelf" z2 (.ref s) ∧ Fld Z h a z1 "id" z2 (.ref t)
theorem rm_rk11 (l : Launch) (Z : State) (a0 : Array Value) (hw : oHw Z a0) (a s vs : Addr) (ks : ClassId) (t vt : Addr) (kt : ClassId) (c0 d0 : Int32) (fm : Value) (cs : Int32) (h0 : Heap) (q0 : Exa Z h0 a z1) (q1 : Z.heap.size ≤ a) (q2 : Fld Z h0 a z1 "shelf" z2 .null) (q3 : Fld Z h0 a z1 "id" z2 .null) (q4 : Exa Z h0 s z0) (q5 : Fld Z h0 s z0 "value" "[B" (.ref vs)) (q6 : Fld Z h0 s z0 "coder" "B" (.int 0)) (q7 : oArr Z h0 vs ks .byte [(.int (nar .byte c0))]) (q8 : Exa Z h0 t z0) (q9 : Fld Z h0 t z0 "value" "[B" (.ref vt)) (q10 : Fld Z h0 t z0 "coder" "B" (.int 0)) (q11 : oArr Z h0 vt kt .byte [(.int (nar .byte d0))]) (q12 : oSh c0) (q13 : oId d0) (q14 : oCh c0) (q15 : oCh d0) (q16 : Sta Z Z.heap z4 z6 z7 fm) (q17 : fm.isRef = true) (q18 : Sta Z Z.heap z0 z3 "Z" (.int cs)) (q19 : ¬ (cs = (0 : Int32))) : oMet l Z (⟨z1, "<init>", z8⟩ : MethodName) prog_16_method_1_code 3 none r_rk11 [] #[.ref a, .ref s, .ref t] h0 (Q_rk11 Z a s vs ks t vt kt c0 d0 fm cs h0) := by
 refine oEnter (plainFor_of_name (by first | (simp [plainName, overriddenIn]; done) | decide +kernel)) (own := z1) (nm := "<init>") rfl rfl (L := #[.val (.ref a), .val (.ref s), .val (.ref t)]) (fun m => by first | (simp [entryFrame, mkF, argsToLocals, Value.category, oCatRef q17]; done) | rfl) ?_
 intro pp ee ss mm bb mtd cc T0 K X0
 have E0 := X0.ext0
 refine o_aloadN K X0 d26_0 rfl rfl rfl ?_
 refine o_special K X0 (y := (⟨"java/lang/Record", "<init>", "()V"⟩ : MethodName)) rfl (w47 hw) (w48 hw) (w50 hw) (w51 hw) (by decide) (rm_rec l Z a0 hw a h0) (by decide) rfl (argsL := []) rfl (lenOf pd17 rfl) (W := 0) rfl (by decide) (by decide) (by decide) d26_1 rfl ?_
 intro v1 T1 h1 X1 U1
 obtain ⟨rfl, rfl⟩ := U1
 show oGoes pp ee bb ss Z T1 (mkF mm 4 _ []) _ _ _
 refine o_aloadN K X1 d26_4 rfl rfl rfl ?_
 refine o_static K X1  (w53 hw) (w54 hw) (w10 hw) (w55 hw) (by decide) (rm_is1_oSh l Z a0 hw s vs ks c0 fm cs h0 q4 q5 q6 q7 q12 q14 q16 q17 q18 q19) (by decide) rfl (argsL := [.ref s]) rfl (lenOf pd18 rfl) (W := 0) rfl (by decide) (by decide) (by decide) d26_5 rfl ?_
 intro v2 T2 h2 X2 U2
 obtain ⟨rfl, rfl⟩ := U2
 show oGoes pp ee bb ss Z T2 (mkF mm 8 _ [.int 1]) _ _ _
 refine o_if_ne_t K X2 d26_8 (by decide) (pc' := 21) (by decide) (by decide) ?_
 refine o_aloadN K X2 d26_21 rfl rfl rfl ?_
 refine o_static K X2  (w104 hw) (w105 hw) (w10 hw) (w106 hw) (by decide) (rm_is1_oId l Z a0 hw t vt kt d0 fm cs h0 q8 q9 q10 q11 q13 q15 q16 q17 q18 q19) (by decide) rfl (argsL := [.ref t]) rfl (lenOf pd18 rfl) (W := 0) rfl (by decide) (by decide) (by decide) d26_22 rfl ?_
 intro v3 T3 h3 X3 U3
 obtain ⟨rfl, rfl⟩ := U3
 show oGoes pp ee bb ss Z T3 (mkF mm 25 _ [.int 1]) _ _ _
 refine o_if_ne_t K X3 d26_25 (by decide) (pc' := 38) (by decide) (by decide) ?_
 refine o_aloadN K X3 d26_38 rfl rfl rfl ?_
 refine o_aloadN K X3 d26_39 rfl rfl rfl ?_
 refine o_putfield K X3 (host := "") (Or.inl (w111 hw)) Via.refl q2 q0 (Or.inr ⟨(w112 hw), rfl, rfl⟩) (w9 hw) (ty := (.object z0)) (by decide) rfl rfl q1 d26_40 rfl ?_
 intro T4 h4 X4 W4
 have F4 := Fld.same W4 q2
 refine o_aloadN K X4 d26_43 rfl rfl rfl ?_
 refine o_aloadN K X4 d26_44 rfl rfl rfl ?_
 have m6 := (Fld.other W4 q3 (Or.inr (slot_ne (Or.inr (w114 hw)) (Or.inr (w112 hw)) (by decide) (t := (.object z0)) (t' := (.object z0)) (by decide) (by decide))))
 have m7 := (Exa.wr W4 q0)
 refine o_putfield K X4 (host := "") (Or.inl (w113 hw)) Via.refl m6 m7 (Or.inr ⟨(w114 hw), rfl, rfl⟩) (w9 hw) (ty := (.object z0)) (by decide) rfl rfl q1 d26_45 rfl ?_
 intro T5 h5 X5 W5
 have F5 := Fld.same W5 m6
 refine o_return K X5 d26_48 rfl ?_ (by decide) (by decide)
 have m8 := (Exa.wr W5 m7)
 have m9 := (Fld.other W5 F4 (Or.inr (slot_ne (Or.inr (w112 hw)) (Or.inr (w114 hw)) (by decide) (t := (.object z0)) (t' := (.object z0)) (by decide) (by decide))))
 exact ⟨rfl, (((Keep.refl h0 [a]).wr W4 (Or.inl me0)).wr W5 (Or.inl me0)), m8, m9, F5⟩
theorem d27_0 : decode prog_16_method_3_code 0 = .ok (.bipush 31, 2) := by decide +kernel
theorem d27_2 : decode prog_16_method_3_code 2 = .ok (.aload_n 0, 1) := by decide +kernel
theorem d27_3 : decode prog_16_method_3_code 3 = .ok (.getfield 25, 3) := by decide +kernel
theorem d27_6 : decode prog_16_method_3_code 6 = .ok (.invokevirtual 38, 3) := by decide +kernel
theorem d27_9 : decode prog_16_method_3_code 9 = .ok (.imul, 1) := by decide +kernel
theorem d27_10 : decode prog_16_method_3_code 10 = .ok (.aload_n 0, 1) := by decide +kernel
theorem d27_11 : decode prog_16_method_3_code 11 = .ok (.getfield 29, 3) := by decide +kernel
theorem d27_14 : decode prog_16_method_3_code 14 = .ok (.invokevirtual 38, 3) := by decide +kernel
theorem d27_17 : decode prog_16_method_3_code 17 = .ok (.iadd, 1) := by decide +kernel
theorem d27_18 : decode prog_16_method_3_code 18 = .ok (.ireturn, 1) := by decide +kernel
def r_rkh11 : Room := { frames := 2, cells := 0, slots := 0, locals := 26 }
def Q_rkh11 (Z : State) (a s vs : Addr) (ks : ClassId) (t vt : Addr) (kt : ClassId) (c0 d0 cs : Int32) (h0 : Heap) (v : Option Value) (h : Heap) : Prop := v = some (.int (((31 : Int32) * c0) + d0)) ∧ Keep h0 h [s, t]
theorem rm_rkh11 (l : Launch) (Z : State) (a0 : Array Value) (hw : oHw Z a0) (a s vs : Addr) (ks : ClassId) (t vt : Addr) (kt : ClassId) (c0 d0 cs : Int32) (h0 : Heap) (q0 : Exa Z h0 a z1) (q1 : Fld Z h0 a z1 "shelf" z2 (.ref s)) (q2 : Fld Z h0 a z1 "id" z2 (.ref t)) (q3 : Exa Z h0 s z0) (q4 : Fld Z h0 s z0 "value" "[B" (.ref vs)) (q5 : Fld Z h0 s z0 "coder" "B" (.int 0)) (q6 : oArr Z h0 vs ks .byte [(.int (nar .byte c0))]) (q7 : Fld Z h0 s z0 "hash" "I" (.int 0)) (q8 : Fld Z h0 s z0 "hashIsZero" "Z" (.int 0)) (q9 : Exa Z h0 vs "[B") (q10 : Z.heap.size ≤ s) (q11 : Exa Z h0 t z0) (q12 : Fld Z h0 t z0 "value" "[B" (.ref vt)) (q13 : Fld Z h0 t z0 "coder" "B" (.int 0)) (q14 : oArr Z h0 vt kt .byte [(.int (nar .byte d0))]) (q15 : Fld Z h0 t z0 "hash" "I" (.int 0)) (q16 : Fld Z h0 t z0 "hashIsZero" "Z" (.int 0)) (q17 : Exa Z h0 vt "[B") (q18 : Z.heap.size ≤ t) (q19 : a ≠ s) (q20 : t ≠ s) (q21 : oCh c0) (q22 : oCh d0) (q23 : Sta Z Z.heap z0 z3 "Z" (.int cs)) (q24 : ¬ (cs = (0 : Int32))) : oMet l Z (⟨z1, "hashCode", "()I"⟩ : MethodName) prog_16_method_3_code 1 (some .int) r_rkh11 [] #[.ref a] h0 (Q_rkh11 Z a s vs ks t vt kt c0 d0 cs h0) := by
 refine oEnter (plainFor_of_name (by first | (simp [plainName, overriddenIn]; done) | decide +kernel)) (own := z1) (nm := "hashCode") rfl rfl (L := #[.val (.ref a)]) (fun m => by first | (simp [entryFrame, mkF, argsToLocals, Value.category]; done) | rfl) ?_
 intro pp ee ss mm bb mtd cc T0 K X0
 have E0 := X0.ext0
 refine o_bipush K X0 d27_0 rfl (z := 31) rfl ?_
 refine o_aloadN K X0 d27_2 rfl rfl rfl ?_
 refine o_getfield K X0 (host := "") (Or.inl (w111 hw)) Via.refl q1 d27_3 rfl ?_
 intro T1 X1
 refine o_virtual K X1   (w120 hw) (w121 hw) (oNF (w123 hw)) (w123 hw) (w122 hw) (w16 hw) (w124 hw) (by decide) q3 (rm_strh1 l Z a0 hw s vs ks c0 cs h0 q3 q4 q5 q6 q7 q8 q9 q10 q21 q23 q24) (by decide) rfl (argsL := []) rfl (lenOf pd10 rfl) (W := 1) rfl (by decide) (by decide) (by decide) d27_6 rfl ?_
 intro v2 T2 h2 X2 U2
 obtain ⟨rfl, u2_0⟩ := U2
 show oGoes pp ee bb ss Z T2 (mkF mm 9 _ [.int c0, .int 31]) _ _ _
 refine o_imul K X2 d27_9 rfl (z := ((31 : Int32) * c0)) rfl ?_
 refine o_aloadN K X2 d27_10 rfl rfl rfl ?_
 have m4 := (q2.keep u2_0 (ninS q19 nin0))
 refine o_getfield K X2 (host := "") (Or.inl (w113 hw)) Via.refl m4 d27_11 rfl ?_
 intro T3 X3
 have m5 := (q11.keep u2_0)
 have m6 := (q12.keep u2_0 (ninS q20 nin0))
 have m7 := (q13.keep u2_0 (ninS q20 nin0))
 have n8 : vt ≠ s := (oNeArr q3 (w15 hw) q14)
 have m9 := (q14.keep u2_0 (ninS n8 nin0))
 have m10 := (q15.keep u2_0 (ninS q20 nin0))
 have m11 := (q16.keep u2_0 (ninS q20 nin0))
 have m12 := (q17.keep u2_0)
 refine o_virtual K X3   (w120 hw) (w121 hw) (oNF (w123 hw)) (w123 hw) (w122 hw) (w16 hw) (w124 hw) (by decide) m5 (rm_strh1 l Z a0 hw t vt kt d0 cs h2 m5 m6 m7 m9 m10 m11 m12 q18 q22 q23 q24) (by decide) rfl (argsL := []) rfl (lenOf pd10 rfl) (W := 1) rfl (by decide) (by decide) (by decide) d27_14 rfl ?_
 intro v13 T13 h13 X13 U13
 obtain ⟨rfl, u13_0⟩ := U13
 show oGoes pp ee bb ss Z T13 (mkF mm 17 _ [.int d0, (.int ((31 : Int32) * c0))]) _ _ _
 refine o_iadd K X13 d27_17 rfl (z := (((31 : Int32) * c0) + d0)) rfl ?_
 refine o_ireturn K X13 d27_18 rfl ?_ (by decide) (by decide)
 exact ⟨rfl, (((Keep.refl h0 [s, t]).trans u2_0 (allS (Or.inl me0) all0)).trans u13_0 (allS (Or.inl me1) all0))⟩
def r_rk12 : Room := { frames := 6, cells := 0, slots := 0, locals := 3086 }
def Q_rk12 (Z : State) (a s vs : Addr) (ks : ClassId) (t vt : Addr) (kt : ClassId) (c0 d0 d1 : Int32) (fm : Value) (cs : Int32) (h0 : Heap) (v : Option Value) (h : Heap) : Prop := v = none ∧ Keep h0 h [a] ∧ Exa Z h a z1 ∧ Fld Z h a z1 "shelf" z2 (.ref s) ∧ Fld Z h a z1 "id" z2 (.ref t)
theorem rm_rk12 (l : Launch) (Z : State) (a0 : Array Value) (hw : oHw Z a0) (a s vs : Addr) (ks : ClassId) (t vt : Addr) (kt : ClassId) (c0 d0 d1 : Int32) (fm : Value) (cs : Int32) (h0 : Heap) (q0 : Exa Z h0 a z1) (q1 : Z.heap.size ≤ a) (q2 : Fld Z h0 a z1 "shelf" z2 .null) (q3 : Fld Z h0 a z1 "id" z2 .null) (q4 : Exa Z h0 s z0) (q5 : Fld Z h0 s z0 "value" "[B" (.ref vs)) (q6 : Fld Z h0 s z0 "coder" "B" (.int 0)) (q7 : oArr Z h0 vs ks .byte [(.int (nar .byte c0))]) (q8 : Exa Z h0 t z0) (q9 : Fld Z h0 t z0 "value" "[B" (.ref vt)) (q10 : Fld Z h0 t z0 "coder" "B" (.int 0)) (q11 : oArr Z h0 vt kt .byte [(.int (nar .byte d0)), (.int (nar .byte d1))]) (q12 : oSh c0) (q13 : oId d0) (q14 : oId d1) (q15 : oCh c0) (q16 : oCh d0) (q17 : oCh d1) (q18 : Sta Z Z.heap z4 z6 z7 fm) (q19 : fm.isRef = true) (q20 : Sta Z Z.heap z0 z3 "Z" (.int cs)) (q21 : ¬ (cs = (0 : Int32))) : oMet l Z (⟨z1, "<init>", z8⟩ : MethodName) prog_16_method_1_code 3 none r_rk12 [] #[.ref a, .ref s, .ref t] h0 (Q_rk12 Z a s vs ks t vt kt c0 d0 d1 fm cs h0) := by
 refine oEnter (plainFor_of_name (by first | (simp [plainName, overriddenIn]; done) | decide +kernel)) (own := z1) (nm := "<init>") rfl rfl (L := #[.val (.ref a), .val (.ref s), .val (.ref t)]) (fun m => by first | (simp [entryFrame, mkF, argsToLocals, Value.category, oCatRef q19]; done) | rfl) ?_
 intro pp ee ss mm bb mtd cc T0 K X0
 have E0 := X0.ext0
 refine o_aloadN K X0 d26_0 rfl rfl rfl ?_
 refine o_special K X0 (y := (⟨"java/lang/Record", "<init>", "()V"⟩ : MethodName)) rfl (w47 hw) (w48 hw) (w50 hw) (w51 hw) (by decide) (rm_rec l Z a0 hw a h0) (by decide) rfl (argsL := []) rfl (lenOf pd17 rfl) (W := 0) rfl (by decide) (by decide) (by decide) d26_1 rfl ?_
 intro v1 T1 h1 X1 U1
 obtain ⟨rfl, rfl⟩ := U1
 show oGoes pp ee bb ss Z T1 (mkF mm 4 _ []) _ _ _
 refine o_aloadN K X1 d26_4 rfl rfl rfl ?_
 refine o_static K X1  (w53 hw) (w54 hw) (w10 hw) (w55 hw) (by decide) (rm_is1_oSh l Z a0 hw s vs ks c0 fm cs h0 q4 q5 q6 q7 q12 q15 q18 q19 q20 q21) (by decide) rfl (argsL := [.ref s]) rfl (lenOf pd18 rfl) (W := 0) rfl (by decide) (by decide) (by decide) d26_5 rfl ?_
 intro v2 T2 h2 X2 U2
 obtain ⟨rfl, rfl⟩ := U2
 show oGoes pp ee bb ss Z T2 (mkF mm 8 _ [.int 1]) _ _ _
 refine o_if_ne_t K X2 d26_8 (by decide) (pc' := 21) (by decide) (by decide) ?_
 refine o_aloadN K X2 d26_21 rfl rfl rfl ?_
 refine o_static K X2  (w104 hw) (w105 hw) (w10 hw) (w106 hw) (by decide) (rm_is2_oId l Z a0 hw t vt kt d0 d1 fm cs h0 q8 q9 q10 q11 q13 q14 q16 q17 q18 q19 q20 q21) (by decide) rfl (argsL := [.ref t]) rfl (lenOf pd18 rfl) (W := 0) rfl (by decide) (by decide) (by decide) d26_22 rfl ?_
 intro v3 T3 h3 X3 U3
 obtain ⟨rfl, rfl⟩ := U3
 show oGoes pp ee bb ss Z T3 (mkF mm 25 _ [.int 1]) _ _ _
 refine o_if_ne_t K X3 d26_25 (by decide) (pc' := 38) (by decide) (by decide) ?_
 refine o_aloadN K X3 d26_38 rfl rfl rfl ?_
 refine o_aloadN K X3 d26_39 rfl rfl rfl ?_
 refine o_putfield K X3 (host := "") (Or.inl (w111 hw)) Via.refl q2 q0 (Or.inr ⟨(w112 hw), rfl, rfl⟩) (w9 hw) (ty := (.object z0)) (by decide) rfl rfl q1 d26_40 rfl ?_
 intro T4 h4 X4 W4
 have F4 := Fld.same W4 q2
 refine o_aloadN K X4 d26_43 rfl rfl rfl ?_
 refine o_aloadN K X4 d26_44 rfl rfl rfl ?_
 have m6 := (Fld.other W4 q3 (Or.inr (slot_ne (Or.inr (w114 hw)) (Or.inr (w112 hw)) (by decide) (t := (.object z0)) (t' := (.object z0)) (by decide) (by decide))))
 have m7 := (Exa.wr W4 q0)
 refine o_putfield K X4 (host := "") (Or.inl (w113 hw)) Via.refl m6 m7 (Or.inr ⟨(w114 hw), rfl, rfl⟩) (w9 hw) (ty := (.object z0)) (by decide) rfl rfl q1 d26_45 rfl ?_
 intro T5 h5 X5 W5
 have F5 := Fld.same W5 m6
 refine o_return K X5 d26_48 rfl ?_ (by decide) (by decide)
 have m8 := (Exa.wr W5 m7)
 have m9 := (Fld.other W5 F4 (Or.inr (slot_ne (Or.inr (w112 hw)) (Or.inr (w114 hw)) (by decide) (t := (.object z0)) (t' := (.object z0)) (by decide) (by decide))))
 exact ⟨rfl, (((Keep.refl h0 [a]).wr W4 (Or.inl me0)).wr W5 (Or.inl me0)), m8, m9, F5⟩
def r_rkh12 : Room := { frames := 4, cells := 0, slots := 0, locals := 59 }
def Q_rkh12 (Z : State) (a s vs : Addr) (ks : ClassId) (t vt : Addr) (kt : ClassId) (c0 d0 d1 cs : Int32) (h0 : Heap) (v : Option Value) (h : Heap) : Prop := v = some (.int (((31 : Int32) * c0) + (((31 : Int32) * d0) + d1))) ∧ Keep h0 h [s, t]
theorem rm_rkh12 (l : Launch) (Z : State) (a0 : Array Value) (hw : oHw Z a0) (a s vs : Addr) (ks : ClassId) (t vt : Addr) (kt : ClassId) (c0 d0 d1 cs : Int32) (h0 : Heap) (q0 : Exa Z h0 a z1) (q1 : Fld Z h0 a z1 "shelf" z2 (.ref s)) (q2 : Fld Z h0 a z1 "id" z2 (.ref t)) (q3 : Exa Z h0 s z0) (q4 : Fld Z h0 s z0 "value" "[B" (.ref vs)) (q5 : Fld Z h0 s z0 "coder" "B" (.int 0)) (q6 : oArr Z h0 vs ks .byte [(.int (nar .byte c0))]) (q7 : Fld Z h0 s z0 "hash" "I" (.int 0)) (q8 : Fld Z h0 s z0 "hashIsZero" "Z" (.int 0)) (q9 : Exa Z h0 vs "[B") (q10 : Z.heap.size ≤ s) (q11 : Exa Z h0 t z0) (q12 : Fld Z h0 t z0 "value" "[B" (.ref vt)) (q13 : Fld Z h0 t z0 "coder" "B" (.int 0)) (q14 : oArr Z h0 vt kt .byte [(.int (nar .byte d0)), (.int (nar .byte d1))]) (q15 : Fld Z h0 t z0 "hash" "I" (.int 0)) (q16 : Fld Z h0 t z0 "hashIsZero" "Z" (.int 0)) (q17 : Exa Z h0 vt "[B") (q18 : Z.heap.size ≤ t) (q19 : a ≠ s) (q20 : t ≠ s) (q21 : oCh c0) (q22 : oCh d0) (q23 : oCh d1) (q24 : Sta Z Z.heap z0 z3 "Z" (.int cs)) (q25 : ¬ (cs = (0 : Int32))) : oMet l Z (⟨z1, "hashCode", "()I"⟩ : MethodName) prog_16_method_3_code 1 (some .int) r_rkh12 [] #[.ref a] h0 (Q_rkh12 Z a s vs ks t vt kt c0 d0 d1 cs h0) := by
 refine oEnter (plainFor_of_name (by first | (simp [plainName, overriddenIn]; done) | decide +kernel)) (own := z1) (nm := "hashCode") rfl rfl (L := #[.val (.ref a)]) (fun m => by first | (simp [entryFrame, mkF, argsToLocals, Value.category]; done) | rfl) ?_
 intro pp ee ss mm bb mtd cc T0 K X0
 have E0 := X0.ext0
 refine o_bipush K X0 d27_0 rfl (z := 31) rfl ?_
 refine o_aloadN K X0 d27_2 rfl rfl rfl ?_
 refine o_getfield K X0 (host := "") (Or.inl (w111 hw)) Via.refl q1 d27_3 rfl ?_
 intro T1 X1
 refine o_virtual K X1   (w120 hw) (w121 hw) (oNF (w123 hw)) (w123 hw) (w122 hw) (w16 hw) (w124 hw) (by decide) q3 (rm_strh1 l Z a0 hw s vs ks c0 cs h0 q3 q4 q5 q6 q7 q8 q9 q10 q21 q24 q25) (by decide) rfl (argsL := []) rfl (lenOf pd10 rfl) (W := 1) rfl (by decide) (by decide) (by decide) d27_6 rfl ?_
 intro v2 T2 h2 X2 U2
 obtain ⟨rfl, u2_0⟩ := U2
 show oGoes pp ee bb ss Z T2 (mkF mm 9 _ [.int c0, .int 31]) _ _ _
 refine o_imul K X2 d27_9 rfl (z := ((31 : Int32) * c0)) rfl ?_
 refine o_aloadN K X2 d27_10 rfl rfl rfl ?_
 have m4 := (q2.keep u2_0 (ninS q19 nin0))
 refine o_getfield K X2 (host := "") (Or.inl (w113 hw)) Via.refl m4 d27_11 rfl ?_
 intro T3 X3
 have m5 := (q11.keep u2_0)
 have m6 := (q12.keep u2_0 (ninS q20 nin0))
 have m7 := (q13.keep u2_0 (ninS q20 nin0))
 have n8 : vt ≠ s := (oNeArr q3 (w15 hw) q14)
 have m9 := (q14.keep u2_0 (ninS n8 nin0))
 have m10 := (q15.keep u2_0 (ninS q20 nin0))
 have m11 := (q16.keep u2_0 (ninS q20 nin0))
 have m12 := (q17.keep u2_0)
 refine o_virtual K X3   (w120 hw) (w121 hw) (oNF (w123 hw)) (w123 hw) (w122 hw) (w16 hw) (w124 hw) (by decide) m5 (rm_strh2 l Z a0 hw t vt kt d0 d1 cs h2 m5 m6 m7 m9 m10 m11 m12 q18 q22 q23 q24 q25) (by decide) rfl (argsL := []) rfl (lenOf pd10 rfl) (W := 1) rfl (by decide) (by decide) (by decide) d27_14 rfl ?_
 intro v13 T13 h13 X13 U13
 obtain ⟨rfl, u13_0⟩ := U13
 show oGoes pp ee bb ss Z T13 (mkF mm 17 _ [(.int (((31 : Int32) * d0) + d1)), (.int ((31 : Int32) * c0))]) _ _ _
 refine o_iadd K X13 d27_17 rfl (z := (((31 : Int32) * c0) + (((31 : Int32) * d0) + d1))) rfl ?_
 refine o_ireturn K X13 d27_18 rfl ?_ (by decide) (by decide)
 exact ⟨rfl, (((Keep.refl h0 [s, t]).trans u2_0 (allS (Or.inl me0) all0)).trans u13_0 (allS (Or.inl me1) all0))⟩
def r_rk21 : Room := { frames := 6, cells := 0, slots := 0, locals := 3086 }
def Q_rk21 (Z : State) (a s vs : Addr) (ks : ClassId) (t vt : Addr) (kt : ClassId) (c0 c1 d0 : Int32) (fm : Value) (cs : Int32) (h0 : Heap) (v : Option Value) (h : Heap) : Prop := v = none ∧ Keep h0 h [a] ∧ Exa Z h a z1 ∧ Fld Z h a z1 "shelf" z2 (.ref s) ∧ Fld Z h a z1 "id" z2 (.ref t)
theorem rm_rk21 (l : Launch) (Z : State) (a0 : Array Value) (hw : oHw Z a0) (a s vs : Addr) (ks : ClassId) (t vt : Addr) (kt : ClassId) (c0 c1 d0 : Int32) (fm : Value) (cs : Int32) (h0 : Heap) (q0 : Exa Z h0 a z1) (q1 : Z.heap.size ≤ a) (q2 : Fld Z h0 a z1 "shelf" z2 .null) (q3 : Fld Z h0 a z1 "id" z2 .null) (q4 : Exa Z h0 s z0) (q5 : Fld Z h0 s z0 "value" "[B" (.ref vs)) (q6 : Fld Z h0 s z0 "coder" "B" (.int 0)) (q7 : oArr Z h0 vs ks .byte [(.int (nar .byte c0)), (.int (nar .byte c1))]) (q8 : Exa Z h0 t z0) (q9 : Fld Z h0 t z0 "value" "[B" (.ref vt)) (q10 : Fld Z h0 t z0 "coder" "B" (.int 0)) (q11 : oArr Z h0 vt kt .byte [(.int (nar .byte d0))]) (q12 : oSh c0) (q13 : oSh c1) (q14 : oId d0) (q15 : oCh c0) (q16 : oCh c1) (q17 : oCh d0) (q18 : Sta Z Z.heap z4 z6 z7 fm) (q19 : fm.isRef = true) (q20 : Sta Z Z.heap z0 z3 "Z" (.int cs)) (q21 : ¬ (cs = (0 : Int32))) : oMet l Z (⟨z1, "<init>", z8⟩ : MethodName) prog_16_method_1_code 3 none r_rk21 [] #[.ref a, .ref s, .ref t] h0 (Q_rk21 Z a s vs ks t vt kt c0 c1 d0 fm cs h0) := by
 refine oEnter (plainFor_of_name (by first | (simp [plainName, overriddenIn]; done) | decide +kernel)) (own := z1) (nm := "<init>") rfl rfl (L := #[.val (.ref a), .val (.ref s), .val (.ref t)]) (fun m => by first | (simp [entryFrame, mkF, argsToLocals, Value.category, oCatRef q19]; done) | rfl) ?_
 intro pp ee ss mm bb mtd cc T0 K X0
 have E0 := X0.ext0
 refine o_aloadN K X0 d26_0 rfl rfl rfl ?_
 refine o_special K X0 (y := (⟨"java/lang/Record", "<init>", "()V"⟩ : MethodName)) rfl (w47 hw) (w48 hw) (w50 hw) (w51 hw) (by decide) (rm_rec l Z a0 hw a h0) (by decide) rfl (argsL := []) rfl (lenOf pd17 rfl) (W := 0) rfl (by decide) (by decide) (by decide) d26_1 rfl ?_
 intro v1 T1 h1 X1 U1
 obtain ⟨rfl, rfl⟩ := U1
 show oGoes pp ee bb ss Z T1 (mkF mm 4 _ []) _ _ _
 refine o_aloadN K X1 d26_4 rfl rfl rfl ?_
 refine o_static K X1  (w53 hw) (w54 hw) (w10 hw) (w55 hw) (by decide) (rm_is2_oSh l Z a0 hw s vs ks c0 c1 fm cs h0 q4 q5 q6 q7 q12 q13 q15 q16 q18 q19 q20 q21) (by decide) rfl (argsL := [.ref s]) rfl (lenOf pd18 rfl) (W := 0) rfl (by decide) (by decide) (by decide) d26_5 rfl ?_
 intro v2 T2 h2 X2 U2
 obtain ⟨rfl, rfl⟩ := U2
 show oGoes pp ee bb ss Z T2 (mkF mm 8 _ [.int 1]) _ _ _
 refine o_if_ne_t K X2 d26_8 (by decide) (pc' := 21) (by decide) (by decide) ?_
 refine o_aloadN K X2 d26_21 rfl rfl rfl ?_
 refine o_static K X2  (w104 hw) (w105 hw) (w10 hw) (w106 hw) (by decide) (rm_is1_oId l Z a0 hw t vt kt d0 fm cs h0 q8 q9 q10 q11 q14 q17 q18 q19 q20 q21) (by decide) rfl (argsL := [.ref t]) rfl (lenOf pd18 rfl) (W := 0) rfl (by decide) (by decide) (by decide) d26_22 rfl ?_
 intro v3 T3 h3 X3 U3
 obtain ⟨rfl, rfl⟩ := U3
 show oGoes pp ee bb ss Z T3 (mkF mm 25 _ [.int 1]) _ _ _
 refine o_if_ne_t K X3 d26_25 (by decide) (pc' := 38) (by decide) (by decide) ?_
 refine o_aloadN K X3 d26_38 rfl rfl rfl ?_
 refine o_aloadN K X3 d26_39 rfl rfl rfl ?_
 refine o_putfield K X3 (host := "") (Or.inl (w111 hw)) Via.refl q2 q0 (Or.inr ⟨(w112 hw), rfl, rfl⟩) (w9 hw) (ty := (.object z0)) (by decide) rfl rfl q1 d26_40 rfl ?_
 intro T4 h4 X4 W4
 have F4 := Fld.same W4 q2
 refine o_aloadN K X4 d26_43 rfl rfl rfl ?_
 refine o_aloadN K X4 d26_44 rfl rfl rfl ?_
 have m6 := (Fld.other W4 q3 (Or.inr (slot_ne (Or.inr (w114 hw)) (Or.inr (w112 hw)) (by decide) (t := (.object z0)) (t' := (.object z0)) (by decide) (by decide))))
 have m7 := (Exa.wr W4 q0)
 refine o_putfield K X4 (host := "") (Or.inl (w113 hw)) Via.refl m6 m7 (Or.inr ⟨(w114 hw), rfl, rfl⟩) (w9 hw) (ty := (.object z0)) (by decide) rfl rfl q1 d26_45 rfl ?_
 intro T5 h5 X5 W5
 have F5 := Fld.same W5 m6
 refine o_return K X5 d26_48 rfl ?_ (by decide) (by decide)
 have m8 := (Exa.wr W5 m7)
 have m9 := (Fld.other W5 F4 (Or.inr (slot_ne (Or.inr (w112 hw)) (Or.inr (w114 hw)) (by decide) (t := (.object z0)) (t' := (.object z0)) (by decide) (by decide))))
 exact ⟨rfl, (((Keep.refl h0 [a]).wr W4 (Or.inl me0)).wr W5 (Or.inl me0)), m8, m9, F5⟩
def r_rkh21 : Room := { frames := 4, cells := 0, slots := 0, locals := 59 }
def Q_rkh21 (Z : State) (a s vs : Addr) (ks : ClassId) (t vt : Addr) (kt : ClassId) (c0 c1 d0 cs : Int32) (h0 : Heap) (v : Option Value) (h : Heap) : Prop := v = some (.int (((31 : Int32) * (((31 : Int32) * c0) + c1)) + d0)) ∧ Keep h0 h [s, t]
theorem rm_rkh21 (l : Launch) (Z : State) (a0 : Array Value) (hw : oHw Z a0) (a s vs : Addr) (ks : ClassId) (t vt : Addr) (kt : ClassId) (c0 c1 d0 cs : Int32) (h0 : Heap) (q0 : Exa Z h0 a z1) (q1 : Fld Z h0 a z1 "shelf" z2 (.ref s)) (q2 : Fld Z h0 a z1 "id" z2 (.ref t)) (q3 : Exa Z h0 s z0) (q4 : Fld Z h0 s z0 "value" "[B" (.ref vs)) (q5 : Fld Z h0 s z0 "coder" "B" (.int 0)) (q6 : oArr Z h0 vs ks .byte [(.int (nar .byte c0)), (.int (nar .byte c1))]) (q7 : Fld Z h0 s z0 "hash" "I" (.int 0)) (q8 : Fld Z h0 s z0 "hashIsZero" "Z" (.int 0)) (q9 : Exa Z h0 vs "[B") (q10 : Z.heap.size ≤ s) (q11 : Exa Z h0 t z0) (q12 : Fld Z h0 t z0 "value" "[B" (.ref vt)) (q13 : Fld Z h0 t z0 "coder" "B" (.int 0)) (q14 : oArr Z h0 vt kt .byte [(.int (nar .byte d0))]) (q15 : Fld Z h0 t z0 "hash" "I" (.int 0)) (q16 : Fld Z h0 t z0 "hashIsZero" "Z" (.int 0)) (q17 : Exa Z h0 vt "[B") (q18 : Z.heap.size ≤ t) (q19 : a ≠ s) (q20 : t ≠ s) (q21 : oCh c0) (q22 : oCh c1) (q23 : oCh d0) (q24 : Sta Z Z.heap z0 z3 "Z" (.int cs)) (q25 : ¬ (cs = (0 : Int32))) : oMet l Z (⟨z1, "hashCode", "()I"⟩ : MethodName) prog_16_method_3_code 1 (some .int) r_rkh21 [] #[.ref a] h0 (Q_rkh21 Z a s vs ks t vt kt c0 c1 d0 cs h0) := by
 refine oEnter (plainFor_of_name (by first | (simp [plainName, overriddenIn]; done) | decide +kernel)) (own := z1) (nm := "hashCode") rfl rfl (L := #[.val (.ref a)]) (fun m => by first | (simp [entryFrame, mkF, argsToLocals, Value.category]; done) | rfl) ?_
 intro pp ee ss mm bb mtd cc T0 K X0
 have E0 := X0.ext0
 refine o_bipush K X0 d27_0 rfl (z := 31) rfl ?_
 refine o_aloadN K X0 d27_2 rfl rfl rfl ?_
 refine o_getfield K X0 (host := "") (Or.inl (w111 hw)) Via.refl q1 d27_3 rfl ?_
 intro T1 X1
 refine o_virtual K X1   (w120 hw) (w121 hw) (oNF (w123 hw)) (w123 hw) (w122 hw) (w16 hw) (w124 hw) (by decide) q3 (rm_strh2 l Z a0 hw s vs ks c0 c1 cs h0 q3 q4 q5 q6 q7 q8 q9 q10 q21 q22 q24 q25) (by decide) rfl (argsL := []) rfl (lenOf pd10 rfl) (W := 1) rfl (by decide) (by decide) (by decide) d27_6 rfl ?_
 intro v2 T2 h2 X2 U2
 obtain ⟨rfl, u2_0⟩ := U2
 show oGoes pp ee bb ss Z T2 (mkF mm 9 _ [(.int (((31 : Int32) * c0) + c1)), .int 31]) _ _ _
 refine o_imul K X2 d27_9 rfl (z := ((31 : Int32) * (((31 : Int32) * c0) + c1))) rfl ?_
 refine o_aloadN K X2 d27_10 rfl rfl rfl ?_
 have m4 := (q2.keep u2_0 (ninS q19 nin0))
 refine o_getfield K X2 (host := "") (Or.inl (w113 hw)) Via.refl m4 d27_11 rfl ?_
 intro T3 X3
 have m5 := (q11.keep u2_0)
 have m6 := (q12.keep u2_0 (ninS q20 nin0))
 have m7 := (q13.keep u2_0 (ninS q20 nin0))
 have n8 : vt ≠ s := (oNeArr q3 (w15 hw) q14)
 have m9 := (q14.keep u2_0 (ninS n8 nin0))
 have m10 := (q15.keep u2_0 (ninS q20 nin0))
 have m11 := (q16.keep u2_0 (ninS q20 nin0))
 have m12 := (q17.keep u2_0)
 refine o_virtual K X3   (w120 hw) (w121 hw) (oNF (w123 hw)) (w123 hw) (w122 hw) (w16 hw) (w124 hw) (by decide) m5 (rm_strh1 l Z a0 hw t vt kt d0 cs h2 m5 m6 m7 m9 m10 m11 m12 q18 q23 q24 q25) (by decide) rfl (argsL := []) rfl (lenOf pd10 rfl) (W := 1) rfl (by decide) (by decide) (by decide) d27_14 rfl ?_
 intro v13 T13 h13 X13 U13
 obtain ⟨rfl, u13_0⟩ := U13
 show oGoes pp ee bb ss Z T13 (mkF mm 17 _ [.int d0, (.int ((31 : Int32) * (((31 : Int32) * c0) + c1)))]) _ _ _
 refine o_iadd K X13 d27_17 rfl (z := (((31 : Int32) * (((31 : Int32) * c0) + c1)) + d0)) rfl ?_
 refine o_ireturn K X13 d27_18 rfl ?_ (by decide) (by decide)
 exact ⟨rfl, (((Keep.refl h0 [s, t]).trans u2_0 (allS (Or.inl me0) all0)).trans u13_0 (allS (Or.inl me1) all0))⟩
def r_rk22 : Room := { frames := 6, cells := 0, slots := 0, locals := 3086 }
def Q_rk22 (Z : State) (a s vs : Addr) (ks : ClassId) (t vt : Addr) (kt : ClassId) (c0 c1 d0 d1 : Int32) (fm : Value) (cs : Int32) (h0 : Heap) (v : Option Value) (h : Heap) : Prop := v = none ∧ Keep h0 h [a] ∧ Exa Z h a z1 ∧ Fld Z h a z1 "shelf" z2 (.ref s) ∧ Fld Z h a z1 "id" z2 (.ref t)
theorem rm_rk22 (l : Launch) (Z : State) (a0 : Array Value) (hw : oHw Z a0) (a s vs : Addr) (ks : ClassId) (t vt : Addr) (kt : ClassId) (c0 c1 d0 d1 : Int32) (fm : Value) (cs : Int32) (h0 : Heap) (q0 : Exa Z h0 a z1) (q1 : Z.heap.size ≤ a) (q2 : Fld Z h0 a z1 "shelf" z2 .null) (q3 : Fld Z h0 a z1 "id" z2 .null) (q4 : Exa Z h0 s z0) (q5 : Fld Z h0 s z0 "value" "[B" (.ref vs)) (q6 : Fld Z h0 s z0 "coder" "B" (.int 0)) (q7 : oArr Z h0 vs ks .byte [(.int (nar .byte c0)), (.int (nar .byte c1))]) (q8 : Exa Z h0 t z0) (q9 : Fld Z h0 t z0 "value" "[B" (.ref vt)) (q10 : Fld Z h0 t z0 "coder" "B" (.int 0)) (q11 : oArr Z h0 vt kt .byte [(.int (nar .byte d0)), (.int (nar .byte d1))]) (q12 : oSh c0) (q13 : oSh c1) (q14 : oId d0) (q15 : oId d1) (q16 : oCh c0) (q17 : oCh c1) (q18 : oCh d0) (q19 : oCh d1) (q20 : Sta Z Z.heap z4 z6 z7 fm) (q21 : fm.isRef = true) (q22 : Sta Z Z.heap z0 z3 "Z" (.int cs)) (q23 : ¬ (cs = (0 : Int32))) : oMet l Z (⟨z1, "<init>", z8⟩ : MethodName) prog_16_method_1_code 3 none r_rk22 [] #[.ref a, .ref s, .ref t] h0 (Q_rk22 Z a s vs ks t vt kt c0 c1 d0 d1 fm cs h0) := by
 refine oEnter (plainFor_of_name (by first | (simp [plainName, overriddenIn]; done) | decide +kernel)) (own := z1) (nm := "<init>") rfl rfl (L := #[.val (.ref a), .val (.ref s), .val (.ref t)]) (fun m => by first | (simp [entryFrame, mkF, argsToLocals, Value.category, oCatRef q21]; done) | rfl) ?_
 intro pp ee ss mm bb mtd cc T0 K X0
 have E0 := X0.ext0
 refine o_aloadN K X0 d26_0 rfl rfl rfl ?_
 refine o_special K X0 (y := (⟨"java/lang/Record", "<init>", "()V"⟩ : MethodName)) rfl (w47 hw) (w48 hw) (w50 hw) (w51 hw) (by decide) (rm_rec l Z a0 hw a h0) (by decide) rfl (argsL := []) rfl (lenOf pd17 rfl) (W := 0) rfl (by decide) (by decide) (by decide) d26_1 rfl ?_
 intro v1 T1 h1 X1 U1
 obtain ⟨rfl, rfl⟩ := U1
 show oGoes pp ee bb ss Z T1 (mkF mm 4 _ []) _ _ _
 refine o_aloadN K X1 d26_4 rfl rfl rfl ?_
 refine o_static K X1  (w53 hw) (w54 hw) (w10 hw) (w55 hw) (by decide) (rm_is2_oSh l Z a0 hw s vs ks c0 c1 fm cs h0 q4 q5 q6 q7 q12 q13 q16 q17 q20 q21 q22 q23) (by decide) rfl (argsL := [.ref s]) rfl (lenOf pd18 rfl) (W := 0) rfl (by decide) (by decide) (by decide) d26_5 rfl ?_
 intro v2 T2 h2 X2 U2
 obtain ⟨rfl, rfl⟩ := U2
 show oGoes pp ee bb ss Z T2 (mkF mm 8 _ [.int 1]) _ _ _
 refine o_if_ne_t K X2 d26_8 (by decide) (pc' := 21) (by decide) (by decide) ?_
 refine o_aloadN K X2 d26_21 rfl rfl rfl ?_
 refine o_static K X2  (w104 hw) (w105 hw) (w10 hw) (w106 hw) (by decide) (rm_is2_oId l Z a0 hw t vt kt d0 d1 fm cs h0 q8 q9 q10 q11 q14 q15 q18 q19 q20 q21 q22 q23) (by decide) rfl (argsL := [.ref t]) rfl (lenOf pd18 rfl) (W := 0) rfl (by decide) (by decide) (by decide) d26_22 rfl ?_
 intro v3 T3 h3 X3 U3
 obtain ⟨rfl, rfl⟩ := U3
 show oGoes pp ee bb ss Z T3 (mkF mm 25 _ [.int 1]) _ _ _
 refine o_if_ne_t K X3 d26_25 (by decide) (pc' := 38) (by decide) (by decide) ?_
 refine o_aloadN K X3 d26_38 rfl rfl rfl ?_
 refine o_aloadN K X3 d26_39 rfl rfl rfl ?_
 refine o_putfield K X3 (host := "") (Or.inl (w111 hw)) Via.refl q2 q0 (Or.inr ⟨(w112 hw), rfl, rfl⟩) (w9 hw) (ty := (.object z0)) (by decide) rfl rfl q1 d26_40 rfl ?_
 intro T4 h4 X4 W4
 have F4 := Fld.same W4 q2
 refine o_aloadN K X4 d26_43 rfl rfl rfl ?_
 refine o_aloadN K X4 d26_44 rfl rfl rfl ?_
 have m6 := (Fld.other W4 q3 (Or.inr (slot_ne (Or.inr (w114 hw)) (Or.inr (w112 hw)) (by decide) (t := (.object z0)) (t' := (.object z0)) (by decide) (by decide))))
 have m7 := (Exa.wr W4 q0)
 refine o_putfield K X4 (host := "") (Or.inl (w113 hw)) Via.refl m6 m7 (Or.inr ⟨(w114 hw), rfl, rfl⟩) (w9 hw) (ty := (.object z0)) (by decide) rfl rfl q1 d26_45 rfl ?_
 intro T5 h5 X5 W5
 have F5 := Fld.same W5 m6
 refine o_return K X5 d26_48 rfl ?_ (by decide) (by decide)
 have m8 := (Exa.wr W5 m7)
 have m9 := (Fld.other W5 F4 (Or.inr (slot_ne (Or.inr (w112 hw)) (Or.inr (w114 hw)) (by decide) (t := (.object z0)) (t' := (.object z0)) (by decide) (by decide))))
 exact ⟨rfl, (((Keep.refl h0 [a]).wr W4 (Or.inl me0)).wr W5 (Or.inl me0)), m8, m9, F5⟩
def r_rkh22 : Room := { frames := 4, cells := 0, slots := 0, locals := 59 }
def Q_rkh22 (Z : State) (a s vs : Addr) (ks : ClassId) (t vt : Addr) (kt : ClassId) (c0 c1 d0 d1 cs : Int32) (h0 : Heap) (v : Option Value) (h : Heap) : Prop := v = some (.int (((31 : Int32) * (((31 : Int32) * c0) + c1)) + (((31 : Int32) * d0) + d1))) ∧ Keep h0 h [s, t]
theorem rm_rkh22 (l : Launch) (Z : State) (a0 : Array Value) (hw : oHw Z a0) (a s vs : Addr) (ks : ClassId) (t vt : Addr) (kt : ClassId) (c0 c1 d0 d1 cs : Int32) (h0 : Heap) (q0 : Exa Z h0 a z1) (q1 : Fld Z h0 a z1 "shelf" z2 (.ref s)) (q2 : Fld Z h0 a z1 "id" z2 (.ref t)) (q3 : Exa Z h0 s z0) (q4 : Fld Z h0 s z0 "value" "[B" (.ref vs)) (q5 : Fld Z h0 s z0 "coder" "B" (.int 0)) (q6 : oArr Z h0 vs ks .byte [(.int (nar .byte c0)), (.int (nar .byte c1))]) (q7 : Fld Z h0 s z0 "hash" "I" (.int 0)) (q8 : Fld Z h0 s z0 "hashIsZero" "Z" (.int 0)) (q9 : Exa Z h0 vs "[B") (q10 : Z.heap.size ≤ s) (q11 : Exa Z h0 t z0) (q12 : Fld Z h0 t z0 "value" "[B" (.ref vt)) (q13 : Fld Z h0 t z0 "coder" "B" (.int 0)) (q14 : oArr Z h0 vt kt .byte [(.int (nar .byte d0)), (.int (nar .byte d1))]) (q15 : Fld Z h0 t z0 "hash" "I" (.int 0)) (q16 : Fld Z h0 t z0 "hashIsZero" "Z" (.int 0)) (q17 : Exa Z h0 vt "[B") (q18 : Z.heap.size ≤ t) (q19 : a ≠ s) (q20 : t ≠ s) (q21 : oCh c0) (q22 : oCh c1) (q23 : oCh d0) (q24 : oCh d1) (q25 : Sta Z Z.heap z0 z3 "Z" (.int cs)) (q26 : ¬ (cs = (0 : Int32))) : oMet l Z (⟨z1, "hashCode", "()I"⟩ : MethodName) prog_16_method_3_code 1 (some .int) r_rkh22 [] #[.ref a] h0 (Q_rkh22 Z a s vs ks t vt kt c0 c1 d0 d1 cs h0) := by
 refine oEnter (plainFor_of_name (by first | (simp [plainName, overriddenIn]; done) | decide +kernel)) (own := z1) (nm := "hashCode") rfl rfl (L := #[.val (.ref a)]) (fun m => by first | (simp [entryFrame, mkF, argsToLocals, Value.category]; done) | rfl) ?_
 intro pp ee ss mm bb mtd cc T0 K X0
 have E0 := X0.ext0
 refine o_bipush K X0 d27_0 rfl (z := 31) rfl ?_
 refine o_aloadN K X0 d27_2 rfl rfl rfl ?_
 refine o_getfield K X0 (host := "") (Or.inl (w111 hw)) Via.refl q1 d27_3 rfl ?_
 intro T1 X1
 refine o_virtual K X1   (w120 hw) (w121 hw) (oNF (w123 hw)) (w123 hw) (w122 hw) (w16 hw) (w124 hw) (by decide) q3 (rm_strh2 l Z a0 hw s vs ks c0 c1 cs h0 q3 q4 q5 q6 q7 q8 q9 q10 q21 q22 q25 q26) (by decide) rfl (argsL := []) rfl (lenOf pd10 rfl) (W := 1) rfl (by decide) (by decide) (by decide) d27_6 rfl ?_
 intro v2 T2 h2 X2 U2
 obtain ⟨rfl, u2_0⟩ := U2
 show oGoes pp ee bb ss Z T2 (mkF mm 9 _ [(.int (((31 : Int32) * c0) + c1)), .int 31]) _ _ _
 refine o_imul K X2 d27_9 rfl (z := ((31 : Int32) * (((31 : Int32) * c0) + c1))) rfl ?_
 refine o_aloadN K X2 d27_10 rfl rfl rfl ?_
 have m4 := (q2.keep u2_0 (ninS q19 nin0))
 refine o_getfield K X2 (host := "") (Or.inl (w113 hw)) Via.refl m4 d27_11 rfl ?_
 intro T3 X3
 have m5 := (q11.keep u2_0)
 have m6 := (q12.keep u2_0 (ninS q20 nin0))
 have m7 := (q13.keep u2_0 (ninS q20 nin0))
 have n8 : vt ≠ s := (oNeArr q3 (w15 hw) q14)
 have m9 := (q14.keep u2_0 (ninS n8 nin0))
 have m10 := (q15.keep u2_0 (ninS q20 nin0))
 have m11 := (q16.keep u2_0 (ninS q20 nin0))
 have m12 := (q17.keep u2_0)
 refine o_virtual K X3   (w120 hw) (w121 hw) (oNF (w123 hw)) (w123 hw) (w122 hw) (w16 hw) (w124 hw) (by decide) m5 (rm_strh2 l Z a0 hw t vt kt d0 d1 cs h2 m5 m6 m7 m9 m10 m11 m12 q18 q23 q24 q25 q26) (by decide) rfl (argsL := []) rfl (lenOf pd10 rfl) (W := 1) rfl (by decide) (by decide) (by decide) d27_14 rfl ?_
 intro v13 T13 h13 X13 U13
 obtain ⟨rfl, u13_0⟩ := U13
 show oGoes pp ee bb ss Z T13 (mkF mm 17 _ [(.int (((31 : Int32) * d0) + d1)), (.int ((31 : Int32) * (((31 : Int32) * c0) + c1)))]) _ _ _
 refine o_iadd K X13 d27_17 rfl (z := (((31 : Int32) * (((31 : Int32) * c0) + c1)) + (((31 : Int32) * d0) + d1))) rfl ?_
 refine o_ireturn K X13 d27_18 rfl ?_ (by decide) (by decide)
 exact ⟨rfl, (((Keep.refl h0 [s, t]).trans u2_0 (allS (Or.inl me0) all0)).trans u13_0 (allS (Or.inl me1) all0))⟩
theorem pd19 : parseMethodDescriptor "(ICC)Ljava/lang/String;" = some ⟨[.int, .char, .char], some (.object z0)⟩ := by decide +kernel
theorem pd20 : parseMethodDescriptor z8 = some ⟨[(.object z0), (.object z0)], none⟩ := by decide +kernel
def Q_lw110 (Z : State) (i0 i1 i2 i3 i4 i5 ps sa sb ia ib xa xb ya yb : Int32) (fm : Value) (cs : Int32) (h0 : Heap) (v : Option Value) (h : Heap) : Prop := v = some (.int 1)
theorem tl_lw110 (l : Launch) (Z : State) (a0 : Array Value) (hw : oHw Z a0) (i0 i1 i2 i3 i4 i5 ps sa sb ia ib xa xb ya yb : Int32) (fm : Value) (cs : Int32) (h0 : Heap) (q0 : (((31 : Int32) * sa) + ia) = (((31 : Int32) * xa) + ya)) (q1 : oSh sa) (q2 : oSh sb) (q3 : oId ia) (q4 : oId ib) (q5 : oSh xa) (q6 : oSh xb) (q7 : oId ya) (q8 : oId yb) (q9 : oCh sa) (q10 : oCh sb) (q11 : oCh ia) (q12 : oCh ib) (q13 : oCh xa) (q14 : oCh xb) (q15 : oCh ya) (q16 : oCh yb) (q17 : nar .char sa = sa) (q18 : nar .char sb = sb) (q19 : nar .char ia = ia) (q20 : nar .char ib = ib) (q21 : nar .char xa = xa) (q22 : nar .char xb = xb) (q23 : nar .char ya = ya) (q24 : nar .char yb = yb) (q25 : Sta Z Z.heap z4 z6 z7 fm) (q26 : fm.isRef = true) (q27 : Sta Z Z.heap z0 z3 "Z" (.int cs)) (q28 : ¬ (cs = (0 : Int32))) {Q : Option Value → Heap → Prop} (hQ : ∀ v h, Q_lw110 Z i0 i1 i2 i3 i4 i5 ps sa sb ia ib xa xb ya yb fm cs h0 v h → Q v h) {pp : Program} {ee : Env} {ss : State} {mm : MethodId} {bb : List Frame} {mtd : Method} {cc : Code} {A : Array Value} {T0 : State} (K : oCtx pp ss mm mtd cc Z z5 code maxLocals "law" ret x) (X0 : oSt pp l ee room_1 ss mm A bb mtd cc Z T0 h0 0 0) : oGoes pp ee bb ss Z T0 (mkF mm 191 #[vI i0, vI i1, vI i2, vI i3, vI i4, vI i5, vI 1, vI 1, vI ps, vI sa, vI sb, vI ia, vI ib, vI xa, vI xb, vI ya, vI yb, vI 0, uS, uS, uS, uS] []) Q room_1.cells room_1.slots := by
 have E0 := X0.ext0
 refine o_new K X0 (w8 hw) (w9 hw) (w10 hw) at_191 rfl (by decide) (by decide) ?_
 intro T1 h1 b1 X1 g1 E1 A1 D1 G1
 have F1_shelf : Fld Z h1 b1 z1 "shelf" z2 .null := (D1 (Or.inr (w112 hw)) (ty := (.object z0)) (by decide))
 have F1_id : Fld Z h1 b1 z1 "id" z2 .null := (D1 (Or.inr (w114 hw)) (ty := (.object z0)) (by decide))
 refine o_dup K X1 at_194 rfl rfl ?_
 refine o_iload K X1 at_195 rfl rfl ?_
 refine o_iload K X1 at_197 rfl rfl ?_
 refine o_iload K X1 at_199 rfl rfl ?_
 refine o_static K X1  (w11 hw) (w12 hw) (w2 hw) (w13 hw) (by decide) (rm_str1 l Z a0 hw sa sb cs h1 q9.2 q17 q18 q27 q28) (by decide) rfl (argsL := [.int 1, .int sa, .int sb]) rfl (lenOf pd19 rfl) (W := 2) rfl (by decide) (by decide) (by decide) at_201 rfl ?_
 intro v2 T2 h2 X2 U2
 obtain ⟨s_2, sv_2, ks_2, rfl, u2_0, u2_1, u2_2, u2_3, u2_4, u2_5, u2_6, u2_7, u2_8, u2_9⟩ := U2
 have G2_s : Z.heap.size ≤ s_2 := Nat.le_trans X1.ext0.1 u2_1
 have G2_sv : Z.heap.size ≤ sv_2 := Nat.le_trans X1.ext0.1 u2_8
 show oGoes pp ee bb ss Z T2 (mkF mm 204 _ [.ref s_2, .ref b1, .ref b1]) _ _ _
 refine o_iload K X2 at_204 rfl rfl ?_
 refine o_iload K X2 at_206 rfl rfl ?_
 refine o_iload K X2 at_208 rfl rfl ?_
 refine o_static K X2  (w11 hw) (w12 hw) (w2 hw) (w13 hw) (by decide) (rm_str1 l Z a0 hw ia ib cs h2 q11.2 q19 q20 q27 q28) (by decide) rfl (argsL := [.int 1, .int ia, .int ib]) rfl (lenOf pd19 rfl) (W := 3) rfl (by decide) (by decide) (by decide) at_210 rfl ?_
 intro v3 T3 h3 X3 U3
 obtain ⟨s_3, sv_3, ks_3, rfl, u3_0, u3_1, u3_2, u3_3, u3_4, u3_5, u3_6, u3_7, u3_8, u3_9⟩ := U3
 have G3_s : Z.heap.size ≤ s_3 := Nat.le_trans X2.ext0.1 u3_1
 have G3_sv : Z.heap.size ≤ sv_3 := Nat.le_trans X2.ext0.1 u3_8
 show oGoes pp ee bb ss Z T3 (mkF mm 213 _ [.ref s_3, .ref s_2, .ref b1, .ref b1]) _ _ _
 have m4 := ((A1.keep u2_0).keep u3_0)
 have m5 := ((F1_shelf.keep u2_0 nin0).keep u3_0 nin0)
 have m6 := ((F1_id.keep u2_0 nin0).keep u3_0 nin0)
 have m7 := (u2_2.keep u3_0)
 have m8 := (u2_3.keep u3_0 nin0)
 have m9 := (u2_4.keep u3_0 nin0)
 have m10 := (u2_5.keep u3_0 nin0)
 refine o_special K X3 (y := (⟨z1, "<init>", z8⟩ : MethodName)) rfl (w44 hw) (w45 hw) (w10 hw) (w46 hw) (by decide) (rm_rk11 l Z a0 hw b1 s_2 sv_2 ks_2 s_3 sv_3 ks_3 sa ia fm cs h3 m4 G1 m5 m6 m7 m8 m9 m10 u3_2 u3_3 u3_4 u3_5 q1 q3 q9 q11 q25 q26 q27 q28) (by decide) rfl (argsL := [.ref s_2, .ref s_3]) rfl (lenOf pd20 rfl) (W := 1) rfl (by decide) (by decide) (by decide) at_213 rfl ?_
 intro v11 T11 h11 X11 U11
 obtain ⟨rfl, u11_0, u11_1, u11_2, u11_3⟩ := U11
 show oGoes pp ee bb ss Z T11 (mkF mm 216 _ [.ref b1]) _ _ _
 refine o_astore K X11 at_216 rfl rfl (L' := #[vI i0, vI i1, vI i2, vI i3, vI i4, vI i5, vI 1, vI 1, vI ps, vI sa, vI sb, vI ia, vI ib, vI xa, vI xb, vI ya, vI yb, vI 0, vR b1, uS, uS, uS]) rfl ?_
 refine o_new K X11 (w8 hw) (w9 hw) (w10 hw) at_218 rfl (by decide) (by decide) ?_
 intro T12 h12 b12 X12 g12 E12 A12 D12 G12
 have F12_shelf : Fld Z h12 b12 z1 "shelf" z2 .null := (D12 (Or.inr (w112 hw)) (ty := (.object z0)) (by decide))
 have F12_id : Fld Z h12 b12 z1 "id" z2 .null := (D12 (Or.inr (w114 hw)) (ty := (.object z0)) (by decide))
 refine o_dup K X12 at_221 rfl rfl ?_
 refine o_iload K X12 at_222 rfl rfl ?_
 refine o_iload K X12 at_224 rfl rfl ?_
 refine o_iload K X12 at_226 rfl rfl ?_
 refine o_static K X12  (w11 hw) (w12 hw) (w2 hw) (w13 hw) (by decide) (rm_str1 l Z a0 hw xa xb cs h12 q13.2 q21 q22 q27 q28) (by decide) rfl (argsL := [.int 1, .int xa, .int xb]) rfl (lenOf pd19 rfl) (W := 2) rfl (by decide) (by decide) (by decide) at_228 rfl ?_
 intro v13 T13 h13 X13 U13
 obtain ⟨s_13, sv_13, ks_13, rfl, u13_0, u13_1, u13_2, u13_3, u13_4, u13_5, u13_6, u13_7, u13_8, u13_9⟩ := U13
 have G13_s : Z.heap.size ≤ s_13 := Nat.le_trans X12.ext0.1 u13_1
 have G13_sv : Z.heap.size ≤ sv_13 := Nat.le_trans X12.ext0.1 u13_8
 show oGoes pp ee bb ss Z T13 (mkF mm 231 _ [.ref s_13, .ref b12, .ref b12]) _ _ _
 refine o_iload K X13 at_231 rfl rfl ?_
 refine o_iload K X13 at_233 rfl rfl ?_
 refine o_iload K X13 at_235 rfl rfl ?_
 refine o_static K X13  (w11 hw) (w12 hw) (w2 hw) (w13 hw) (by decide) (rm_str1 l Z a0 hw ya yb cs h13 q15.2 q23 q24 q27 q28) (by decide) rfl (argsL := [.int 1, .int ya, .int yb]) rfl (lenOf pd19 rfl) (W := 3) rfl (by decide) (by decide) (by decide) at_237 rfl ?_
 intro v14 T14 h14 X14 U14
 obtain ⟨s_14, sv_14, ks_14, rfl, u14_0, u14_1, u14_2, u14_3, u14_4, u14_5, u14_6, u14_7, u14_8, u14_9⟩ := U14
 have G14_s : Z.heap.size ≤ s_14 := Nat.le_trans X13.ext0.1 u14_1
 have G14_sv : Z.heap.size ≤ sv_14 := Nat.le_trans X13.ext0.1 u14_8
 show oGoes pp ee bb ss Z T14 (mkF mm 240 _ [.ref s_14, .ref s_13, .ref b12, .ref b12]) _ _ _
 have m15 := ((A12.keep u13_0).keep u14_0)
 have m16 := ((F12_shelf.keep u13_0 nin0).keep u14_0 nin0)
 have m17 := ((F12_id.keep u13_0 nin0).keep u14_0 nin0)
 have m18 := (u13_2.keep u14_0)
 have m19 := (u13_3.keep u14_0 nin0)
 have m20 := (u13_4.keep u14_0 nin0)
 have m21 := (u13_5.keep u14_0 nin0)
 refine o_special K X14 (y := (⟨z1, "<init>", z8⟩ : MethodName)) rfl (w44 hw) (w45 hw) (w10 hw) (w46 hw) (by decide) (rm_rk11 l Z a0 hw b12 s_13 sv_13 ks_13 s_14 sv_14 ks_14 xa ya fm cs h14 m15 G12 m16 m17 m18 m19 m20 m21 u14_2 u14_3 u14_4 u14_5 q5 q7 q13 q15 q25 q26 q27 q28) (by decide) rfl (argsL := [.ref s_13, .ref s_14]) rfl (lenOf pd20 rfl) (W := 1) rfl (by decide) (by decide) (by decide) at_240 rfl ?_
 intro v22 T22 h22 X22 U22
 obtain ⟨rfl, u22_0, u22_1, u22_2, u22_3⟩ := U22
 show oGoes pp ee bb ss Z T22 (mkF mm 243 _ [.ref b12]) _ _ _
 refine o_astore K X22 at_243 rfl rfl (L' := #[vI i0, vI i1, vI i2, vI i3, vI i4, vI i5, vI 1, vI 1, vI ps, vI sa, vI sb, vI ia, vI ib, vI xa, vI xb, vI ya, vI yb, vI 0, vR b1, vR b12, uS, uS]) rfl ?_
 refine o_aload K X22 at_245 rfl rfl rfl ?_
 have m23 := ((((u11_1.ext E12).keep u13_0).keep u14_0).keep u22_0)
 have y1_4 := Nat.le_trans (Nat.le_trans u2_0.1 u3_0.1) u11_0.1
 have n24 := oLn A1.lt y1_4 (oLe g12)
 have m25 := ((((u11_2.ext E12).keep u13_0 nin0).keep u14_0 nin0).keep u22_0 (ninS n24 nin0))
 have m26 := ((((u11_3.ext E12).keep u13_0 nin0).keep u14_0 nin0).keep u22_0 (ninS n24 nin0))
 have m27 := (((((m7.keep u11_0).ext E12).keep u13_0).keep u14_0).keep u22_0)
 have n28 := oLsz A1.lt u2_1
 have n29 := oLn u2_2.lt (Nat.le_trans u3_0.1 u11_0.1) (oLe g12)
 have m30 := (((((m8.keep u11_0 (ninS n28 nin0)).ext E12).keep u13_0 nin0).keep u14_0 nin0).keep u22_0 (ninS n29 nin0))
 have m31 := (((((m9.keep u11_0 (ninS n28 nin0)).ext E12).keep u13_0 nin0).keep u14_0 nin0).keep u22_0 (ninS n29 nin0))
 have n32 := oLsz A1.lt u2_8
 have n33 := oLn u2_5.lt (Nat.le_trans u3_0.1 u11_0.1) (oLe g12)
 have m34 := (((((m10.keep u11_0 (ninS n32 nin0)).ext E12).keep u13_0 nin0).keep u14_0 nin0).keep u22_0 (ninS n33 nin0))
 have m35 := ((((((u2_6.keep u3_0 nin0).keep u11_0 (ninS n28 nin0)).ext E12).keep u13_0 nin0).keep u14_0 nin0).keep u22_0 (ninS n29 nin0))
 have m36 := ((((((u2_7.keep u3_0 nin0).keep u11_0 (ninS n28 nin0)).ext E12).keep u13_0 nin0).keep u14_0 nin0).keep u22_0 (ninS n29 nin0))
 have m37 := ((((((u2_9.keep u3_0).keep u11_0).ext E12).keep u13_0).keep u14_0).keep u22_0)
 have m38 := (((((u3_2.keep u11_0).ext E12).keep u13_0).keep u14_0).keep u22_0)
 have n39 := oLsn A1.lt u2_0.1 u3_1
 have n40 := oLn u3_2.lt u11_0.1 (oLe g12)
 have m41 := (((((u3_3.keep u11_0 (ninS n39 nin0)).ext E12).keep u13_0 nin0).keep u14_0 nin0).keep u22_0 (ninS n40 nin0))
 have m42 := (((((u3_4.keep u11_0 (ninS n39 nin0)).ext E12).keep u13_0 nin0).keep u14_0 nin0).keep u22_0 (ninS n40 nin0))
 have n43 := oLsn A1.lt u2_0.1 u3_8
 have n44 := oLn u3_5.lt u11_0.1 (oLe g12)
 have m45 := (((((u3_5.keep u11_0 (ninS n43 nin0)).ext E12).keep u13_0 nin0).keep u14_0 nin0).keep u22_0 (ninS n44 nin0))
 have m46 := (((((u3_6.keep u11_0 (ninS n39 nin0)).ext E12).keep u13_0 nin0).keep u14_0 nin0).keep u22_0 (ninS n40 nin0))
 have m47 := (((((u3_7.keep u11_0 (ninS n39 nin0)).ext E12).keep u13_0 nin0).keep u14_0 nin0).keep u22_0 (ninS n40 nin0))
 have m48 := (((((u3_9.keep u11_0).ext E12).keep u13_0).keep u14_0).keep u22_0)
 have n49 := oLsz u2_2.lt u3_1
 refine o_virtual K X22   (w115 hw) (w116 hw) (oNF (w118 hw)) (w118 hw) (w117 hw) (w10 hw) (w119 hw) (by decide) m23 (rm_rkh11 l Z a0 hw b1 s_2 sv_2 ks_2 s_3 sv_3 ks_3 sa ia cs h22 m23 m25 m26 m27 m30 m31 m34 m35 m36 m37 G2_s m38 m41 m42 m45 m46 m47 m48 G3_s (Ne.symm n28) n49 q9 q11 q27 q28) (by decide) rfl (argsL := []) rfl (lenOf pd10 rfl) (W := 0) rfl (by decide) (by decide) (by decide) at_247 rfl ?_
 intro v50 T50 h50 X50 U50
 obtain ⟨rfl, u50_0⟩ := U50
 show oGoes pp ee bb ss Z T50 (mkF mm 250 _ [(.int (((31 : Int32) * sa) + ia))]) _ _ _
 refine o_istore K X50 at_250 rfl (L' := #[vI i0, vI i1, vI i2, vI i3, vI i4, vI i5, vI 1, vI 1, vI ps, vI sa, vI sb, vI ia, vI ib, vI xa, vI xb, vI ya, vI yb, vI 0, vR b1, vR b12, vI (((31 : Int32) * sa) + ia), uS]) rfl ?_
 refine o_aload K X50 at_252 rfl rfl rfl ?_
 have m51 := (u22_1.keep u50_0)
 have m52 := (u22_2.keep u50_0 (ninS (Ne.symm n29) (ninS (Ne.symm n40) nin0)))
 have m53 := (u22_3.keep u50_0 (ninS (Ne.symm n29) (ninS (Ne.symm n40) nin0)))
 have m54 := ((m18.keep u22_0).keep u50_0)
 have n55 := oLsz A12.lt u13_1
 have n56 := oLsn u3_2.lt (Nat.le_trans u11_0.1 E12.1) u13_1
 have y2_5 := Nat.le_trans (Nat.le_trans u3_0.1 u11_0.1) E12.1
 have n57 := oLsn u2_2.lt y2_5 u13_1
 have m58 := ((m19.keep u22_0 (ninS n55 nin0)).keep u50_0 (ninS n57 (ninS n56 nin0)))
 have m59 := ((m20.keep u22_0 (ninS n55 nin0)).keep u50_0 (ninS n57 (ninS n56 nin0)))
 have n60 := oLsz A12.lt u13_8
 have n61 := oLsn u3_2.lt (Nat.le_trans u11_0.1 E12.1) u13_8
 have n62 := oLsn u2_2.lt y2_5 u13_8
 have m63 := ((m21.keep u22_0 (ninS n60 nin0)).keep u50_0 (ninS n62 (ninS n61 nin0)))
 have m64 := (((u13_6.keep u14_0 nin0).keep u22_0 (ninS n55 nin0)).keep u50_0 (ninS n57 (ninS n56 nin0)))
 have m65 := (((u13_7.keep u14_0 nin0).keep u22_0 (ninS n55 nin0)).keep u50_0 (ninS n57 (ninS n56 nin0)))
 have m66 := (((u13_9.keep u14_0).keep u22_0).keep u50_0)
 have m67 := ((u14_2.keep u22_0).keep u50_0)
 have n68 := oLsn A12.lt u13_0.1 u14_1
 have y3_6 := Nat.le_trans (Nat.le_trans u11_0.1 E12.1) u13_0.1
 have n69 := oLsn u3_2.lt y3_6 u14_1
 have n70 := oLsn u2_2.lt (Nat.le_trans y2_5 u13_0.1) u14_1
 have m71 := ((u14_3.keep u22_0 (ninS n68 nin0)).keep u50_0 (ninS n70 (ninS n69 nin0)))
 have m72 := ((u14_4.keep u22_0 (ninS n68 nin0)).keep u50_0 (ninS n70 (ninS n69 nin0)))
 have n73 := oLsn A12.lt u13_0.1 u14_8
 have n74 := oLsn u3_2.lt y3_6 u14_8
 have n75 := oLsn u2_2.lt (Nat.le_trans y2_5 u13_0.1) u14_8
 have m76 := ((u14_5.keep u22_0 (ninS n73 nin0)).keep u50_0 (ninS n75 (ninS n74 nin0)))
 have m77 := ((u14_6.keep u22_0 (ninS n68 nin0)).keep u50_0 (ninS n70 (ninS n69 nin0)))
 have m78 := ((u14_7.keep u22_0 (ninS n68 nin0)).keep u50_0 (ninS n70 (ninS n69 nin0)))
 have m79 := ((u14_9.keep u22_0).keep u50_0)
 have n80 := oLsz u13_2.lt u14_1
 refine o_virtual K X50   (w115 hw) (w116 hw) (oNF (w118 hw)) (w118 hw) (w117 hw) (w10 hw) (w119 hw) (by decide) m51 (rm_rkh11 l Z a0 hw b12 s_13 sv_13 ks_13 s_14 sv_14 ks_14 xa ya cs h50 m51 m52 m53 m54 m58 m59 m63 m64 m65 m66 G13_s m67 m71 m72 m76 m77 m78 m79 G14_s (Ne.symm n55) n80 q13 q15 q27 q28) (by decide) rfl (argsL := []) rfl (lenOf pd10 rfl) (W := 0) rfl (by decide) (by decide) (by decide) at_254 rfl ?_
 intro v81 T81 h81 X81 U81
 obtain ⟨rfl, u81_0⟩ := U81
 show oGoes pp ee bb ss Z T81 (mkF mm 257 _ [(.int (((31 : Int32) * xa) + ya))]) _ _ _
 refine o_istore K X81 at_257 rfl (L' := #[vI i0, vI i1, vI i2, vI i3, vI i4, vI i5, vI 1, vI 1, vI ps, vI sa, vI sb, vI ia, vI ib, vI xa, vI xb, vI ya, vI yb, vI 0, vR b1, vR b12, vI (((31 : Int32) * sa) + ia), vI (((31 : Int32) * xa) + ya)]) rfl ?_
 refine o_iload K X81 at_259 rfl rfl ?_
 refine o_if_eq_t K X81 at_261 (by decide) (pc' := 279) (by decide) (by decide) ?_
 refine o_iload K X81 at_279 rfl rfl ?_
 refine o_iload K X81 at_281 rfl rfl ?_
 refine o_icmp_ne_f K X81 at_283 rfl q0 ?_
 refine o_iconst K X81 at_286 rfl (z := 1) rfl ?_
 refine o_goto K X81 at_287 (by decide) (pc' := 291) (by decide) ?_
 refine o_ireturnN K X81 .boolean at_291 rfl (by simp) (z' := 1) (by decide) ?_ (by decide) (by decide)
 exact hQ _ _ rfl
def Q_lw111 (Z : State) (i0 i1 i2 i3 i4 i5 ps sa sb ia ib xa xb ya yb : Int32) (fm : Value) (cs : Int32) (h0 : Heap) (v : Option Value) (h : Heap) : Prop := v = some (.int 1)
theorem tl_lw111 (l : Launch) (Z : State) (a0 : Array Value) (hw : oHw Z a0) (i0 i1 i2 i3 i4 i5 ps sa sb ia ib xa xb ya yb : Int32) (fm : Value) (cs : Int32) (h0 : Heap) (q0 : ¬ ((((31 : Int32) * sa) + ia) = (((31 : Int32) * xa) + ya))) (q1 : oSh sa) (q2 : oSh sb) (q3 : oId ia) (q4 : oId ib) (q5 : oSh xa) (q6 : oSh xb) (q7 : oId ya) (q8 : oId yb) (q9 : oCh sa) (q10 : oCh sb) (q11 : oCh ia) (q12 : oCh ib) (q13 : oCh xa) (q14 : oCh xb) (q15 : oCh ya) (q16 : oCh yb) (q17 : nar .char sa = sa) (q18 : nar .char sb = sb) (q19 : nar .char ia = ia) (q20 : nar .char ib = ib) (q21 : nar .char xa = xa) (q22 : nar .char xb = xb) (q23 : nar .char ya = ya) (q24 : nar .char yb = yb) (q25 : Sta Z Z.heap z4 z6 z7 fm) (q26 : fm.isRef = true) (q27 : Sta Z Z.heap z0 z3 "Z" (.int cs)) (q28 : ¬ (cs = (0 : Int32))) {Q : Option Value → Heap → Prop} (hQ : ∀ v h, Q_lw111 Z i0 i1 i2 i3 i4 i5 ps sa sb ia ib xa xb ya yb fm cs h0 v h → Q v h) {pp : Program} {ee : Env} {ss : State} {mm : MethodId} {bb : List Frame} {mtd : Method} {cc : Code} {A : Array Value} {T0 : State} (K : oCtx pp ss mm mtd cc Z z5 code maxLocals "law" ret x) (X0 : oSt pp l ee room_1 ss mm A bb mtd cc Z T0 h0 0 0) : oGoes pp ee bb ss Z T0 (mkF mm 191 #[vI i0, vI i1, vI i2, vI i3, vI i4, vI i5, vI 1, vI 1, vI ps, vI sa, vI sb, vI ia, vI ib, vI xa, vI xb, vI ya, vI yb, vI 1, uS, uS, uS, uS] []) Q room_1.cells room_1.slots := by
 have E0 := X0.ext0
 refine o_new K X0 (w8 hw) (w9 hw) (w10 hw) at_191 rfl (by decide) (by decide) ?_
 intro T1 h1 b1 X1 g1 E1 A1 D1 G1
 have F1_shelf : Fld Z h1 b1 z1 "shelf" z2 .null := (D1 (Or.inr (w112 hw)) (ty := (.object z0)) (by decide))
 have F1_id : Fld Z h1 b1 z1 "id" z2 .null := (D1 (Or.inr (w114 hw)) (ty := (.object z0)) (by decide))
 refine o_dup K X1 at_194 rfl rfl ?_
 refine o_iload K X1 at_195 rfl rfl ?_
 refine o_iload K X1 at_197 rfl rfl ?_
 refine o_iload K X1 at_199 rfl rfl ?_
 refine o_static K X1  (w11 hw) (w12 hw) (w2 hw) (w13 hw) (by decide) (rm_str1 l Z a0 hw sa sb cs h1 q9.2 q17 q18 q27 q28) (by decide) rfl (argsL := [.int 1, .int sa, .int sb]) rfl (lenOf pd19 rfl) (W := 2) rfl (by decide) (by decide) (by decide) at_201 rfl ?_
 intro v2 T2 h2 X2 U2
 obtain ⟨s_2, sv_2, ks_2, rfl, u2_0, u2_1, u2_2, u2_3, u2_4, u2_5, u2_6, u2_7, u2_8, u2_9⟩ := U2
 have G2_s : Z.heap.size ≤ s_2 := Nat.le_trans X1.ext0.1 u2_1
 have G2_sv : Z.heap.size ≤ sv_2 := Nat.le_trans X1.ext0.1 u2_8
 show oGoes pp ee bb ss Z T2 (mkF mm 204 _ [.ref s_2, .ref b1, .ref b1]) _ _ _
 refine o_iload K X2 at_204 rfl rfl ?_
 refine o_iload K X2 at_206 rfl rfl ?_
 refine o_iload K X2 at_208 rfl rfl ?_
 refine o_static K X2  (w11 hw) (w12 hw) (w2 hw) (w13 hw) (by decide) (rm_str1 l Z a0 hw ia ib cs h2 q11.2 q19 q20 q27 q28) (by decide) rfl (argsL := [.int 1, .int ia, .int ib]) rfl (lenOf pd19 rfl) (W := 3) rfl (by decide) (by decide) (by decide) at_210 rfl ?_
 intro v3 T3 h3 X3 U3
 obtain ⟨s_3, sv_3, ks_3, rfl, u3_0, u3_1, u3_2, u3_3, u3_4, u3_5, u3_6, u3_7, u3_8, u3_9⟩ := U3
 have G3_s : Z.heap.size ≤ s_3 := Nat.le_trans X2.ext0.1 u3_1
 have G3_sv : Z.heap.size ≤ sv_3 := Nat.le_trans X2.ext0.1 u3_8
 show oGoes pp ee bb ss Z T3 (mkF mm 213 _ [.ref s_3, .ref s_2, .ref b1, .ref b1]) _ _ _
 have m4 := ((A1.keep u2_0).keep u3_0)
 have m5 := ((F1_shelf.keep u2_0 nin0).keep u3_0 nin0)
 have m6 := ((F1_id.keep u2_0 nin0).keep u3_0 nin0)
 have m7 := (u2_2.keep u3_0)
 have m8 := (u2_3.keep u3_0 nin0)
 have m9 := (u2_4.keep u3_0 nin0)
 have m10 := (u2_5.keep u3_0 nin0)
 refine o_special K X3 (y := (⟨z1, "<init>", z8⟩ : MethodName)) rfl (w44 hw) (w45 hw) (w10 hw) (w46 hw) (by decide) (rm_rk11 l Z a0 hw b1 s_2 sv_2 ks_2 s_3 sv_3 ks_3 sa ia fm cs h3 m4 G1 m5 m6 m7 m8 m9 m10 u3_2 u3_3 u3_4 u3_5 q1 q3 q9 q11 q25 q26 q27 q28) (by decide) rfl (argsL := [.ref s_2, .ref s_3]) rfl (lenOf pd20 rfl) (W := 1) rfl (by decide) (by decide) (by decide) at_213 rfl ?_
 intro v11 T11 h11 X11 U11
 obtain ⟨rfl, u11_0, u11_1, u11_2, u11_3⟩ := U11
 show oGoes pp ee bb ss Z T11 (mkF mm 216 _ [.ref b1]) _ _ _
 refine o_astore K X11 at_216 rfl rfl (L' := #[vI i0, vI i1, vI i2, vI i3, vI i4, vI i5, vI 1, vI 1, vI ps, vI sa, vI sb, vI ia, vI ib, vI xa, vI xb, vI ya, vI yb, vI 1, vR b1, uS, uS, uS]) rfl ?_
 refine o_new K X11 (w8 hw) (w9 hw) (w10 hw) at_218 rfl (by decide) (by decide) ?_
 intro T12 h12 b12 X12 g12 E12 A12 D12 G12
 have F12_shelf : Fld Z h12 b12 z1 "shelf" z2 .null := (D12 (Or.inr (w112 hw)) (ty := (.object z0)) (by decide))
 have F12_id : Fld Z h12 b12 z1 "id" z2 .null := (D12 (Or.inr (w114 hw)) (ty := (.object z0)) (by decide))
 refine o_dup K X12 at_221 rfl rfl ?_
 refine o_iload K X12 at_222 rfl rfl ?_
 refine o_iload K X12 at_224 rfl rfl ?_
 refine o_iload K X12 at_226 rfl rfl ?_
 refine o_static K X12  (w11 hw) (w12 hw) (w2 hw) (w13 hw) (by decide) (rm_str1 l Z a0 hw xa xb cs h12 q13.2 q21 q22 q27 q28) (by decide) rfl (argsL := [.int 1, .int xa, .int xb]) rfl (lenOf pd19 rfl) (W := 2) rfl (by decide) (by decide) (by decide) at_228 rfl ?_
 intro v13 T13 h13 X13 U13
 obtain ⟨s_13, sv_13, ks_13, rfl, u13_0, u13_1, u13_2, u13_3, u13_4, u13_5, u13_6, u13_7, u13_8, u13_9⟩ := U13
 have G13_s : Z.heap.size ≤ s_13 := Nat.le_trans X12.ext0.1 u13_1
 have G13_sv : Z.heap.size ≤ sv_13 := Nat.le_trans X12.ext0.1 u13_8
 show oGoes pp ee bb ss Z T13 (mkF mm 231 _ [.ref s_13, .ref b12, .ref b12]) _ _ _
 refine o_iload K X13 at_231 rfl rfl ?_
 refine o_iload K X13 at_233 rfl rfl ?_
 refine o_iload K X13 at_235 rfl rfl ?_
 refine o_static K X13  (w11 hw) (w12 hw) (w2 hw) (w13 hw) (by decide) (rm_str1 l Z a0 hw ya yb cs h13 q15.2 q23 q24 q27 q28) (by decide) rfl (argsL := [.int 1, .int ya, .int yb]) rfl (lenOf pd19 rfl) (W := 3) rfl (by decide) (by decide) (by decide) at_237 rfl ?_
 intro v14 T14 h14 X14 U14
 obtain ⟨s_14, sv_14, ks_14, rfl, u14_0, u14_1, u14_2, u14_3, u14_4, u14_5, u14_6, u14_7, u14_8, u14_9⟩ := U14
 have G14_s : Z.heap.size ≤ s_14 := Nat.le_trans X13.ext0.1 u14_1
 have G14_sv : Z.heap.size ≤ sv_14 := Nat.le_trans X13.ext0.1 u14_8
 show oGoes pp ee bb ss Z T14 (mkF mm 240 _ [.ref s_14, .ref s_13, .ref b12, .ref b12]) _ _ _
 have m15 := ((A12.keep u13_0).keep u14_0)
 have m16 := ((F12_shelf.keep u13_0 nin0).keep u14_0 nin0)
 have m17 := ((F12_id.keep u13_0 nin0).keep u14_0 nin0)
 have m18 := (u13_2.keep u14_0)
 have m19 := (u13_3.keep u14_0 nin0)
 have m20 := (u13_4.keep u14_0 nin0)
 have m21 := (u13_5.keep u14_0 nin0)
 refine o_special K X14 (y := (⟨z1, "<init>", z8⟩ : MethodName)) rfl (w44 hw) (w45 hw) (w10 hw) (w46 hw) (by decide) (rm_rk11 l Z a0 hw b12 s_13 sv_13 ks_13 s_14 sv_14 ks_14 xa ya fm cs h14 m15 G12 m16 m17 m18 m19 m20 m21 u14_2 u14_3 u14_4 u14_5 q5 q7 q13 q15 q25 q26 q27 q28) (by decide) rfl (argsL := [.ref s_13, .ref s_14]) rfl (lenOf pd20 rfl) (W := 1) rfl (by decide) (by decide) (by decide) at_240 rfl ?_
 intro v22 T22 h22 X22 U22
 obtain ⟨rfl, u22_0, u22_1, u22_2, u22_3⟩ := U22
 show oGoes pp ee bb ss Z T22 (mkF mm 243 _ [.ref b12]) _ _ _
 refine o_astore K X22 at_243 rfl rfl (L' := #[vI i0, vI i1, vI i2, vI i3, vI i4, vI i5, vI 1, vI 1, vI ps, vI sa, vI sb, vI ia, vI ib, vI xa, vI xb, vI ya, vI yb, vI 1, vR b1, vR b12, uS, uS]) rfl ?_
 refine o_aload K X22 at_245 rfl rfl rfl ?_
 have m23 := ((((u11_1.ext E12).keep u13_0).keep u14_0).keep u22_0)
 have y1_4 := Nat.le_trans (Nat.le_trans u2_0.1 u3_0.1) u11_0.1
 have n24 := oLn A1.lt y1_4 (oLe g12)
 have m25 := ((((u11_2.ext E12).keep u13_0 nin0).keep u14_0 nin0).keep u22_0 (ninS n24 nin0))
 have m26 := ((((u11_3.ext E12).keep u13_0 nin0).keep u14_0 nin0).keep u22_0 (ninS n24 nin0))
 have m27 := (((((m7.keep u11_0).ext E12).keep u13_0).keep u14_0).keep u22_0)
 have n28 := oLsz A1.lt u2_1
 have n29 := oLn u2_2.lt (Nat.le_trans u3_0.1 u11_0.1) (oLe g12)
 have m30 := (((((m8.keep u11_0 (ninS n28 nin0)).ext E12).keep u13_0 nin0).keep u14_0 nin0).keep u22_0 (ninS n29 nin0))
 have m31 := (((((m9.keep u11_0 (ninS n28 nin0)).ext E12).keep u13_0 nin0).keep u14_0 nin0).keep u22_0 (ninS n29 nin0))
 have n32 := oLsz A1.lt u2_8
 have n33 := oLn u2_5.lt (Nat.le_trans u3_0.1 u11_0.1) (oLe g12)
 have m34 := (((((m10.keep u11_0 (ninS n32 nin0)).ext E12).keep u13_0 nin0).keep u14_0 nin0).keep u22_0 (ninS n33 nin0))
 have m35 := ((((((u2_6.keep u3_0 nin0).keep u11_0 (ninS n28 nin0)).ext E12).keep u13_0 nin0).keep u14_0 nin0).keep u22_0 (ninS n29 nin0))
 have m36 := ((((((u2_7.keep u3_0 nin0).keep u11_0 (ninS n28 nin0)).ext E12).keep u13_0 nin0).keep u14_0 nin0).keep u22_0 (ninS n29 nin0))
 have m37 := ((((((u2_9.keep u3_0).keep u11_0).ext E12).keep u13_0).keep u14_0).keep u22_0)
 have m38 := (((((u3_2.keep u11_0).ext E12).keep u13_0).keep u14_0).keep u22_0)
 have n39 := oLsn A1.lt u2_0.1 u3_1
 have n40 := oLn u3_2.lt u11_0.1 (oLe g12)
 have m41 := (((((u3_3.keep u11_0 (ninS n39 nin0)).ext E12).keep u13_0 nin0).keep u14_0 nin0).keep u22_0 (ninS n40 nin0))
 have m42 := (((((u3_4.keep u11_0 (ninS n39 nin0)).ext E12).keep u13_0 nin0).keep u14_0 nin0).keep u22_0 (ninS n40 nin0))
 have n43 := oLsn A1.lt u2_0.1 u3_8
 have n44 := oLn u3_5.lt u11_0.1 (oLe g12)
 have m45 := (((((u3_5.keep u11_0 (ninS n43 nin0)).ext E12).keep u13_0 nin0).keep u14_0 nin0).keep u22_0 (ninS n44 nin0))
 have m46 := (((((u3_6.keep u11_0 (ninS n39 nin0)).ext E12).keep u13_0 nin0).keep u14_0 nin0).keep u22_0 (ninS n40 nin0))
 have m47 := (((((u3_7.keep u11_0 (ninS n39 nin0)).ext E12).keep u13_0 nin0).keep u14_0 nin0).keep u22_0 (ninS n40 nin0))
 have m48 := (((((u3_9.keep u11_0).ext E12).keep u13_0).keep u14_0).keep u22_0)
 have n49 := oLsz u2_2.lt u3_1
 refine o_virtual K X22   (w115 hw) (w116 hw) (oNF (w118 hw)) (w118 hw) (w117 hw) (w10 hw) (w119 hw) (by decide) m23 (rm_rkh11 l Z a0 hw b1 s_2 sv_2 ks_2 s_3 sv_3 ks_3 sa ia cs h22 m23 m25 m26 m27 m30 m31 m34 m35 m36 m37 G2_s m38 m41 m42 m45 m46 m47 m48 G3_s (Ne.symm n28) n49 q9 q11 q27 q28) (by decide) rfl (argsL := []) rfl (lenOf pd10 rfl) (W := 0) rfl (by decide) (by decide) (by decide) at_247 rfl ?_
 intro v50 T50 h50 X50 U50
 obtain ⟨rfl, u50_0⟩ := U50
 show oGoes pp ee bb ss Z T50 (mkF mm 250 _ [(.int (((31 : Int32) * sa) + ia))]) _ _ _
 refine o_istore K X50 at_250 rfl (L' := #[vI i0, vI i1, vI i2, vI i3, vI i4, vI i5, vI 1, vI 1, vI ps, vI sa, vI sb, vI ia, vI ib, vI xa, vI xb, vI ya, vI yb, vI 1, vR b1, vR b12, vI (((31 : Int32) * sa) + ia), uS]) rfl ?_
 refine o_aload K X50 at_252 rfl rfl rfl ?_
 have m51 := (u22_1.keep u50_0)
 have m52 := (u22_2.keep u50_0 (ninS (Ne.symm n29) (ninS (Ne.symm n40) nin0)))
 have m53 := (u22_3.keep u50_0 (ninS (Ne.symm n29) (ninS (Ne.symm n40) nin0)))
 have m54 := ((m18.keep u22_0).keep u50_0)
 have n55 := oLsz A12.lt u13_1
 have n56 := oLsn u3_2.lt (Nat.le_trans u11_0.1 E12.1) u13_1
 have y2_5 := Nat.le_trans (Nat.le_trans u3_0.1 u11_0.1) E12.1
 have n57 := oLsn u2_2.lt y2_5 u13_1
 have m58 := ((m19.keep u22_0 (ninS n55 nin0)).keep u50_0 (ninS n57 (ninS n56 nin0)))
 have m59 := ((m20.keep u22_0 (ninS n55 nin0)).keep u50_0 (ninS n57 (ninS n56 nin0)))
 have n60 := oLsz A12.lt u13_8
 have n61 := oLsn u3_2.lt (Nat.le_trans u11_0.1 E12.1) u13_8
 have n62 := oLsn u2_2.lt y2_5 u13_8
 have m63 := ((m21.keep u22_0 (ninS n60 nin0)).keep u50_0 (ninS n62 (ninS n61 nin0)))
 have m64 := (((u13_6.keep u14_0 nin0).keep u22_0 (ninS n55 nin0)).keep u50_0 (ninS n57 (ninS n56 nin0)))
 have m65 := (((u13_7.keep u14_0 nin0).keep u22_0 (ninS n55 nin0)).keep u50_0 (ninS n57 (ninS n56 nin0)))
 have m66 := (((u13_9.keep u14_0).keep u22_0).keep u50_0)
 have m67 := ((u14_2.keep u22_0).keep u50_0)
 have n68 := oLsn A12.lt u13_0.1 u14_1
 have y3_6 := Nat.le_trans (Nat.le_trans u11_0.1 E12.1) u13_0.1
 have n69 := oLsn u3_2.lt y3_6 u14_1
 have n70 := oLsn u2_2.lt (Nat.le_trans y2_5 u13_0.1) u14_1
 have m71 := ((u14_3.keep u22_0 (ninS n68 nin0)).keep u50_0 (ninS n70 (ninS n69 nin0)))
 have m72 := ((u14_4.keep u22_0 (ninS n68 nin0)).keep u50_0 (ninS n70 (ninS n69 nin0)))
 have n73 := oLsn A12.lt u13_0.1 u14_8
 have n74 := oLsn u3_2.lt y3_6 u14_8
 have n75 := oLsn u2_2.lt (Nat.le_trans y2_5 u13_0.1) u14_8
 have m76 := ((u14_5.keep u22_0 (ninS n73 nin0)).keep u50_0 (ninS n75 (ninS n74 nin0)))
 have m77 := ((u14_6.keep u22_0 (ninS n68 nin0)).keep u50_0 (ninS n70 (ninS n69 nin0)))
 have m78 := ((u14_7.keep u22_0 (ninS n68 nin0)).keep u50_0 (ninS n70 (ninS n69 nin0)))
 have m79 := ((u14_9.keep u22_0).keep u50_0)
 have n80 := oLsz u13_2.lt u14_1
 refine o_virtual K X50   (w115 hw) (w116 hw) (oNF (w118 hw)) (w118 hw) (w117 hw) (w10 hw) (w119 hw) (by decide) m51 (rm_rkh11 l Z a0 hw b12 s_13 sv_13 ks_13 s_14 sv_14 ks_14 xa ya cs h50 m51 m52 m53 m54 m58 m59 m63 m64 m65 m66 G13_s m67 m71 m72 m76 m77 m78 m79 G14_s (Ne.symm n55) n80 q13 q15 q27 q28) (by decide) rfl (argsL := []) rfl (lenOf pd10 rfl) (W := 0) rfl (by decide) (by decide) (by decide) at_254 rfl ?_
 intro v81 T81 h81 X81 U81
 obtain ⟨rfl, u81_0⟩ := U81
 show oGoes pp ee bb ss Z T81 (mkF mm 257 _ [(.int (((31 : Int32) * xa) + ya))]) _ _ _
 refine o_istore K X81 at_257 rfl (L' := #[vI i0, vI i1, vI i2, vI i3, vI i4, vI i5, vI 1, vI 1, vI ps, vI sa, vI sb, vI ia, vI ib, vI xa, vI xb, vI ya, vI yb, vI 1, vR b1, vR b12, vI (((31 : Int32) * sa) + ia), vI (((31 : Int32) * xa) + ya)]) rfl ?_
 refine o_iload K X81 at_259 rfl rfl ?_
 refine o_if_eq_f K X81 at_261 rfl (by decide) ?_
 refine o_iload K X81 at_264 rfl rfl ?_
 refine o_iload K X81 at_266 rfl rfl ?_
 refine o_icmp_eq_f K X81 at_268 rfl q0 ?_
 refine o_iconst K X81 at_271 rfl (z := 1) rfl ?_
 refine o_goto K X81 at_272 (by decide) (pc' := 291) (by decide) ?_
 refine o_ireturnN K X81 .boolean at_291 rfl (by simp) (z' := 1) (by decide) ?_ (by decide) (by decide)
 exact hQ _ _ rfl
def Q_lw120 (Z : State) (i0 i1 i2 i3 i4 i5 ps sa sb ia ib xa xb ya yb : Int32) (fm : Value) (cs : Int32) (h0 : Heap) (v : Option Value) (h : Heap) : Prop := v = some (.int 1)
theorem tl_lw120 (l : Launch) (Z : State) (a0 : Array Value) (hw : oHw Z a0) (i0 i1 i2 i3 i4 i5 ps sa sb ia ib xa xb ya yb : Int32) (fm : Value) (cs : Int32) (h0 : Heap) (q0 : (((31 : Int32) * sa) + (((31 : Int32) * ia) + ib)) = (((31 : Int32) * xa) + (((31 : Int32) * ya) + yb))) (q1 : oSh sa) (q2 : oSh sb) (q3 : oId ia) (q4 : oId ib) (q5 : oSh xa) (q6 : oSh xb) (q7 : oId ya) (q8 : oId yb) (q9 : oCh sa) (q10 : oCh sb) (q11 : oCh ia) (q12 : oCh ib) (q13 : oCh xa) (q14 : oCh xb) (q15 : oCh ya) (q16 : oCh yb) (q17 : nar .char sa = sa) (q18 : nar .char sb = sb) (q19 : nar .char ia = ia) (q20 : nar .char ib = ib) (q21 : nar .char xa = xa) (q22 : nar .char xb = xb) (q23 : nar .char ya = ya) (q24 : nar .char yb = yb) (q25 : Sta Z Z.heap z4 z6 z7 fm) (q26 : fm.isRef = true) (q27 : Sta Z Z.heap z0 z3 "Z" (.int cs)) (q28 : ¬ (cs = (0 : Int32))) {Q : Option Value → Heap → Prop} (hQ : ∀ v h, Q_lw120 Z i0 i1 i2 i3 i4 i5 ps sa sb ia ib xa xb ya yb fm cs h0 v h → Q v h) {pp : Program} {ee : Env} {ss : State} {mm : MethodId} {bb : List Frame} {mtd : Method} {cc : Code} {A : Array Value} {T0 : State} (K : oCtx pp ss mm mtd cc Z z5 code maxLocals "law" ret x) (X0 : oSt pp l ee room_1 ss mm A bb mtd cc Z T0 h0 0 0) : oGoes pp ee bb ss Z T0 (mkF mm 191 #[vI i0, vI i1, vI i2, vI i3, vI i4, vI i5, vI 1, vI 2, vI ps, vI sa, vI sb, vI ia, vI ib, vI xa, vI xb, vI ya, vI yb, vI 0, uS, uS, uS, uS] []) Q room_1.cells room_1.slots := by
 have E0 := X0.ext0
 refine o_new K X0 (w8 hw) (w9 hw) (w10 hw) at_191 rfl (by decide) (by decide) ?_
 intro T1 h1 b1 X1 g1 E1 A1 D1 G1
 have F1_shelf : Fld Z h1 b1 z1 "shelf" z2 .null := (D1 (Or.inr (w112 hw)) (ty := (.object z0)) (by decide))
 have F1_id : Fld Z h1 b1 z1 "id" z2 .null := (D1 (Or.inr (w114 hw)) (ty := (.object z0)) (by decide))
 refine o_dup K X1 at_194 rfl rfl ?_
 refine o_iload K X1 at_195 rfl rfl ?_
 refine o_iload K X1 at_197 rfl rfl ?_
 refine o_iload K X1 at_199 rfl rfl ?_
 refine o_static K X1  (w11 hw) (w12 hw) (w2 hw) (w13 hw) (by decide) (rm_str1 l Z a0 hw sa sb cs h1 q9.2 q17 q18 q27 q28) (by decide) rfl (argsL := [.int 1, .int sa, .int sb]) rfl (lenOf pd19 rfl) (W := 2) rfl (by decide) (by decide) (by decide) at_201 rfl ?_
 intro v2 T2 h2 X2 U2
 obtain ⟨s_2, sv_2, ks_2, rfl, u2_0, u2_1, u2_2, u2_3, u2_4, u2_5, u2_6, u2_7, u2_8, u2_9⟩ := U2
 have G2_s : Z.heap.size ≤ s_2 := Nat.le_trans X1.ext0.1 u2_1
 have G2_sv : Z.heap.size ≤ sv_2 := Nat.le_trans X1.ext0.1 u2_8
 show oGoes pp ee bb ss Z T2 (mkF mm 204 _ [.ref s_2, .ref b1, .ref b1]) _ _ _
 refine o_iload K X2 at_204 rfl rfl ?_
 refine o_iload K X2 at_206 rfl rfl ?_
 refine o_iload K X2 at_208 rfl rfl ?_
 refine o_static K X2  (w11 hw) (w12 hw) (w2 hw) (w13 hw) (by decide) (rm_str2 l Z a0 hw ia ib cs h2 q11.2 q12.2 q19 q20 q27 q28) (by decide) rfl (argsL := [.int 2, .int ia, .int ib]) rfl (lenOf pd19 rfl) (W := 3) rfl (by decide) (by decide) (by decide) at_210 rfl ?_
 intro v3 T3 h3 X3 U3
 obtain ⟨s_3, sv_3, ks_3, rfl, u3_0, u3_1, u3_2, u3_3, u3_4, u3_5, u3_6, u3_7, u3_8, u3_9⟩ := U3
 have G3_s : Z.heap.size ≤ s_3 := Nat.le_trans X2.ext0.1 u3_1
 have G3_sv : Z.heap.size ≤ sv_3 := Nat.le_trans X2.ext0.1 u3_8
 show oGoes pp ee bb ss Z T3 (mkF mm 213 _ [.ref s_3, .ref s_2, .ref b1, .ref b1]) _ _ _
 have m4 := ((A1.keep u2_0).keep u3_0)
 have m5 := ((F1_shelf.keep u2_0 nin0).keep u3_0 nin0)
 have m6 := ((F1_id.keep u2_0 nin0).keep u3_0 nin0)
 have m7 := (u2_2.keep u3_0)
 have m8 := (u2_3.keep u3_0 nin0)
 have m9 := (u2_4.keep u3_0 nin0)
 have m10 := (u2_5.keep u3_0 nin0)
 refine o_special K X3 (y := (⟨z1, "<init>", z8⟩ : MethodName)) rfl (w44 hw) (w45 hw) (w10 hw) (w46 hw) (by decide) (rm_rk12 l Z a0 hw b1 s_2 sv_2 ks_2 s_3 sv_3 ks_3 sa ia ib fm cs h3 m4 G1 m5 m6 m7 m8 m9 m10 u3_2 u3_3 u3_4 u3_5 q1 q3 q4 q9 q11 q12 q25 q26 q27 q28) (by decide) rfl (argsL := [.ref s_2, .ref s_3]) rfl (lenOf pd20 rfl) (W := 1) rfl (by decide) (by decide) (by decide) at_213 rfl ?_
 intro v11 T11 h11 X11 U11
 obtain ⟨rfl, u11_0, u11_1, u11_2, u11_3⟩ := U11
 show oGoes pp ee bb ss Z T11 (mkF mm 216 _ [.ref b1]) _ _ _
 refine o_astore K X11 at_216 rfl rfl (L' := #[vI i0, vI i1, vI i2, vI i3, vI i4, vI i5, vI 1, vI 2, vI ps, vI sa, vI sb, vI ia, vI ib, vI xa, vI xb, vI ya, vI yb, vI 0, vR b1, uS, uS, uS]) rfl ?_
 refine o_new K X11 (w8 hw) (w9 hw) (w10 hw) at_218 rfl (by decide) (by decide) ?_
 intro T12 h12 b12 X12 g12 E12 A12 D12 G12
 have F12_shelf : Fld Z h12 b12 z1 "shelf" z2 .null := (D12 (Or.inr (w112 hw)) (ty := (.object z0)) (by decide))
 have F12_id : Fld Z h12 b12 z1 "id" z2 .null := (D12 (Or.inr (w114 hw)) (ty := (.object z0)) (by decide))
 refine o_dup K X12 at_221 rfl rfl ?_
 refine o_iload K X12 at_222 rfl rfl ?_
 refine o_iload K X12 at_224 rfl rfl ?_
 refine o_iload K X12 at_226 rfl rfl ?_
 refine o_static K X12  (w11 hw) (w12 hw) (w2 hw) (w13 hw) (by decide) (rm_str1 l Z a0 hw xa xb cs h12 q13.2 q21 q22 q27 q28) (by decide) rfl (argsL := [.int 1, .int xa, .int xb]) rfl (lenOf pd19 rfl) (W := 2) rfl (by decide) (by decide) (by decide) at_228 rfl ?_
 intro v13 T13 h13 X13 U13
 obtain ⟨s_13, sv_13, ks_13, rfl, u13_0, u13_1, u13_2, u13_3, u13_4, u13_5, u13_6, u13_7, u13_8, u13_9⟩ := U13
 have G13_s : Z.heap.size ≤ s_13 := Nat.le_trans X12.ext0.1 u13_1
 have G13_sv : Z.heap.size ≤ sv_13 := Nat.le_trans X12.ext0.1 u13_8
 show oGoes pp ee bb ss Z T13 (mkF mm 231 _ [.ref s_13, .ref b12, .ref b12]) _ _ _
 refine o_iload K X13 at_231 rfl rfl ?_
 refine o_iload K X13 at_233 rfl rfl ?_
 refine o_iload K X13 at_235 rfl rfl ?_
 refine o_static K X13  (w11 hw) (w12 hw) (w2 hw) (w13 hw) (by decide) (rm_str2 l Z a0 hw ya yb cs h13 q15.2 q16.2 q23 q24 q27 q28) (by decide) rfl (argsL := [.int 2, .int ya, .int yb]) rfl (lenOf pd19 rfl) (W := 3) rfl (by decide) (by decide) (by decide) at_237 rfl ?_
 intro v14 T14 h14 X14 U14
 obtain ⟨s_14, sv_14, ks_14, rfl, u14_0, u14_1, u14_2, u14_3, u14_4, u14_5, u14_6, u14_7, u14_8, u14_9⟩ := U14
 have G14_s : Z.heap.size ≤ s_14 := Nat.le_trans X13.ext0.1 u14_1
 have G14_sv : Z.heap.size ≤ sv_14 := Nat.le_trans X13.ext0.1 u14_8
 show oGoes pp ee bb ss Z T14 (mkF mm 240 _ [.ref s_14, .ref s_13, .ref b12, .ref b12]) _ _ _
 have m15 := ((A12.keep u13_0).keep u14_0)
 have m16 := ((F12_shelf.keep u13_0 nin0).keep u14_0 nin0)
 have m17 := ((F12_id.keep u13_0 nin0).keep u14_0 nin0)
 have m18 := (u13_2.keep u14_0)
 have m19 := (u13_3.keep u14_0 nin0)
 have m20 := (u13_4.keep u14_0 nin0)
 have m21 := (u13_5.keep u14_0 nin0)
 refine o_special K X14 (y := (⟨z1, "<init>", z8⟩ : MethodName)) rfl (w44 hw) (w45 hw) (w10 hw) (w46 hw) (by decide) (rm_rk12 l Z a0 hw b12 s_13 sv_13 ks_13 s_14 sv_14 ks_14 xa ya yb fm cs h14 m15 G12 m16 m17 m18 m19 m20 m21 u14_2 u14_3 u14_4 u14_5 q5 q7 q8 q13 q15 q16 q25 q26 q27 q28) (by decide) rfl (argsL := [.ref s_13, .ref s_14]) rfl (lenOf pd20 rfl) (W := 1) rfl (by decide) (by decide) (by decide) at_240 rfl ?_
 intro v22 T22 h22 X22 U22
 obtain ⟨rfl, u22_0, u22_1, u22_2, u22_3⟩ := U22
 show oGoes pp ee bb ss Z T22 (mkF mm 243 _ [.ref b12]) _ _ _
 refine o_astore K X22 at_243 rfl rfl (L' := #[vI i0, vI i1, vI i2, vI i3, vI i4, vI i5, vI 1, vI 2, vI ps, vI sa, vI sb, vI ia, vI ib, vI xa, vI xb, vI ya, vI yb, vI 0, vR b1, vR b12, uS, uS]) rfl ?_
 refine o_aload K X22 at_245 rfl rfl rfl ?_
 have m23 := ((((u11_1.ext E12).keep u13_0).keep u14_0).keep u22_0)
 have y1_4 := Nat.le_trans (Nat.le_trans u2_0.1 u3_0.1) u11_0.1
 have n24 := oLn A1.lt y1_4 (oLe g12)
 have m25 := ((((u11_2.ext E12).keep u13_0 nin0).keep u14_0 nin0).keep u22_0 (ninS n24 nin0))
 have m26 := ((((u11_3.ext E12).keep u13_0 nin0).keep u14_0 nin0).keep u22_0 (ninS n24 nin0))
 have m27 := (((((m7.keep u11_0).ext E12).keep u13_0).keep u14_0).keep u22_0)
 have n28 := oLsz A1.lt u2_1
 have n29 := oLn u2_2.lt (Nat.le_trans u3_0.1 u11_0.1) (oLe g12)
 have m30 := (((((m8.keep u11_0 (ninS n28 nin0)).ext E12).keep u13_0 nin0).keep u14_0 nin0).keep u22_0 (ninS n29 nin0))
 have m31 := (((((m9.keep u11_0 (ninS n28 nin0)).ext E12).keep u13_0 nin0).keep u14_0 nin0).keep u22_0 (ninS n29 nin0))
 have n32 := oLsz A1.lt u2_8
 have n33 := oLn u2_5.lt (Nat.le_trans u3_0.1 u11_0.1) (oLe g12)
 have m34 := (((((m10.keep u11_0 (ninS n32 nin0)).ext E12).keep u13_0 nin0).keep u14_0 nin0).keep u22_0 (ninS n33 nin0))
 have m35 := ((((((u2_6.keep u3_0 nin0).keep u11_0 (ninS n28 nin0)).ext E12).keep u13_0 nin0).keep u14_0 nin0).keep u22_0 (ninS n29 nin0))
 have m36 := ((((((u2_7.keep u3_0 nin0).keep u11_0 (ninS n28 nin0)).ext E12).keep u13_0 nin0).keep u14_0 nin0).keep u22_0 (ninS n29 nin0))
 have m37 := ((((((u2_9.keep u3_0).keep u11_0).ext E12).keep u13_0).keep u14_0).keep u22_0)
 have m38 := (((((u3_2.keep u11_0).ext E12).keep u13_0).keep u14_0).keep u22_0)
 have n39 := oLsn A1.lt u2_0.1 u3_1
 have n40 := oLn u3_2.lt u11_0.1 (oLe g12)
 have m41 := (((((u3_3.keep u11_0 (ninS n39 nin0)).ext E12).keep u13_0 nin0).keep u14_0 nin0).keep u22_0 (ninS n40 nin0))
 have m42 := (((((u3_4.keep u11_0 (ninS n39 nin0)).ext E12).keep u13_0 nin0).keep u14_0 nin0).keep u22_0 (ninS n40 nin0))
 have n43 := oLsn A1.lt u2_0.1 u3_8
 have n44 := oLn u3_5.lt u11_0.1 (oLe g12)
 have m45 := (((((u3_5.keep u11_0 (ninS n43 nin0)).ext E12).keep u13_0 nin0).keep u14_0 nin0).keep u22_0 (ninS n44 nin0))
 have m46 := (((((u3_6.keep u11_0 (ninS n39 nin0)).ext E12).keep u13_0 nin0).keep u14_0 nin0).keep u22_0 (ninS n40 nin0))
 have m47 := (((((u3_7.keep u11_0 (ninS n39 nin0)).ext E12).keep u13_0 nin0).keep u14_0 nin0).keep u22_0 (ninS n40 nin0))
 have m48 := (((((u3_9.keep u11_0).ext E12).keep u13_0).keep u14_0).keep u22_0)
 have n49 := oLsz u2_2.lt u3_1
 refine o_virtual K X22   (w115 hw) (w116 hw) (oNF (w118 hw)) (w118 hw) (w117 hw) (w10 hw) (w119 hw) (by decide) m23 (rm_rkh12 l Z a0 hw b1 s_2 sv_2 ks_2 s_3 sv_3 ks_3 sa ia ib cs h22 m23 m25 m26 m27 m30 m31 m34 m35 m36 m37 G2_s m38 m41 m42 m45 m46 m47 m48 G3_s (Ne.symm n28) n49 q9 q11 q12 q27 q28) (by decide) rfl (argsL := []) rfl (lenOf pd10 rfl) (W := 0) rfl (by decide) (by decide) (by decide) at_247 rfl ?_
 intro v50 T50 h50 X50 U50
 obtain ⟨rfl, u50_0⟩ := U50
 show oGoes pp ee bb ss Z T50 (mkF mm 250 _ [(.int (((31 : Int32) * sa) + (((31 : Int32) * ia) + ib)))]) _ _ _
 refine o_istore K X50 at_250 rfl (L' := #[vI i0, vI i1, vI i2, vI i3, vI i4, vI i5, vI 1, vI 2, vI ps, vI sa, vI sb, vI ia, vI ib, vI xa, vI xb, vI ya, vI yb, vI 0, vR b1, vR b12, vI (((31 : Int32) * sa) + (((31 : Int32) * ia) + ib)), uS]) rfl ?_
 refine o_aload K X50 at_252 rfl rfl rfl ?_
 have m51 := (u22_1.keep u50_0)
 have m52 := (u22_2.keep u50_0 (ninS (Ne.symm n29) (ninS (Ne.symm n40) nin0)))
 have m53 := (u22_3.keep u50_0 (ninS (Ne.symm n29) (ninS (Ne.symm n40) nin0)))
 have m54 := ((m18.keep u22_0).keep u50_0)
 have n55 := oLsz A12.lt u13_1
 have n56 := oLsn u3_2.lt (Nat.le_trans u11_0.1 E12.1) u13_1
 have y2_5 := Nat.le_trans (Nat.le_trans u3_0.1 u11_0.1) E12.1
 have n57 := oLsn u2_2.lt y2_5 u13_1
 have m58 := ((m19.keep u22_0 (ninS n55 nin0)).keep u50_0 (ninS n57 (ninS n56 nin0)))
 have m59 := ((m20.keep u22_0 (ninS n55 nin0)).keep u50_0 (ninS n57 (ninS n56 nin0)))
 have n60 := oLsz A12.lt u13_8
 have n61 := oLsn u3_2.lt (Nat.le_trans u11_0.1 E12.1) u13_8
 have n62 := oLsn u2_2.lt y2_5 u13_8
 have m63 := ((m21.keep u22_0 (ninS n60 nin0)).keep u50_0 (ninS n62 (ninS n61 nin0)))
 have m64 := (((u13_6.keep u14_0 nin0).keep u22_0 (ninS n55 nin0)).keep u50_0 (ninS n57 (ninS n56 nin0)))
 have m65 := (((u13_7.keep u14_0 nin0).keep u22_0 (ninS n55 nin0)).keep u50_0 (ninS n57 (ninS n56 nin0)))
 have m66 := (((u13_9.keep u14_0).keep u22_0).keep u50_0)
 have m67 := ((u14_2.keep u22_0).keep u50_0)
 have n68 := oLsn A12.lt u13_0.1 u14_1
 have y3_6 := Nat.le_trans (Nat.le_trans u11_0.1 E12.1) u13_0.1
 have n69 := oLsn u3_2.lt y3_6 u14_1
 have n70 := oLsn u2_2.lt (Nat.le_trans y2_5 u13_0.1) u14_1
 have m71 := ((u14_3.keep u22_0 (ninS n68 nin0)).keep u50_0 (ninS n70 (ninS n69 nin0)))
 have m72 := ((u14_4.keep u22_0 (ninS n68 nin0)).keep u50_0 (ninS n70 (ninS n69 nin0)))
 have n73 := oLsn A12.lt u13_0.1 u14_8
 have n74 := oLsn u3_2.lt y3_6 u14_8
 have n75 := oLsn u2_2.lt (Nat.le_trans y2_5 u13_0.1) u14_8
 have m76 := ((u14_5.keep u22_0 (ninS n73 nin0)).keep u50_0 (ninS n75 (ninS n74 nin0)))
 have m77 := ((u14_6.keep u22_0 (ninS n68 nin0)).keep u50_0 (ninS n70 (ninS n69 nin0)))
 have m78 := ((u14_7.keep u22_0 (ninS n68 nin0)).keep u50_0 (ninS n70 (ninS n69 nin0)))
 have m79 := ((u14_9.keep u22_0).keep u50_0)
 have n80 := oLsz u13_2.lt u14_1
 refine o_virtual K X50   (w115 hw) (w116 hw) (oNF (w118 hw)) (w118 hw) (w117 hw) (w10 hw) (w119 hw) (by decide) m51 (rm_rkh12 l Z a0 hw b12 s_13 sv_13 ks_13 s_14 sv_14 ks_14 xa ya yb cs h50 m51 m52 m53 m54 m58 m59 m63 m64 m65 m66 G13_s m67 m71 m72 m76 m77 m78 m79 G14_s (Ne.symm n55) n80 q13 q15 q16 q27 q28) (by decide) rfl (argsL := []) rfl (lenOf pd10 rfl) (W := 0) rfl (by decide) (by decide) (by decide) at_254 rfl ?_
 intro v81 T81 h81 X81 U81
 obtain ⟨rfl, u81_0⟩ := U81
 show oGoes pp ee bb ss Z T81 (mkF mm 257 _ [(.int (((31 : Int32) * xa) + (((31 : Int32) * ya) + yb)))]) _ _ _
 refine o_istore K X81 at_257 rfl (L' := #[vI i0, vI i1, vI i2, vI i3, vI i4, vI i5, vI 1, vI 2, vI ps, vI sa, vI sb, vI ia, vI ib, vI xa, vI xb, vI ya, vI yb, vI 0, vR b1, vR b12, vI (((31 : Int32) * sa) + (((31 : Int32) * ia) + ib)), vI (((31 : Int32) * xa) + (((31 : Int32) * ya) + yb))]) rfl ?_
 refine o_iload K X81 at_259 rfl rfl ?_
 refine o_if_eq_t K X81 at_261 (by decide) (pc' := 279) (by decide) (by decide) ?_
 refine o_iload K X81 at_279 rfl rfl ?_
 refine o_iload K X81 at_281 rfl rfl ?_
 refine o_icmp_ne_f K X81 at_283 rfl q0 ?_
 refine o_iconst K X81 at_286 rfl (z := 1) rfl ?_
 refine o_goto K X81 at_287 (by decide) (pc' := 291) (by decide) ?_
 refine o_ireturnN K X81 .boolean at_291 rfl (by simp) (z' := 1) (by decide) ?_ (by decide) (by decide)
 exact hQ _ _ rfl
def Q_lw121 (Z : State) (i0 i1 i2 i3 i4 i5 ps sa sb ia ib xa xb ya yb : Int32) (fm : Value) (cs : Int32) (h0 : Heap) (v : Option Value) (h : Heap) : Prop := v = some (.int 1)
theorem tl_lw121 (l : Launch) (Z : State) (a0 : Array Value) (hw : oHw Z a0) (i0 i1 i2 i3 i4 i5 ps sa sb ia ib xa xb ya yb : Int32) (fm : Value) (cs : Int32) (h0 : Heap) (q0 : ¬ ((((31 : Int32) * sa) + (((31 : Int32) * ia) + ib)) = (((31 : Int32) * xa) + (((31 : Int32) * ya) + yb)))) (q1 : oSh sa) (q2 : oSh sb) (q3 : oId ia) (q4 : oId ib) (q5 : oSh xa) (q6 : oSh xb) (q7 : oId ya) (q8 : oId yb) (q9 : oCh sa) (q10 : oCh sb) (q11 : oCh ia) (q12 : oCh ib) (q13 : oCh xa) (q14 : oCh xb) (q15 : oCh ya) (q16 : oCh yb) (q17 : nar .char sa = sa) (q18 : nar .char sb = sb) (q19 : nar .char ia = ia) (q20 : nar .char ib = ib) (q21 : nar .char xa = xa) (q22 : nar .char xb = xb) (q23 : nar .char ya = ya) (q24 : nar .char yb = yb) (q25 : Sta Z Z.heap z4 z6 z7 fm) (q26 : fm.isRef = true) (q27 : Sta Z Z.heap z0 z3 "Z" (.int cs)) (q28 : ¬ (cs = (0 : Int32))) {Q : Option Value → Heap → Prop} (hQ : ∀ v h, Q_lw121 Z i0 i1 i2 i3 i4 i5 ps sa sb ia ib xa xb ya yb fm cs h0 v h → Q v h) {pp : Program} {ee : Env} {ss : State} {mm : MethodId} {bb : List Frame} {mtd : Method} {cc : Code} {A : Array Value} {T0 : State} (K : oCtx pp ss mm mtd cc Z z5 code maxLocals "law" ret x) (X0 : oSt pp l ee room_1 ss mm A bb mtd cc Z T0 h0 0 0) : oGoes pp ee bb ss Z T0 (mkF mm 191 #[vI i0, vI i1, vI i2, vI i3, vI i4, vI i5, vI 1, vI 2, vI ps, vI sa, vI sb, vI ia, vI ib, vI xa, vI xb, vI ya, vI yb, vI 1, uS, uS, uS, uS] []) Q room_1.cells room_1.slots := by
 have E0 := X0.ext0
 refine o_new K X0 (w8 hw) (w9 hw) (w10 hw) at_191 rfl (by decide) (by decide) ?_
 intro T1 h1 b1 X1 g1 E1 A1 D1 G1
 have F1_shelf : Fld Z h1 b1 z1 "shelf" z2 .null := (D1 (Or.inr (w112 hw)) (ty := (.object z0)) (by decide))
 have F1_id : Fld Z h1 b1 z1 "id" z2 .null := (D1 (Or.inr (w114 hw)) (ty := (.object z0)) (by decide))
 refine o_dup K X1 at_194 rfl rfl ?_
 refine o_iload K X1 at_195 rfl rfl ?_
 refine o_iload K X1 at_197 rfl rfl ?_
 refine o_iload K X1 at_199 rfl rfl ?_
 refine o_static K X1  (w11 hw) (w12 hw) (w2 hw) (w13 hw) (by decide) (rm_str1 l Z a0 hw sa sb cs h1 q9.2 q17 q18 q27 q28) (by decide) rfl (argsL := [.int 1, .int sa, .int sb]) rfl (lenOf pd19 rfl) (W := 2) rfl (by decide) (by decide) (by decide) at_201 rfl ?_
 intro v2 T2 h2 X2 U2
 obtain ⟨s_2, sv_2, ks_2, rfl, u2_0, u2_1, u2_2, u2_3, u2_4, u2_5, u2_6, u2_7, u2_8, u2_9⟩ := U2
 have G2_s : Z.heap.size ≤ s_2 := Nat.le_trans X1.ext0.1 u2_1
 have G2_sv : Z.heap.size ≤ sv_2 := Nat.le_trans X1.ext0.1 u2_8
 show oGoes pp ee bb ss Z T2 (mkF mm 204 _ [.ref s_2, .ref b1, .ref b1]) _ _ _
 refine o_iload K X2 at_204 rfl rfl ?_
 refine o_iload K X2 at_206 rfl rfl ?_
 refine o_iload K X2 at_208 rfl rfl ?_
 refine o_static K X2  (w11 hw) (w12 hw) (w2 hw) (w13 hw) (by decide) (rm_str2 l Z a0 hw ia ib cs h2 q11.2 q12.2 q19 q20 q27 q28) (by decide) rfl (argsL := [.int 2, .int ia, .int ib]) rfl (lenOf pd19 rfl) (W := 3) rfl (by decide) (by decide) (by decide) at_210 rfl ?_
 intro v3 T3 h3 X3 U3
 obtain ⟨s_3, sv_3, ks_3, rfl, u3_0, u3_1, u3_2, u3_3, u3_4, u3_5, u3_6, u3_7, u3_8, u3_9⟩ := U3
 have G3_s : Z.heap.size ≤ s_3 := Nat.le_trans X2.ext0.1 u3_1
 have G3_sv : Z.heap.size ≤ sv_3 := Nat.le_trans X2.ext0.1 u3_8
 show oGoes pp ee bb ss Z T3 (mkF mm 213 _ [.ref s_3, .ref s_2, .ref b1, .ref b1]) _ _ _
 have m4 := ((A1.keep u2_0).keep u3_0)
 have m5 := ((F1_shelf.keep u2_0 nin0).keep u3_0 nin0)
 have m6 := ((F1_id.keep u2_0 nin0).keep u3_0 nin0)
 have m7 := (u2_2.keep u3_0)
 have m8 := (u2_3.keep u3_0 nin0)
 have m9 := (u2_4.keep u3_0 nin0)
 have m10 := (u2_5.keep u3_0 nin0)
 refine o_special K X3 (y := (⟨z1, "<init>", z8⟩ : MethodName)) rfl (w44 hw) (w45 hw) (w10 hw) (w46 hw) (by decide) (rm_rk12 l Z a0 hw b1 s_2 sv_2 ks_2 s_3 sv_3 ks_3 sa ia ib fm cs h3 m4 G1 m5 m6 m7 m8 m9 m10 u3_2 u3_3 u3_4 u3_5 q1 q3 q4 q9 q11 q12 q25 q26 q27 q28) (by decide) rfl (argsL := [.ref s_2, .ref s_3]) rfl (lenOf pd20 rfl) (W := 1) rfl (by decide) (by decide) (by decide) at_213 rfl ?_
 intro v11 T11 h11 X11 U11
 obtain ⟨rfl, u11_0, u11_1, u11_2, u11_3⟩ := U11
 show oGoes pp ee bb ss Z T11 (mkF mm 216 _ [.ref b1]) _ _ _
 refine o_astore K X11 at_216 rfl rfl (L' := #[vI i0, vI i1, vI i2, vI i3, vI i4, vI i5, vI 1, vI 2, vI ps, vI sa, vI sb, vI ia, vI ib, vI xa, vI xb, vI ya, vI yb, vI 1, vR b1, uS, uS, uS]) rfl ?_
 refine o_new K X11 (w8 hw) (w9 hw) (w10 hw) at_218 rfl (by decide) (by decide) ?_
 intro T12 h12 b12 X12 g12 E12 A12 D12 G12
 have F12_shelf : Fld Z h12 b12 z1 "shelf" z2 .null := (D12 (Or.inr (w112 hw)) (ty := (.object z0)) (by decide))
 have F12_id : Fld Z h12 b12 z1 "id" z2 .null := (D12 (Or.inr (w114 hw)) (ty := (.object z0)) (by decide))
 refine o_dup K X12 at_221 rfl rfl ?_
 refine o_iload K X12 at_222 rfl rfl ?_
 refine o_iload K X12 at_224 rfl rfl ?_
 refine o_iload K X12 at_226 rfl rfl ?_
 refine o_static K X12  (w11 hw) (w12 hw) (w2 hw) (w13 hw) (by decide) (rm_str1 l Z a0 hw xa xb cs h12 q13.2 q21 q22 q27 q28) (by decide) rfl (argsL := [.int 1, .int xa, .int xb]) rfl (lenOf pd19 rfl) (W := 2) rfl (by decide) (by decide) (by decide) at_228 rfl ?_
 intro v13 T13 h13 X13 U13
 obtain ⟨s_13, sv_13, ks_13, rfl, u13_0, u13_1, u13_2, u13_3, u13_4, u13_5, u13_6, u13_7, u13_8, u13_9⟩ := U13
 have G13_s : Z.heap.size ≤ s_13 := Nat.le_trans X12.ext0.1 u13_1
 have G13_sv : Z.heap.size ≤ sv_13 := Nat.le_trans X12.ext0.1 u13_8
 show oGoes pp ee bb ss Z T13 (mkF mm 231 _ [.ref s_13, .ref b12, .ref b12]) _ _ _
 refine o_iload K X13 at_231 rfl rfl ?_
 refine o_iload K X13 at_233 rfl rfl ?_
 refine o_iload K X13 at_235 rfl rfl ?_
 refine o_static K X13  (w11 hw) (w12 hw) (w2 hw) (w13 hw) (by decide) (rm_str2 l Z a0 hw ya yb cs h13 q15.2 q16.2 q23 q24 q27 q28) (by decide) rfl (argsL := [.int 2, .int ya, .int yb]) rfl (lenOf pd19 rfl) (W := 3) rfl (by decide) (by decide) (by decide) at_237 rfl ?_
 intro v14 T14 h14 X14 U14
 obtain ⟨s_14, sv_14, ks_14, rfl, u14_0, u14_1, u14_2, u14_3, u14_4, u14_5, u14_6, u14_7, u14_8, u14_9⟩ := U14
 have G14_s : Z.heap.size ≤ s_14 := Nat.le_trans X13.ext0.1 u14_1
 have G14_sv : Z.heap.size ≤ sv_14 := Nat.le_trans X13.ext0.1 u14_8
 show oGoes pp ee bb ss Z T14 (mkF mm 240 _ [.ref s_14, .ref s_13, .ref b12, .ref b12]) _ _ _
 have m15 := ((A12.keep u13_0).keep u14_0)
 have m16 := ((F12_shelf.keep u13_0 nin0).keep u14_0 nin0)
 have m17 := ((F12_id.keep u13_0 nin0).keep u14_0 nin0)
 have m18 := (u13_2.keep u14_0)
 have m19 := (u13_3.keep u14_0 nin0)
 have m20 := (u13_4.keep u14_0 nin0)
 have m21 := (u13_5.keep u14_0 nin0)
 refine o_special K X14 (y := (⟨z1, "<init>", z8⟩ : MethodName)) rfl (w44 hw) (w45 hw) (w10 hw) (w46 hw) (by decide) (rm_rk12 l Z a0 hw b12 s_13 sv_13 ks_13 s_14 sv_14 ks_14 xa ya yb fm cs h14 m15 G12 m16 m17 m18 m19 m20 m21 u14_2 u14_3 u14_4 u14_5 q5 q7 q8 q13 q15 q16 q25 q26 q27 q28) (by decide) rfl (argsL := [.ref s_13, .ref s_14]) rfl (lenOf pd20 rfl) (W := 1) rfl (by decide) (by decide) (by decide) at_240 rfl ?_
 intro v22 T22 h22 X22 U22
 obtain ⟨rfl, u22_0, u22_1, u22_2, u22_3⟩ := U22
 show oGoes pp ee bb ss Z T22 (mkF mm 243 _ [.ref b12]) _ _ _
 refine o_astore K X22 at_243 rfl rfl (L' := #[vI i0, vI i1, vI i2, vI i3, vI i4, vI i5, vI 1, vI 2, vI ps, vI sa, vI sb, vI ia, vI ib, vI xa, vI xb, vI ya, vI yb, vI 1, vR b1, vR b12, uS, uS]) rfl ?_
 refine o_aload K X22 at_245 rfl rfl rfl ?_
 have m23 := ((((u11_1.ext E12).keep u13_0).keep u14_0).keep u22_0)
 have y1_4 := Nat.le_trans (Nat.le_trans u2_0.1 u3_0.1) u11_0.1
 have n24 := oLn A1.lt y1_4 (oLe g12)
 have m25 := ((((u11_2.ext E12).keep u13_0 nin0).keep u14_0 nin0).keep u22_0 (ninS n24 nin0))
 have m26 := ((((u11_3.ext E12).keep u13_0 nin0).keep u14_0 nin0).keep u22_0 (ninS n24 nin0))
 have m27 := (((((m7.keep u11_0).ext E12).keep u13_0).keep u14_0).keep u22_0)
 have n28 := oLsz A1.lt u2_1
 have n29 := oLn u2_2.lt (Nat.le_trans u3_0.1 u11_0.1) (oLe g12)
 have m30 := (((((m8.keep u11_0 (ninS n28 nin0)).ext E12).keep u13_0 nin0).keep u14_0 nin0).keep u22_0 (ninS n29 nin0))
 have m31 := (((((m9.keep u11_0 (ninS n28 nin0)).ext E12).keep u13_0 nin0).keep u14_0 nin0).keep u22_0 (ninS n29 nin0))
 have n32 := oLsz A1.lt u2_8
 have n33 := oLn u2_5.lt (Nat.le_trans u3_0.1 u11_0.1) (oLe g12)
 have m34 := (((((m10.keep u11_0 (ninS n32 nin0)).ext E12).keep u13_0 nin0).keep u14_0 nin0).keep u22_0 (ninS n33 nin0))
 have m35 := ((((((u2_6.keep u3_0 nin0).keep u11_0 (ninS n28 nin0)).ext E12).keep u13_0 nin0).keep u14_0 nin0).keep u22_0 (ninS n29 nin0))
 have m36 := ((((((u2_7.keep u3_0 nin0).keep u11_0 (ninS n28 nin0)).ext E12).keep u13_0 nin0).keep u14_0 nin0).keep u22_0 (ninS n29 nin0))
 have m37 := ((((((u2_9.keep u3_0).keep u11_0).ext E12).keep u13_0).keep u14_0).keep u22_0)
 have m38 := (((((u3_2.keep u11_0).ext E12).keep u13_0).keep u14_0).keep u22_0)
 have n39 := oLsn A1.lt u2_0.1 u3_1
 have n40 := oLn u3_2.lt u11_0.1 (oLe g12)
 have m41 := (((((u3_3.keep u11_0 (ninS n39 nin0)).ext E12).keep u13_0 nin0).keep u14_0 nin0).keep u22_0 (ninS n40 nin0))
 have m42 := (((((u3_4.keep u11_0 (ninS n39 nin0)).ext E12).keep u13_0 nin0).keep u14_0 nin0).keep u22_0 (ninS n40 nin0))
 have n43 := oLsn A1.lt u2_0.1 u3_8
 have n44 := oLn u3_5.lt u11_0.1 (oLe g12)
 have m45 := (((((u3_5.keep u11_0 (ninS n43 nin0)).ext E12).keep u13_0 nin0).keep u14_0 nin0).keep u22_0 (ninS n44 nin0))
 have m46 := (((((u3_6.keep u11_0 (ninS n39 nin0)).ext E12).keep u13_0 nin0).keep u14_0 nin0).keep u22_0 (ninS n40 nin0))
 have m47 := (((((u3_7.keep u11_0 (ninS n39 nin0)).ext E12).keep u13_0 nin0).keep u14_0 nin0).keep u22_0 (ninS n40 nin0))
 have m48 := (((((u3_9.keep u11_0).ext E12).keep u13_0).keep u14_0).keep u22_0)
 have n49 := oLsz u2_2.lt u3_1
 refine o_virtual K X22   (w115 hw) (w116 hw) (oNF (w118 hw)) (w118 hw) (w117 hw) (w10 hw) (w119 hw) (by decide) m23 (rm_rkh12 l Z a0 hw b1 s_2 sv_2 ks_2 s_3 sv_3 ks_3 sa ia ib cs h22 m23 m25 m26 m27 m30 m31 m34 m35 m36 m37 G2_s m38 m41 m42 m45 m46 m47 m48 G3_s (Ne.symm n28) n49 q9 q11 q12 q27 q28) (by decide) rfl (argsL := []) rfl (lenOf pd10 rfl) (W := 0) rfl (by decide) (by decide) (by decide) at_247 rfl ?_
 intro v50 T50 h50 X50 U50
 obtain ⟨rfl, u50_0⟩ := U50
 show oGoes pp ee bb ss Z T50 (mkF mm 250 _ [(.int (((31 : Int32) * sa) + (((31 : Int32) * ia) + ib)))]) _ _ _
 refine o_istore K X50 at_250 rfl (L' := #[vI i0, vI i1, vI i2, vI i3, vI i4, vI i5, vI 1, vI 2, vI ps, vI sa, vI sb, vI ia, vI ib, vI xa, vI xb, vI ya, vI yb, vI 1, vR b1, vR b12, vI (((31 : Int32) * sa) + (((31 : Int32) * ia) + ib)), uS]) rfl ?_
 refine o_aload K X50 at_252 rfl rfl rfl ?_
 have m51 := (u22_1.keep u50_0)
 have m52 := (u22_2.keep u50_0 (ninS (Ne.symm n29) (ninS (Ne.symm n40) nin0)))
 have m53 := (u22_3.keep u50_0 (ninS (Ne.symm n29) (ninS (Ne.symm n40) nin0)))
 have m54 := ((m18.keep u22_0).keep u50_0)
 have n55 := oLsz A12.lt u13_1
 have n56 := oLsn u3_2.lt (Nat.le_trans u11_0.1 E12.1) u13_1
 have y2_5 := Nat.le_trans (Nat.le_trans u3_0.1 u11_0.1) E12.1
 have n57 := oLsn u2_2.lt y2_5 u13_1
 have m58 := ((m19.keep u22_0 (ninS n55 nin0)).keep u50_0 (ninS n57 (ninS n56 nin0)))
 have m59 := ((m20.keep u22_0 (ninS n55 nin0)).keep u50_0 (ninS n57 (ninS n56 nin0)))
 have n60 := oLsz A12.lt u13_8
 have n61 := oLsn u3_2.lt (Nat.le_trans u11_0.1 E12.1) u13_8
 have n62 := oLsn u2_2.lt y2_5 u13_8
 have m63 := ((m21.keep u22_0 (ninS n60 nin0)).keep u50_0 (ninS n62 (ninS n61 nin0)))
 have m64 := (((u13_6.keep u14_0 nin0).keep u22_0 (ninS n55 nin0)).keep u50_0 (ninS n57 (ninS n56 nin0)))
 have m65 := (((u13_7.keep u14_0 nin0).keep u22_0 (ninS n55 nin0)).keep u50_0 (ninS n57 (ninS n56 nin0)))
 have m66 := (((u13_9.keep u14_0).keep u22_0).keep u50_0)
 have m67 := ((u14_2.keep u22_0).keep u50_0)
 have n68 := oLsn A12.lt u13_0.1 u14_1
 have y3_6 := Nat.le_trans (Nat.le_trans u11_0.1 E12.1) u13_0.1
 have n69 := oLsn u3_2.lt y3_6 u14_1
 have n70 := oLsn u2_2.lt (Nat.le_trans y2_5 u13_0.1) u14_1
 have m71 := ((u14_3.keep u22_0 (ninS n68 nin0)).keep u50_0 (ninS n70 (ninS n69 nin0)))
 have m72 := ((u14_4.keep u22_0 (ninS n68 nin0)).keep u50_0 (ninS n70 (ninS n69 nin0)))
 have n73 := oLsn A12.lt u13_0.1 u14_8
 have n74 := oLsn u3_2.lt y3_6 u14_8
 have n75 := oLsn u2_2.lt (Nat.le_trans y2_5 u13_0.1) u14_8
 have m76 := ((u14_5.keep u22_0 (ninS n73 nin0)).keep u50_0 (ninS n75 (ninS n74 nin0)))
 have m77 := ((u14_6.keep u22_0 (ninS n68 nin0)).keep u50_0 (ninS n70 (ninS n69 nin0)))
 have m78 := ((u14_7.keep u22_0 (ninS n68 nin0)).keep u50_0 (ninS n70 (ninS n69 nin0)))
 have m79 := ((u14_9.keep u22_0).keep u50_0)
 have n80 := oLsz u13_2.lt u14_1
 refine o_virtual K X50   (w115 hw) (w116 hw) (oNF (w118 hw)) (w118 hw) (w117 hw) (w10 hw) (w119 hw) (by decide) m51 (rm_rkh12 l Z a0 hw b12 s_13 sv_13 ks_13 s_14 sv_14 ks_14 xa ya yb cs h50 m51 m52 m53 m54 m58 m59 m63 m64 m65 m66 G13_s m67 m71 m72 m76 m77 m78 m79 G14_s (Ne.symm n55) n80 q13 q15 q16 q27 q28) (by decide) rfl (argsL := []) rfl (lenOf pd10 rfl) (W := 0) rfl (by decide) (by decide) (by decide) at_254 rfl ?_
 intro v81 T81 h81 X81 U81
 obtain ⟨rfl, u81_0⟩ := U81
 show oGoes pp ee bb ss Z T81 (mkF mm 257 _ [(.int (((31 : Int32) * xa) + (((31 : Int32) * ya) + yb)))]) _ _ _
 refine o_istore K X81 at_257 rfl (L' := #[vI i0, vI i1, vI i2, vI i3, vI i4, vI i5, vI 1, vI 2, vI ps, vI sa, vI sb, vI ia, vI ib, vI xa, vI xb, vI ya, vI yb, vI 1, vR b1, vR b12, vI (((31 : Int32) * sa) + (((31 : Int32) * ia) + ib)), vI (((31 : Int32) * xa) + (((31 : Int32) * ya) + yb))]) rfl ?_
 refine o_iload K X81 at_259 rfl rfl ?_
 refine o_if_eq_f K X81 at_261 rfl (by decide) ?_
 refine o_iload K X81 at_264 rfl rfl ?_
 refine o_iload K X81 at_266 rfl rfl ?_
 refine o_icmp_eq_f K X81 at_268 rfl q0 ?_
 refine o_iconst K X81 at_271 rfl (z := 1) rfl ?_
 refine o_goto K X81 at_272 (by decide) (pc' := 291) (by decide) ?_
 refine o_ireturnN K X81 .boolean at_291 rfl (by simp) (z' := 1) (by decide) ?_ (by decide) (by decide)
 exact hQ _ _ rfl
def Q_lw210 (Z : State) (i0 i1 i2 i3 i4 i5 ps sa sb ia ib xa xb ya yb : Int32) (fm : Value) (cs : Int32) (h0 : Heap) (v : Option Value) (h : Heap) : Prop := v = some (.int 1)
theorem tl_lw210 (l : Launch) (Z : State) (a0 : Array Value) (hw : oHw Z a0) (i0 i1 i2 i3 i4 i5 ps sa sb ia ib xa xb ya yb : Int32) (fm : Value) (cs : Int32) (h0 : Heap) (q0 : (((31 : Int32) * (((31 : Int32) * sa) + sb)) + ia) = (((31 : Int32) * (((31 : Int32) * xa) + xb)) + ya)) (q1 : oSh sa) (q2 : oSh sb) (q3 : oId ia) (q4 : oId ib) (q5 : oSh xa) (q6 : oSh xb) (q7 : oId ya) (q8 : oId yb) (q9 : oCh sa) (q10 : oCh sb) (q11 : oCh ia) (q12 : oCh ib) (q13 : oCh xa) (q14 : oCh xb) (q15 : oCh ya) (q16 : oCh yb) (q17 : nar .char sa = sa) (q18 : nar .char sb = sb) (q19 : nar .char ia = ia) (q20 : nar .char ib = ib) (q21 : nar .char xa = xa) (q22 : nar .char xb = xb) (q23 : nar .char ya = ya) (q24 : nar .char yb = yb) (q25 : Sta Z Z.heap z4 z6 z7 fm) (q26 : fm.isRef = true) (q27 : Sta Z Z.heap z0 z3 "Z" (.int cs)) (q28 : ¬ (cs = (0 : Int32))) {Q : Option Value → Heap → Prop} (hQ : ∀ v h, Q_lw210 Z i0 i1 i2 i3 i4 i5 ps sa sb ia ib xa xb ya yb fm cs h0 v h → Q v h) {pp : Program} {ee : Env} {ss : State} {mm : MethodId} {bb : List Frame} {mtd : Method} {cc : Code} {A : Array Value} {T0 : State} (K : oCtx pp ss mm mtd cc Z z5 code maxLocals "law" ret x) (X0 : oSt pp l ee room_1 ss mm A bb mtd cc Z T0 h0 0 0) : oGoes pp ee bb ss Z T0 (mkF mm 191 #[vI i0, vI i1, vI i2, vI i3, vI i4, vI i5, vI 2, vI 1, vI ps, vI sa, vI sb, vI ia, vI ib, vI xa, vI xb, vI ya, vI yb, vI 0, uS, uS, uS, uS] []) Q room_1.cells room_1.slots := by
 have E0 := X0.ext0
 refine o_new K X0 (w8 hw) (w9 hw) (w10 hw) at_191 rfl (by decide) (by decide) ?_
 intro T1 h1 b1 X1 g1 E1 A1 D1 G1
 have F1_shelf : Fld Z h1 b1 z1 "shelf" z2 .null := (D1 (Or.inr (w112 hw)) (ty := (.object z0)) (by decide))
 have F1_id : Fld Z h1 b1 z1 "id" z2 .null := (D1 (Or.inr (w114 hw)) (ty := (.object z0)) (by decide))
 refine o_dup K X1 at_194 rfl rfl ?_
 refine o_iload K X1 at_195 rfl rfl ?_
 refine o_iload K X1 at_197 rfl rfl ?_
 refine o_iload K X1 at_199 rfl rfl ?_
 refine o_static K X1  (w11 hw) (w12 hw) (w2 hw) (w13 hw) (by decide) (rm_str2 l Z a0 hw sa sb cs h1 q9.2 q10.2 q17 q18 q27 q28) (by decide) rfl (argsL := [.int 2, .int sa, .int sb]) rfl (lenOf pd19 rfl) (W := 2) rfl (by decide) (by decide) (by decide) at_201 rfl ?_
 intro v2 T2 h2 X2 U2
 obtain ⟨s_2, sv_2, ks_2, rfl, u2_0, u2_1, u2_2, u2_3, u2_4, u2_5, u2_6, u2_7, u2_8, u2_9⟩ := U2
 have G2_s : Z.heap.size ≤ s_2 := Nat.le_trans X1.ext0.1 u2_1
 have G2_sv : Z.heap.size ≤ sv_2 := Nat.le_trans X1.ext0.1 u2_8
 show oGoes pp ee bb ss Z T2 (mkF mm 204 _ [.ref s_2, .ref b1, .ref b1]) _ _ _
 refine o_iload K X2 at_204 rfl rfl ?_
 refine o_iload K X2 at_206 rfl rfl ?_
 refine o_iload K X2 at_208 rfl rfl ?_
 refine o_static K X2  (w11 hw) (w12 hw) (w2 hw) (w13 hw) (by decide) (rm_str1 l Z a0 hw ia ib cs h2 q11.2 q19 q20 q27 q28) (by decide) rfl (argsL := [.int 1, .int ia, .int ib]) rfl (lenOf pd19 rfl) (W := 3) rfl (by decide) (by decide) (by decide) at_210 rfl ?_
 intro v3 T3 h3 X3 U3
 obtain ⟨s_3, sv_3, ks_3, rfl, u3_0, u3_1, u3_2, u3_3, u3_4, u3_5, u3_6, u3_7, u3_8, u3_9⟩ := U3
 have G3_s : Z.heap.size ≤ s_3 := Nat.le_trans X2.ext0.1 u3_1
 have G3_sv : Z.heap.size ≤ sv_3 := Nat.le_trans X2.ext0.1 u3_8
 show oGoes pp ee bb ss Z T3 (mkF mm 213 _ [.ref s_3, .ref s_2, .ref b1, .ref b1]) _ _ _
 have m4 := ((A1.keep u2_0).keep u3_0)
 have m5 := ((F1_shelf.keep u2_0 nin0).keep u3_0 nin0)
 have m6 := ((F1_id.keep u2_0 nin0).keep u3_0 nin0)
 have m7 := (u2_2.keep u3_0)
 have m8 := (u2_3.keep u3_0 nin0)
 have m9 := (u2_4.keep u3_0 nin0)
 have m10 := (u2_5.keep u3_0 nin0)
 refine o_special K X3 (y := (⟨z1, "<init>", z8⟩ : MethodName)) rfl (w44 hw) (w45 hw) (w10 hw) (w46 hw) (by decide) (rm_rk21 l Z a0 hw b1 s_2 sv_2 ks_2 s_3 sv_3 ks_3 sa sb ia fm cs h3 m4 G1 m5 m6 m7 m8 m9 m10 u3_2 u3_3 u3_4 u3_5 q1 q2 q3 q9 q10 q11 q25 q26 q27 q28) (by decide) rfl (argsL := [.ref s_2, .ref s_3]) rfl (lenOf pd20 rfl) (W := 1) rfl (by decide) (by decide) (by decide) at_213 rfl ?_
 intro v11 T11 h11 X11 U11
 obtain ⟨rfl, u11_0, u11_1, u11_2, u11_3⟩ := U11
 show oGoes pp ee bb ss Z T11 (mkF mm 216 _ [.ref b1]) _ _ _
 refine o_astore K X11 at_216 rfl rfl (L' := #[vI i0, vI i1, vI i2, vI i3, vI i4, vI i5, vI 2, vI 1, vI ps, vI sa, vI sb, vI ia, vI ib, vI xa, vI xb, vI ya, vI yb, vI 0, vR b1, uS, uS, uS]) rfl ?_
 refine o_new K X11 (w8 hw) (w9 hw) (w10 hw) at_218 rfl (by decide) (by decide) ?_
 intro T12 h12 b12 X12 g12 E12 A12 D12 G12
 have F12_shelf : Fld Z h12 b12 z1 "shelf" z2 .null := (D12 (Or.inr (w112 hw)) (ty := (.object z0)) (by decide))
 have F12_id : Fld Z h12 b12 z1 "id" z2 .null := (D12 (Or.inr (w114 hw)) (ty := (.object z0)) (by decide))
 refine o_dup K X12 at_221 rfl rfl ?_
 refine o_iload K X12 at_222 rfl rfl ?_
 refine o_iload K X12 at_224 rfl rfl ?_
 refine o_iload K X12 at_226 rfl rfl ?_
 refine o_static K X12  (w11 hw) (w12 hw) (w2 hw) (w13 hw) (by decide) (rm_str2 l Z a0 hw xa xb cs h12 q13.2 q14.2 q21 q22 q27 q28) (by decide) rfl (argsL := [.int 2, .int xa, .int xb]) rfl (lenOf pd19 rfl) (W := 2) rfl (by decide) (by decide) (by decide) at_228 rfl ?_
 intro v13 T13 h13 X13 U13
 obtain ⟨s_13, sv_13, ks_13, rfl, u13_0, u13_1, u13_2, u13_3, u13_4, u13_5, u13_6, u13_7, u13_8, u13_9⟩ := U13
 have G13_s : Z.heap.size ≤ s_13 := Nat.le_trans X12.ext0.1 u13_1
 have G13_sv : Z.heap.size ≤ sv_13 := Nat.le_trans X12.ext0.1 u13_8
 show oGoes pp ee bb ss Z T13 (mkF mm 231 _ [.ref s_13, .ref b12, .ref b12]) _ _ _
 refine o_iload K X13 at_231 rfl rfl ?_
 refine o_iload K X13 at_233 rfl rfl ?_
 refine o_iload K X13 at_235 rfl rfl ?_
 refine o_static K X13  (w11 hw) (w12 hw) (w2 hw) (w13 hw) (by decide) (rm_str1 l Z a0 hw ya yb cs h13 q15.2 q23 q24 q27 q28) (by decide) rfl (argsL := [.int 1, .int ya, .int yb]) rfl (lenOf pd19 rfl) (W := 3) rfl (by decide) (by decide) (by decide) at_237 rfl ?_
 intro v14 T14 h14 X14 U14
 obtain ⟨s_14, sv_14, ks_14, rfl, u14_0, u14_1, u14_2, u14_3, u14_4, u14_5, u14_6, u14_7, u14_8, u14_9⟩ := U14
 have G14_s : Z.heap.size ≤ s_14 := Nat.le_trans X13.ext0.1 u14_1
 have G14_sv : Z.heap.size ≤ sv_14 := Nat.le_trans X13.ext0.1 u14_8
 show oGoes pp ee bb ss Z T14 (mkF mm 240 _ [.ref s_14, .ref s_13, .ref b12, .ref b12]) _ _ _
 have m15 := ((A12.keep u13_0).keep u14_0)
 have m16 := ((F12_shelf.keep u13_0 nin0).keep u14_0 nin0)
 have m17 := ((F12_id.keep u13_0 nin0).keep u14_0 nin0)
 have m18 := (u13_2.keep u14_0)
 have m19 := (u13_3.keep u14_0 nin0)
 have m20 := (u13_4.keep u14_0 nin0)
 have m21 := (u13_5.keep u14_0 nin0)
 refine o_special K X14 (y := (⟨z1, "<init>", z8⟩ : MethodName)) rfl (w44 hw) (w45 hw) (w10 hw) (w46 hw) (by decide) (rm_rk21 l Z a0 hw b12 s_13 sv_13 ks_13 s_14 sv_14 ks_14 xa xb ya fm cs h14 m15 G12 m16 m17 m18 m19 m20 m21 u14_2 u14_3 u14_4 u14_5 q5 q6 q7 q13 q14 q15 q25 q26 q27 q28) (by decide) rfl (argsL := [.ref s_13, .ref s_14]) rfl (lenOf pd20 rfl) (W := 1) rfl (by decide) (by decide) (by decide) at_240 rfl ?_
 intro v22 T22 h22 X22 U22
 obtain ⟨rfl, u22_0, u22_1, u22_2, u22_3⟩ := U22
 show oGoes pp ee bb ss Z T22 (mkF mm 243 _ [.ref b12]) _ _ _
 refine o_astore K X22 at_243 rfl rfl (L' := #[vI i0, vI i1, vI i2, vI i3, vI i4, vI i5, vI 2, vI 1, vI ps, vI sa, vI sb, vI ia, vI ib, vI xa, vI xb, vI ya, vI yb, vI 0, vR b1, vR b12, uS, uS]) rfl ?_
 refine o_aload K X22 at_245 rfl rfl rfl ?_
 have m23 := ((((u11_1.ext E12).keep u13_0).keep u14_0).keep u22_0)
 have y1_4 := Nat.le_trans (Nat.le_trans u2_0.1 u3_0.1) u11_0.1
 have n24 := oLn A1.lt y1_4 (oLe g12)
 have m25 := ((((u11_2.ext E12).keep u13_0 nin0).keep u14_0 nin0).keep u22_0 (ninS n24 nin0))
 have m26 := ((((u11_3.ext E12).keep u13_0 nin0).keep u14_0 nin0).keep u22_0 (ninS n24 nin0))
 have m27 := (((((m7.keep u11_0).ext E12).keep u13_0).keep u14_0).keep u22_0)
 have n28 := oLsz A1.lt u2_1
 have n29 := oLn u2_2.lt (Nat.le_trans u3_0.1 u11_0.1) (oLe g12)
 have m30 := (((((m8.keep u11_0 (ninS n28 nin0)).ext E12).keep u13_0 nin0).keep u14_0 nin0).keep u22_0 (ninS n29 nin0))
 have m31 := (((((m9.keep u11_0 (ninS n28 nin0)).ext E12).keep u13_0 nin0).keep u14_0 nin0).keep u22_0 (ninS n29 nin0))
 have n32 := oLsz A1.lt u2_8
 have n33 := oLn u2_5.lt (Nat.le_trans u3_0.1 u11_0.1) (oLe g12)
 have m34 := (((((m10.keep u11_0 (ninS n32 nin0)).ext E12).keep u13_0 nin0).keep u14_0 nin0).keep u22_0 (ninS n33 nin0))
 have m35 := ((((((u2_6.keep u3_0 nin0).keep u11_0 (ninS n28 nin0)).ext E12).keep u13_0 nin0).keep u14_0 nin0).keep u22_0 (ninS n29 nin0))
 have m36 := ((((((u2_7.keep u3_0 nin0).keep u11_0 (ninS n28 nin0)).ext E12).keep u13_0 nin0).keep u14_0 nin0).keep u22_0 (ninS n29 nin0))
 have m37 := ((((((u2_9.keep u3_0).keep u11_0).ext E12).keep u13_0).keep u14_0).keep u22_0)
 have m38 := (((((u3_2.keep u11_0).ext E12).keep u13_0).keep u14_0).keep u22_0)
 have n39 := oLsn A1.lt u2_0.1 u3_1
 have n40 := oLn u3_2.lt u11_0.1 (oLe g12)
 have m41 := (((((u3_3.keep u11_0 (ninS n39 nin0)).ext E12).keep u13_0 nin0).keep u14_0 nin0).keep u22_0 (ninS n40 nin0))
 have m42 := (((((u3_4.keep u11_0 (ninS n39 nin0)).ext E12).keep u13_0 nin0).keep u14_0 nin0).keep u22_0 (ninS n40 nin0))
 have n43 := oLsn A1.lt u2_0.1 u3_8
 have n44 := oLn u3_5.lt u11_0.1 (oLe g12)
 have m45 := (((((u3_5.keep u11_0 (ninS n43 nin0)).ext E12).keep u13_0 nin0).keep u14_0 nin0).keep u22_0 (ninS n44 nin0))
 have m46 := (((((u3_6.keep u11_0 (ninS n39 nin0)).ext E12).keep u13_0 nin0).keep u14_0 nin0).keep u22_0 (ninS n40 nin0))
 have m47 := (((((u3_7.keep u11_0 (ninS n39 nin0)).ext E12).keep u13_0 nin0).keep u14_0 nin0).keep u22_0 (ninS n40 nin0))
 have m48 := (((((u3_9.keep u11_0).ext E12).keep u13_0).keep u14_0).keep u22_0)
 have n49 := oLsz u2_2.lt u3_1
 refine o_virtual K X22   (w115 hw) (w116 hw) (oNF (w118 hw)) (w118 hw) (w117 hw) (w10 hw) (w119 hw) (by decide) m23 (rm_rkh21 l Z a0 hw b1 s_2 sv_2 ks_2 s_3 sv_3 ks_3 sa sb ia cs h22 m23 m25 m26 m27 m30 m31 m34 m35 m36 m37 G2_s m38 m41 m42 m45 m46 m47 m48 G3_s (Ne.symm n28) n49 q9 q10 q11 q27 q28) (by decide) rfl (argsL := []) rfl (lenOf pd10 rfl) (W := 0) rfl (by decide) (by decide) (by decide) at_247 rfl ?_
 intro v50 T50 h50 X50 U50
 obtain ⟨rfl, u50_0⟩ := U50
 show oGoes pp ee bb ss Z T50 (mkF mm 250 _ [(.int (((31 : Int32) * (((31 : Int32) * sa) + sb)) + ia))]) _ _ _
 refine o_istore K X50 at_250 rfl (L' := #[vI i0, vI i1, vI i2, vI i3, vI i4, vI i5, vI 2, vI 1, vI ps, vI sa, vI sb, vI ia, vI ib, vI xa, vI xb, vI ya, vI yb, vI 0, vR b1, vR b12, vI (((31 : Int32) * (((31 : Int32) * sa) + sb)) + ia), uS]) rfl ?_
 refine o_aload K X50 at_252 rfl rfl rfl ?_
 have m51 := (u22_1.keep u50_0)
 have m52 := (u22_2.keep u50_0 (ninS (Ne.symm n29) (ninS (Ne.symm n40) nin0)))
 have m53 := (u22_3.keep u50_0 (ninS (Ne.symm n29) (ninS (Ne.symm n40) nin0)))
 have m54 := ((m18.keep u22_0).keep u50_0)
 have n55 := oLsz A12.lt u13_1
 have n56 := oLsn u3_2.lt (Nat.le_trans u11_0.1 E12.1) u13_1
 have y2_5 := Nat.le_trans (Nat.le_trans u3_0.1 u11_0.1) E12.1
 have n57 := oLsn u2_2.lt y2_5 u13_1
 have m58 := ((m19.keep u22_0 (ninS n55 nin0)).keep u50_0 (ninS n57 (ninS n56 nin0)))
 have m59 := ((m20.keep u22_0 (ninS n55 nin0)).keep u50_0 (ninS n57 (ninS n56 nin0)))
 have n60 := oLsz A12.lt u13_8
 have n61 := oLsn u3_2.lt (Nat.le_trans u11_0.1 E12.1) u13_8
 have n62 := oLsn u2_2.lt y2_5 u13_8
 have m63 := ((m21.keep u22_0 (ninS n60 nin0)).keep u50_0 (ninS n62 (ninS n61 nin0)))
 have m64 := (((u13_6.keep u14_0 nin0).keep u22_0 (ninS n55 nin0)).keep u50_0 (ninS n57 (ninS n56 nin0)))
 have m65 := (((u13_7.keep u14_0 nin0).keep u22_0 (ninS n55 nin0)).keep u50_0 (ninS n57 (ninS n56 nin0)))
 have m66 := (((u13_9.keep u14_0).keep u22_0).keep u50_0)
 have m67 := ((u14_2.keep u22_0).keep u50_0)
 have n68 := oLsn A12.lt u13_0.1 u14_1
 have y3_6 := Nat.le_trans (Nat.le_trans u11_0.1 E12.1) u13_0.1
 have n69 := oLsn u3_2.lt y3_6 u14_1
 have n70 := oLsn u2_2.lt (Nat.le_trans y2_5 u13_0.1) u14_1
 have m71 := ((u14_3.keep u22_0 (ninS n68 nin0)).keep u50_0 (ninS n70 (ninS n69 nin0)))
 have m72 := ((u14_4.keep u22_0 (ninS n68 nin0)).keep u50_0 (ninS n70 (ninS n69 nin0)))
 have n73 := oLsn A12.lt u13_0.1 u14_8
 have n74 := oLsn u3_2.lt y3_6 u14_8
 have n75 := oLsn u2_2.lt (Nat.le_trans y2_5 u13_0.1) u14_8
 have m76 := ((u14_5.keep u22_0 (ninS n73 nin0)).keep u50_0 (ninS n75 (ninS n74 nin0)))
 have m77 := ((u14_6.keep u22_0 (ninS n68 nin0)).keep u50_0 (ninS n70 (ninS n69 nin0)))
 have m78 := ((u14_7.keep u22_0 (ninS n68 nin0)).keep u50_0 (ninS n70 (ninS n69 nin0)))
 have m79 := ((u14_9.keep u22_0).keep u50_0)
 have n80 := oLsz u13_2.lt u14_1
 refine o_virtual K X50   (w115 hw) (w116 hw) (oNF (w118 hw)) (w118 hw) (w117 hw) (w10 hw) (w119 hw) (by decide) m51 (rm_rkh21 l Z a0 hw b12 s_13 sv_13 ks_13 s_14 sv_14 ks_14 xa xb ya cs h50 m51 m52 m53 m54 m58 m59 m63 m64 m65 m66 G13_s m67 m71 m72 m76 m77 m78 m79 G14_s (Ne.symm n55) n80 q13 q14 q15 q27 q28) (by decide) rfl (argsL := []) rfl (lenOf pd10 rfl) (W := 0) rfl (by decide) (by decide) (by decide) at_254 rfl ?_
 intro v81 T81 h81 X81 U81
 obtain ⟨rfl, u81_0⟩ := U81
 show oGoes pp ee bb ss Z T81 (mkF mm 257 _ [(.int (((31 : Int32) * (((31 : Int32) * xa) + xb)) + ya))]) _ _ _
 refine o_istore K X81 at_257 rfl (L' := #[vI i0, vI i1, vI i2, vI i3, vI i4, vI i5, vI 2, vI 1, vI ps, vI sa, vI sb, vI ia, vI ib, vI xa, vI xb, vI ya, vI yb, vI 0, vR b1, vR b12, vI (((31 : Int32) * (((31 : Int32) * sa) + sb)) + ia), vI (((31 : Int32) * (((31 : Int32) * xa) + xb)) + ya)]) rfl ?_
 refine o_iload K X81 at_259 rfl rfl ?_
 refine o_if_eq_t K X81 at_261 (by decide) (pc' := 279) (by decide) (by decide) ?_
 refine o_iload K X81 at_279 rfl rfl ?_
 refine o_iload K X81 at_281 rfl rfl ?_
 refine o_icmp_ne_f K X81 at_283 rfl q0 ?_
 refine o_iconst K X81 at_286 rfl (z := 1) rfl ?_
 refine o_goto K X81 at_287 (by decide) (pc' := 291) (by decide) ?_
 refine o_ireturnN K X81 .boolean at_291 rfl (by simp) (z' := 1) (by decide) ?_ (by decide) (by decide)
 exact hQ _ _ rfl
def Q_lw211 (Z : State) (i0 i1 i2 i3 i4 i5 ps sa sb ia ib xa xb ya yb : Int32) (fm : Value) (cs : Int32) (h0 : Heap) (v : Option Value) (h : Heap) : Prop := v = some (.int 1)
theorem tl_lw211 (l : Launch) (Z : State) (a0 : Array Value) (hw : oHw Z a0) (i0 i1 i2 i3 i4 i5 ps sa sb ia ib xa xb ya yb : Int32) (fm : Value) (cs : Int32) (h0 : Heap) (q0 : ¬ ((((31 : Int32) * (((31 : Int32) * sa) + sb)) + ia) = (((31 : Int32) * (((31 : Int32) * xa) + xb)) + ya))) (q1 : oSh sa) (q2 : oSh sb) (q3 : oId ia) (q4 : oId ib) (q5 : oSh xa) (q6 : oSh xb) (q7 : oId ya) (q8 : oId yb) (q9 : oCh sa) (q10 : oCh sb) (q11 : oCh ia) (q12 : oCh ib) (q13 : oCh xa) (q14 : oCh xb) (q15 : oCh ya) (q16 : oCh yb) (q17 : nar .char sa = sa) (q18 : nar .char sb = sb) (q19 : nar .char ia = ia) (q20 : nar .char ib = ib) (q21 : nar .char xa = xa) (q22 : nar .char xb = xb) (q23 : nar .char ya = ya) (q24 : nar .char yb = yb) (q25 : Sta Z Z.heap z4 z6 z7 fm) (q26 : fm.isRef = true) (q27 : Sta Z Z.heap z0 z3 "Z" (.int cs)) (q28 : ¬ (cs = (0 : Int32))) {Q : Option Value → Heap → Prop} (hQ : ∀ v h, Q_lw211 Z i0 i1 i2 i3 i4 i5 ps sa sb ia ib xa xb ya yb fm cs h0 v h → Q v h) {pp : Program} {ee : Env} {ss : State} {mm : MethodId} {bb : List Frame} {mtd : Method} {cc : Code} {A : Array Value} {T0 : State} (K : oCtx pp ss mm mtd cc Z z5 code maxLocals "law" ret x) (X0 : oSt pp l ee room_1 ss mm A bb mtd cc Z T0 h0 0 0) : oGoes pp ee bb ss Z T0 (mkF mm 191 #[vI i0, vI i1, vI i2, vI i3, vI i4, vI i5, vI 2, vI 1, vI ps, vI sa, vI sb, vI ia, vI ib, vI xa, vI xb, vI ya, vI yb, vI 1, uS, uS, uS, uS] []) Q room_1.cells room_1.slots := by
 have E0 := X0.ext0
 refine o_new K X0 (w8 hw) (w9 hw) (w10 hw) at_191 rfl (by decide) (by decide) ?_
 intro T1 h1 b1 X1 g1 E1 A1 D1 G1
 have F1_shelf : Fld Z h1 b1 z1 "shelf" z2 .null := (D1 (Or.inr (w112 hw)) (ty := (.object z0)) (by decide))
 have F1_id : Fld Z h1 b1 z1 "id" z2 .null := (D1 (Or.inr (w114 hw)) (ty := (.object z0)) (by decide))
 refine o_dup K X1 at_194 rfl rfl ?_
 refine o_iload K X1 at_195 rfl rfl ?_
 refine o_iload K X1 at_197 rfl rfl ?_
 refine o_iload K X1 at_199 rfl rfl ?_
 refine o_static K X1  (w11 hw) (w12 hw) (w2 hw) (w13 hw) (by decide) (rm_str2 l Z a0 hw sa sb cs h1 q9.2 q10.2 q17 q18 q27 q28) (by decide) rfl (argsL := [.int 2, .int sa, .int sb]) rfl (lenOf pd19 rfl) (W := 2) rfl (by decide) (by decide) (by decide) at_201 rfl ?_
 intro v2 T2 h2 X2 U2
 obtain ⟨s_2, sv_2, ks_2, rfl, u2_0, u2_1, u2_2, u2_3, u2_4, u2_5, u2_6, u2_7, u2_8, u2_9⟩ := U2
 have G2_s : Z.heap.size ≤ s_2 := Nat.le_trans X1.ext0.1 u2_1
 have G2_sv : Z.heap.size ≤ sv_2 := Nat.le_trans X1.ext0.1 u2_8
 show oGoes pp ee bb ss Z T2 (mkF mm 204 _ [.ref s_2, .ref b1, .ref b1]) _ _ _
 refine o_iload K X2 at_204 rfl rfl ?_
 refine o_iload K X2 at_206 rfl rfl ?_
 refine o_iload K X2 at_208 rfl rfl ?_
 refine o_static K X2  (w11 hw) (w12 hw) (w2 hw) (w13 hw) (by decide) (rm_str1 l Z a0 hw ia ib cs h2 q11.2 q19 q20 q27 q28) (by decide) rfl (argsL := [.int 1, .int ia, .int ib]) rfl (lenOf pd19 rfl) (W := 3) rfl (by decide) (by decide) (by decide) at_210 rfl ?_
 intro v3 T3 h3 X3 U3
 obtain ⟨s_3, sv_3, ks_3, rfl, u3_0, u3_1, u3_2, u3_3, u3_4, u3_5, u3_6, u3_7, u3_8, u3_9⟩ := U3
 have G3_s : Z.heap.size ≤ s_3 := Nat.le_trans X2.ext0.1 u3_1
 have G3_sv : Z.heap.size ≤ sv_3 := Nat.le_trans X2.ext0.1 u3_8
 show oGoes pp ee bb ss Z T3 (mkF mm 213 _ [.ref s_3, .ref s_2, .ref b1, .ref b1]) _ _ _
 have m4 := ((A1.keep u2_0).keep u3_0)
 have m5 := ((F1_shelf.keep u2_0 nin0).keep u3_0 nin0)
 have m6 := ((F1_id.keep u2_0 nin0).keep u3_0 nin0)
 have m7 := (u2_2.keep u3_0)
 have m8 := (u2_3.keep u3_0 nin0)
 have m9 := (u2_4.keep u3_0 nin0)
 have m10 := (u2_5.keep u3_0 nin0)
 refine o_special K X3 (y := (⟨z1, "<init>", z8⟩ : MethodName)) rfl (w44 hw) (w45 hw) (w10 hw) (w46 hw) (by decide) (rm_rk21 l Z a0 hw b1 s_2 sv_2 ks_2 s_3 sv_3 ks_3 sa sb ia fm cs h3 m4 G1 m5 m6 m7 m8 m9 m10 u3_2 u3_3 u3_4 u3_5 q1 q2 q3 q9 q10 q11 q25 q26 q27 q28) (by decide) rfl (argsL := [.ref s_2, .ref s_3]) rfl (lenOf pd20 rfl) (W := 1) rfl (by decide) (by decide) (by decide) at_213 rfl ?_
 intro v11 T11 h11 X11 U11
 obtain ⟨rfl, u11_0, u11_1, u11_2, u11_3⟩ := U11
 show oGoes pp ee bb ss Z T11 (mkF mm 216 _ [.ref b1]) _ _ _
 refine o_astore K X11 at_216 rfl rfl (L' := #[vI i0, vI i1, vI i2, vI i3, vI i4, vI i5, vI 2, vI 1, vI ps, vI sa, vI sb, vI ia, vI ib, vI xa, vI xb, vI ya, vI yb, vI 1, vR b1, uS, uS, uS]) rfl ?_
 refine o_new K X11 (w8 hw) (w9 hw) (w10 hw) at_218 rfl (by decide) (by decide) ?_
 intro T12 h12 b12 X12 g12 E12 A12 D12 G12
 have F12_shelf : Fld Z h12 b12 z1 "shelf" z2 .null := (D12 (Or.inr (w112 hw)) (ty := (.object z0)) (by decide))
 have F12_id : Fld Z h12 b12 z1 "id" z2 .null := (D12 (Or.inr (w114 hw)) (ty := (.object z0)) (by decide))
 refine o_dup K X12 at_221 rfl rfl ?_
 refine o_iload K X12 at_222 rfl rfl ?_
 refine o_iload K X12 at_224 rfl rfl ?_
 refine o_iload K X12 at_226 rfl rfl ?_
 refine o_static K X12  (w11 hw) (w12 hw) (w2 hw) (w13 hw) (by decide) (rm_str2 l Z a0 hw xa xb cs h12 q13.2 q14.2 q21 q22 q27 q28) (by decide) rfl (argsL := [.int 2, .int xa, .int xb]) rfl (lenOf pd19 rfl) (W := 2) rfl (by decide) (by decide) (by decide) at_228 rfl ?_
 intro v13 T13 h13 X13 U13
 obtain ⟨s_13, sv_13, ks_13, rfl, u13_0, u13_1, u13_2, u13_3, u13_4, u13_5, u13_6, u13_7, u13_8, u13_9⟩ := U13
 have G13_s : Z.heap.size ≤ s_13 := Nat.le_trans X12.ext0.1 u13_1
 have G13_sv : Z.heap.size ≤ sv_13 := Nat.le_trans X12.ext0.1 u13_8
 show oGoes pp ee bb ss Z T13 (mkF mm 231 _ [.ref s_13, .ref b12, .ref b12]) _ _ _
 refine o_iload K X13 at_231 rfl rfl ?_
 refine o_iload K X13 at_233 rfl rfl ?_
 refine o_iload K X13 at_235 rfl rfl ?_
 refine o_static K X13  (w11 hw) (w12 hw) (w2 hw) (w13 hw) (by decide) (rm_str1 l Z a0 hw ya yb cs h13 q15.2 q23 q24 q27 q28) (by decide) rfl (argsL := [.int 1, .int ya, .int yb]) rfl (lenOf pd19 rfl) (W := 3) rfl (by decide) (by decide) (by decide) at_237 rfl ?_
 intro v14 T14 h14 X14 U14
 obtain ⟨s_14, sv_14, ks_14, rfl, u14_0, u14_1, u14_2, u14_3, u14_4, u14_5, u14_6, u14_7, u14_8, u14_9⟩ := U14
 have G14_s : Z.heap.size ≤ s_14 := Nat.le_trans X13.ext0.1 u14_1
 have G14_sv : Z.heap.size ≤ sv_14 := Nat.le_trans X13.ext0.1 u14_8
 show oGoes pp ee bb ss Z T14 (mkF mm 240 _ [.ref s_14, .ref s_13, .ref b12, .ref b12]) _ _ _
 have m15 := ((A12.keep u13_0).keep u14_0)
 have m16 := ((F12_shelf.keep u13_0 nin0).keep u14_0 nin0)
 have m17 := ((F12_id.keep u13_0 nin0).keep u14_0 nin0)
 have m18 := (u13_2.keep u14_0)
 have m19 := (u13_3.keep u14_0 nin0)
 have m20 := (u13_4.keep u14_0 nin0)
 have m21 := (u13_5.keep u14_0 nin0)
 refine o_special K X14 (y := (⟨z1, "<init>", z8⟩ : MethodName)) rfl (w44 hw) (w45 hw) (w10 hw) (w46 hw) (by decide) (rm_rk21 l Z a0 hw b12 s_13 sv_13 ks_13 s_14 sv_14 ks_14 xa xb ya fm cs h14 m15 G12 m16 m17 m18 m19 m20 m21 u14_2 u14_3 u14_4 u14_5 q5 q6 q7 q13 q14 q15 q25 q26 q27 q28) (by decide) rfl (argsL := [.ref s_13, .ref s_14]) rfl (lenOf pd20 rfl) (W := 1) rfl (by decide) (by decide) (by decide) at_240 rfl ?_
 intro v22 T22 h22 X22 U22
 obtain ⟨rfl, u22_0, u22_1, u22_2, u22_3⟩ := U22
 show oGoes pp ee bb ss Z T22 (mkF mm 243 _ [.ref b12]) _ _ _
 refine o_astore K X22 at_243 rfl rfl (L' := #[vI i0, vI i1, vI i2, vI i3, vI i4, vI i5, vI 2, vI 1, vI ps, vI sa, vI sb, vI ia, vI ib, vI xa, vI xb, vI ya, vI yb, vI 1, vR b1, vR b12, uS, uS]) rfl ?_
 refine o_aload K X22 at_245 rfl rfl rfl ?_
 have m23 := ((((u11_1.ext E12).keep u13_0).keep u14_0).keep u22_0)
 have y1_4 := Nat.le_trans (Nat.le_trans u2_0.1 u3_0.1) u11_0.1
 have n24 := oLn A1.lt y1_4 (oLe g12)
 have m25 := ((((u11_2.ext E12).keep u13_0 nin0).keep u14_0 nin0).keep u22_0 (ninS n24 nin0))
 have m26 := ((((u11_3.ext E12).keep u13_0 nin0).keep u14_0 nin0).keep u22_0 (ninS n24 nin0))
 have m27 := (((((m7.keep u11_0).ext E12).keep u13_0).keep u14_0).keep u22_0)
 have n28 := oLsz A1.lt u2_1
 have n29 := oLn u2_2.lt (Nat.le_trans u3_0.1 u11_0.1) (oLe g12)
 have m30 := (((((m8.keep u11_0 (ninS n28 nin0)).ext E12).keep u13_0 nin0).keep u14_0 nin0).keep u22_0 (ninS n29 nin0))
 have m31 := (((((m9.keep u11_0 (ninS n28 nin0)).ext E12).keep u13_0 nin0).keep u14_0 nin0).keep u22_0 (ninS n29 nin0))
 have n32 := oLsz A1.lt u2_8
 have n33 := oLn u2_5.lt (Nat.le_trans u3_0.1 u11_0.1) (oLe g12)
 have m34 := (((((m10.keep u11_0 (ninS n32 nin0)).ext E12).keep u13_0 nin0).keep u14_0 nin0).keep u22_0 (ninS n33 nin0))
 have m35 := ((((((u2_6.keep u3_0 nin0).keep u11_0 (ninS n28 nin0)).ext E12).keep u13_0 nin0).keep u14_0 nin0).keep u22_0 (ninS n29 nin0))
 have m36 := ((((((u2_7.keep u3_0 nin0).keep u11_0 (ninS n28 nin0)).ext E12).keep u13_0 nin0).keep u14_0 nin0).keep u22_0 (ninS n29 nin0))
 have m37 := ((((((u2_9.keep u3_0).keep u11_0).ext E12).keep u13_0).keep u14_0).keep u22_0)
 have m38 := (((((u3_2.keep u11_0).ext E12).keep u13_0).keep u14_0).keep u22_0)
 have n39 := oLsn A1.lt u2_0.1 u3_1
 have n40 := oLn u3_2.lt u11_0.1 (oLe g12)
 have m41 := (((((u3_3.keep u11_0 (ninS n39 nin0)).ext E12).keep u13_0 nin0).keep u14_0 nin0).keep u22_0 (ninS n40 nin0))
 have m42 := (((((u3_4.keep u11_0 (ninS n39 nin0)).ext E12).keep u13_0 nin0).keep u14_0 nin0).keep u22_0 (ninS n40 nin0))
 have n43 := oLsn A1.lt u2_0.1 u3_8
 have n44 := oLn u3_5.lt u11_0.1 (oLe g12)
 have m45 := (((((u3_5.keep u11_0 (ninS n43 nin0)).ext E12).keep u13_0 nin0).keep u14_0 nin0).keep u22_0 (ninS n44 nin0))
 have m46 := (((((u3_6.keep u11_0 (ninS n39 nin0)).ext E12).keep u13_0 nin0).keep u14_0 nin0).keep u22_0 (ninS n40 nin0))
 have m47 := (((((u3_7.keep u11_0 (ninS n39 nin0)).ext E12).keep u13_0 nin0).keep u14_0 nin0).keep u22_0 (ninS n40 nin0))
 have m48 := (((((u3_9.keep u11_0).ext E12).keep u13_0).keep u14_0).keep u22_0)
 have n49 := oLsz u2_2.lt u3_1
 refine o_virtual K X22   (w115 hw) (w116 hw) (oNF (w118 hw)) (w118 hw) (w117 hw) (w10 hw) (w119 hw) (by decide) m23 (rm_rkh21 l Z a0 hw b1 s_2 sv_2 ks_2 s_3 sv_3 ks_3 sa sb ia cs h22 m23 m25 m26 m27 m30 m31 m34 m35 m36 m37 G2_s m38 m41 m42 m45 m46 m47 m48 G3_s (Ne.symm n28) n49 q9 q10 q11 q27 q28) (by decide) rfl (argsL := []) rfl (lenOf pd10 rfl) (W := 0) rfl (by decide) (by decide) (by decide) at_247 rfl ?_
 intro v50 T50 h50 X50 U50
 obtain ⟨rfl, u50_0⟩ := U50
 show oGoes pp ee bb ss Z T50 (mkF mm 250 _ [(.int (((31 : Int32) * (((31 : Int32) * sa) + sb)) + ia))]) _ _ _
 refine o_istore K X50 at_250 rfl (L' := #[vI i0, vI i1, vI i2, vI i3, vI i4, vI i5, vI 2, vI 1, vI ps, vI sa, vI sb, vI ia, vI ib, vI xa, vI xb, vI ya, vI yb, vI 1, vR b1, vR b12, vI (((31 : Int32) * (((31 : Int32) * sa) + sb)) + ia), uS]) rfl ?_
 refine o_aload K X50 at_252 rfl rfl rfl ?_
 have m51 := (u22_1.keep u50_0)
 have m52 := (u22_2.keep u50_0 (ninS (Ne.symm n29) (ninS (Ne.symm n40) nin0)))
 have m53 := (u22_3.keep u50_0 (ninS (Ne.symm n29) (ninS (Ne.symm n40) nin0)))
 have m54 := ((m18.keep u22_0).keep u50_0)
 have n55 := oLsz A12.lt u13_1
 have n56 := oLsn u3_2.lt (Nat.le_trans u11_0.1 E12.1) u13_1
 have y2_5 := Nat.le_trans (Nat.le_trans u3_0.1 u11_0.1) E12.1
 have n57 := oLsn u2_2.lt y2_5 u13_1
 have m58 := ((m19.keep u22_0 (ninS n55 nin0)).keep u50_0 (ninS n57 (ninS n56 nin0)))
 have m59 := ((m20.keep u22_0 (ninS n55 nin0)).keep u50_0 (ninS n57 (ninS n56 nin0)))
 have n60 := oLsz A12.lt u13_8
 have n61 := oLsn u3_2.lt (Nat.le_trans u11_0.1 E12.1) u13_8
 have n62 := oLsn u2_2.lt y2_5 u13_8
 have m63 := ((m21.keep u22_0 (ninS n60 nin0)).keep u50_0 (ninS n62 (ninS n61 nin0)))
 have m64 := (((u13_6.keep u14_0 nin0).keep u22_0 (ninS n55 nin0)).keep u50_0 (ninS n57 (ninS n56 nin0)))
 have m65 := (((u13_7.keep u14_0 nin0).keep u22_0 (ninS n55 nin0)).keep u50_0 (ninS n57 (ninS n56 nin0)))
 have m66 := (((u13_9.keep u14_0).keep u22_0).keep u50_0)
 have m67 := ((u14_2.keep u22_0).keep u50_0)
 have n68 := oLsn A12.lt u13_0.1 u14_1
 have y3_6 := Nat.le_trans (Nat.le_trans u11_0.1 E12.1) u13_0.1
 have n69 := oLsn u3_2.lt y3_6 u14_1
 have n70 := oLsn u2_2.lt (Nat.le_trans y2_5 u13_0.1) u14_1
 have m71 := ((u14_3.keep u22_0 (ninS n68 nin0)).keep u50_0 (ninS n70 (ninS n69 nin0)))
 have m72 := ((u14_4.keep u22_0 (ninS n68 nin0)).keep u50_0 (ninS n70 (ninS n69 nin0)))
 have n73 := oLsn A12.lt u13_0.1 u14_8
 have n74 := oLsn u3_2.lt y3_6 u14_8
 have n75 := oLsn u2_2.lt (Nat.le_trans y2_5 u13_0.1) u14_8
 have m76 := ((u14_5.keep u22_0 (ninS n73 nin0)).keep u50_0 (ninS n75 (ninS n74 nin0)))
 have m77 := ((u14_6.keep u22_0 (ninS n68 nin0)).keep u50_0 (ninS n70 (ninS n69 nin0)))
 have m78 := ((u14_7.keep u22_0 (ninS n68 nin0)).keep u50_0 (ninS n70 (ninS n69 nin0)))
 have m79 := ((u14_9.keep u22_0).keep u50_0)
 have n80 := oLsz u13_2.lt u14_1
 refine o_virtual K X50   (w115 hw) (w116 hw) (oNF (w118 hw)) (w118 hw) (w117 hw) (w10 hw) (w119 hw) (by decide) m51 (rm_rkh21 l Z a0 hw b12 s_13 sv_13 ks_13 s_14 sv_14 ks_14 xa xb ya cs h50 m51 m52 m53 m54 m58 m59 m63 m64 m65 m66 G13_s m67 m71 m72 m76 m77 m78 m79 G14_s (Ne.symm n55) n80 q13 q14 q15 q27 q28) (by decide) rfl (argsL := []) rfl (lenOf pd10 rfl) (W := 0) rfl (by decide) (by decide) (by decide) at_254 rfl ?_
 intro v81 T81 h81 X81 U81
 obtain ⟨rfl, u81_0⟩ := U81
 show oGoes pp ee bb ss Z T81 (mkF mm 257 _ [(.int (((31 : Int32) * (((31 : Int32) * xa) + xb)) + ya))]) _ _ _
 refine o_istore K X81 at_257 rfl (L' := #[vI i0, vI i1, vI i2, vI i3, vI i4, vI i5, vI 2, vI 1, vI ps, vI sa, vI sb, vI ia, vI ib, vI xa, vI xb, vI ya, vI yb, vI 1, vR b1, vR b12, vI (((31 : Int32) * (((31 : Int32) * sa) + sb)) + ia), vI (((31 : Int32) * (((31 : Int32) * xa) + xb)) + ya)]) rfl ?_
 refine o_iload K X81 at_259 rfl rfl ?_
 refine o_if_eq_f K X81 at_261 rfl (by decide) ?_
 refine o_iload K X81 at_264 rfl rfl ?_
 refine o_iload K X81 at_266 rfl rfl ?_
 refine o_icmp_eq_f K X81 at_268 rfl q0 ?_
 refine o_iconst K X81 at_271 rfl (z := 1) rfl ?_
 refine o_goto K X81 at_272 (by decide) (pc' := 291) (by decide) ?_
 refine o_ireturnN K X81 .boolean at_291 rfl (by simp) (z' := 1) (by decide) ?_ (by decide) (by decide)
 exact hQ _ _ rfl
def Q_lw220 (Z : State) (i0 i1 i2 i3 i4 i5 ps sa sb ia ib xa xb ya yb : Int32) (fm : Value) (cs : Int32) (h0 : Heap) (v : Option Value) (h : Heap) : Prop := v = some (.int 1)
theorem tl_lw220 (l : Launch) (Z : State) (a0 : Array Value) (hw : oHw Z a0) (i0 i1 i2 i3 i4 i5 ps sa sb ia ib xa xb ya yb : Int32) (fm : Value) (cs : Int32) (h0 : Heap) (q0 : (((31 : Int32) * (((31 : Int32) * sa) + sb)) + (((31 : Int32) * ia) + ib)) = (((31 : Int32) * (((31 : Int32) * xa) + xb)) + (((31 : Int32) * ya) + yb))) (q1 : oSh sa) (q2 : oSh sb) (q3 : oId ia) (q4 : oId ib) (q5 : oSh xa) (q6 : oSh xb) (q7 : oId ya) (q8 : oId yb) (q9 : oCh sa) (q10 : oCh sb) (q11 : oCh ia) (q12 : oCh ib) (q13 : oCh xa) (q14 : oCh xb) (q15 : oCh ya) (q16 : oCh yb) (q17 : nar .char sa = sa) (q18 : nar .char sb = sb) (q19 : nar .char ia = ia) (q20 : nar .char ib = ib) (q21 : nar .char xa = xa) (q22 : nar .char xb = xb) (q23 : nar .char ya = ya) (q24 : nar .char yb = yb) (q25 : Sta Z Z.heap z4 z6 z7 fm) (q26 : fm.isRef = true) (q27 : Sta Z Z.heap z0 z3 "Z" (.int cs)) (q28 : ¬ (cs = (0 : Int32))) {Q : Option Value → Heap → Prop} (hQ : ∀ v h, Q_lw220 Z i0 i1 i2 i3 i4 i5 ps sa sb ia ib xa xb ya yb fm cs h0 v h → Q v h) {pp : Program} {ee : Env} {ss : State} {mm : MethodId} {bb : List Frame} {mtd : Method} {cc : Code} {A : Array Value} {T0 : State} (K : oCtx pp ss mm mtd cc Z z5 code maxLocals "law" ret x) (X0 : oSt pp l ee room_1 ss mm A bb mtd cc Z T0 h0 0 0) : oGoes pp ee bb ss Z T0 (mkF mm 191 #[vI i0, vI i1, vI i2, vI i3, vI i4, vI i5, vI 2, vI 2, vI ps, vI sa, vI sb, vI ia, vI ib, vI xa, vI xb, vI ya, vI yb, vI 0, uS, uS, uS, uS] []) Q room_1.cells room_1.slots := by
 have E0 := X0.ext0
 refine o_new K X0 (w8 hw) (w9 hw) (w10 hw) at_191 rfl (by decide) (by decide) ?_
 intro T1 h1 b1 X1 g1 E1 A1 D1 G1
 have F1_shelf : Fld Z h1 b1 z1 "shelf" z2 .null := (D1 (Or.inr (w112 hw)) (ty := (.object z0)) (by decide))
 have F1_id : Fld Z h1 b1 z1 "id" z2 .null := (D1 (Or.inr (w114 hw)) (ty := (.object z0)) (by decide))
 refine o_dup K X1 at_194 rfl rfl ?_
 refine o_iload K X1 at_195 rfl rfl ?_
 refine o_iload K X1 at_197 rfl rfl ?_
 refine o_iload K X1 at_199 rfl rfl ?_
 refine o_static K X1  (w11 hw) (w12 hw) (w2 hw) (w13 hw) (by decide) (rm_str2 l Z a0 hw sa sb cs h1 q9.2 q10.2 q17 q18 q27 q28) (by decide) rfl (argsL := [.int 2, .int sa, .int sb]) rfl (lenOf pd19 rfl) (W := 2) rfl (by decide) (by decide) (by decide) at_201 rfl ?_
 intro v2 T2 h2 X2 U2
 obtain ⟨s_2, sv_2, ks_2, rfl, u2_0, u2_1, u2_2, u2_3, u2_4, u2_5, u2_6, u2_7, u2_8, u2_9⟩ := U2
 have G2_s : Z.heap.size ≤ s_2 := Nat.le_trans X1.ext0.1 u2_1
 have G2_sv : Z.heap.size ≤ sv_2 := Nat.le_trans X1.ext0.1 u2_8
 show oGoes pp ee bb ss Z T2 (mkF mm 204 _ [.ref s_2, .ref b1, .ref b1]) _ _ _
 refine o_iload K X2 at_204 rfl rfl ?_
 refine o_iload K X2 at_206 rfl rfl ?_
 refine o_iload K X2 at_208 rfl rfl ?_
 refine o_static K X2  (w11 hw) (w12 hw) (w2 hw) (w13 hw) (by decide) (rm_str2 l Z a0 hw ia ib cs h2 q11.2 q12.2 q19 q20 q27 q28) (by decide) rfl (argsL := [.int 2, .int ia, .int ib]) rfl (lenOf pd19 rfl) (W := 3) rfl (by decide) (by decide) (by decide) at_210 rfl ?_
 intro v3 T3 h3 X3 U3
 obtain ⟨s_3, sv_3, ks_3, rfl, u3_0, u3_1, u3_2, u3_3, u3_4, u3_5, u3_6, u3_7, u3_8, u3_9⟩ := U3
 have G3_s : Z.heap.size ≤ s_3 := Nat.le_trans X2.ext0.1 u3_1
 have G3_sv : Z.heap.size ≤ sv_3 := Nat.le_trans X2.ext0.1 u3_8
 show oGoes pp ee bb ss Z T3 (mkF mm 213 _ [.ref s_3, .ref s_2, .ref b1, .ref b1]) _ _ _
 have m4 := ((A1.keep u2_0).keep u3_0)
 have m5 := ((F1_shelf.keep u2_0 nin0).keep u3_0 nin0)
 have m6 := ((F1_id.keep u2_0 nin0).keep u3_0 nin0)
 have m7 := (u2_2.keep u3_0)
 have m8 := (u2_3.keep u3_0 nin0)
 have m9 := (u2_4.keep u3_0 nin0)
 have m10 := (u2_5.keep u3_0 nin0)
 refine o_special K X3 (y := (⟨z1, "<init>", z8⟩ : MethodName)) rfl (w44 hw) (w45 hw) (w10 hw) (w46 hw) (by decide) (rm_rk22 l Z a0 hw b1 s_2 sv_2 ks_2 s_3 sv_3 ks_3 sa sb ia ib fm cs h3 m4 G1 m5 m6 m7 m8 m9 m10 u3_2 u3_3 u3_4 u3_5 q1 q2 q3 q4 q9 q10 q11 q12 q25 q26 q27 q28) (by decide) rfl (argsL := [.ref s_2, .ref s_3]) rfl (lenOf pd20 rfl) (W := 1) rfl (by decide) (by decide) (by decide) at_213 rfl ?_
 intro v11 T11 h11 X11 U11
 obtain ⟨rfl, u11_0, u11_1, u11_2, u11_3⟩ := U11
 show oGoes pp ee bb ss Z T11 (mkF mm 216 _ [.ref b1]) _ _ _
 refine o_astore K X11 at_216 rfl rfl (L' := #[vI i0, vI i1, vI i2, vI i3, vI i4, vI i5, vI 2, vI 2, vI ps, vI sa, vI sb, vI ia, vI ib, vI xa, vI xb, vI ya, vI yb, vI 0, vR b1, uS, uS, uS]) rfl ?_
 refine o_new K X11 (w8 hw) (w9 hw) (w10 hw) at_218 rfl (by decide) (by decide) ?_
 intro T12 h12 b12 X12 g12 E12 A12 D12 G12
 have F12_shelf : Fld Z h12 b12 z1 "shelf" z2 .null := (D12 (Or.inr (w112 hw)) (ty := (.object z0)) (by decide))
 have F12_id : Fld Z h12 b12 z1 "id" z2 .null := (D12 (Or.inr (w114 hw)) (ty := (.object z0)) (by decide))
 refine o_dup K X12 at_221 rfl rfl ?_
 refine o_iload K X12 at_222 rfl rfl ?_
 refine o_iload K X12 at_224 rfl rfl ?_
 refine o_iload K X12 at_226 rfl rfl ?_
 refine o_static K X12  (w11 hw) (w12 hw) (w2 hw) (w13 hw) (by decide) (rm_str2 l Z a0 hw xa xb cs h12 q13.2 q14.2 q21 q22 q27 q28) (by decide) rfl (argsL := [.int 2, .int xa, .int xb]) rfl (lenOf pd19 rfl) (W := 2) rfl (by decide) (by decide) (by decide) at_228 rfl ?_
 intro v13 T13 h13 X13 U13
 obtain ⟨s_13, sv_13, ks_13, rfl, u13_0, u13_1, u13_2, u13_3, u13_4, u13_5, u13_6, u13_7, u13_8, u13_9⟩ := U13
 have G13_s : Z.heap.size ≤ s_13 := Nat.le_trans X12.ext0.1 u13_1
 have G13_sv : Z.heap.size ≤ sv_13 := Nat.le_trans X12.ext0.1 u13_8
 show oGoes pp ee bb ss Z T13 (mkF mm 231 _ [.ref s_13, .ref b12, .ref b12]) _ _ _
 refine o_iload K X13 at_231 rfl rfl ?_
 refine o_iload K X13 at_233 rfl rfl ?_
 refine o_iload K X13 at_235 rfl rfl ?_
 refine o_static K X13  (w11 hw) (w12 hw) (w2 hw) (w13 hw) (by decide) (rm_str2 l Z a0 hw ya yb cs h13 q15.2 q16.2 q23 q24 q27 q28) (by decide) rfl (argsL := [.int 2, .int ya, .int yb]) rfl (lenOf pd19 rfl) (W := 3) rfl (by decide) (by decide) (by decide) at_237 rfl ?_
 intro v14 T14 h14 X14 U14
 obtain ⟨s_14, sv_14, ks_14, rfl, u14_0, u14_1, u14_2, u14_3, u14_4, u14_5, u14_6, u14_7, u14_8, u14_9⟩ := U14
 have G14_s : Z.heap.size ≤ s_14 := Nat.le_trans X13.ext0.1 u14_1
 have G14_sv : Z.heap.size ≤ sv_14 := Nat.le_trans X13.ext0.1 u14_8
 show oGoes pp ee bb ss Z T14 (mkF mm 240 _ [.ref s_14, .ref s_13, .ref b12, .ref b12]) _ _ _
 have m15 := ((A12.keep u13_0).keep u14_0)
 have m16 := ((F12_shelf.keep u13_0 nin0).keep u14_0 nin0)
 have m17 := ((F12_id.keep u13_0 nin0).keep u14_0 nin0)
 have m18 := (u13_2.keep u14_0)
 have m19 := (u13_3.keep u14_0 nin0)
 have m20 := (u13_4.keep u14_0 nin0)
 have m21 := (u13_5.keep u14_0 nin0)
 refine o_special K X14 (y := (⟨z1, "<init>", z8⟩ : MethodName)) rfl (w44 hw) (w45 hw) (w10 hw) (w46 hw) (by decide) (rm_rk22 l Z a0 hw b12 s_13 sv_13 ks_13 s_14 sv_14 ks_14 xa xb ya yb fm cs h14 m15 G12 m16 m17 m18 m19 m20 m21 u14_2 u14_3 u14_4 u14_5 q5 q6 q7 q8 q13 q14 q15 q16 q25 q26 q27 q28) (by decide) rfl (argsL := [.ref s_13, .ref s_14]) rfl (lenOf pd20 rfl) (W := 1) rfl (by decide) (by decide) (by decide) at_240 rfl ?_
 intro v22 T22 h22 X22 U22
 obtain ⟨rfl, u22_0, u22_1, u22_2, u22_3⟩ := U22
 show oGoes pp ee bb ss Z T22 (mkF mm 243 _ [.ref b12]) _ _ _
 refine o_astore K X22 at_243 rfl rfl (L' := #[vI i0, vI i1, vI i2, vI i3, vI i4, vI i5, vI 2, vI 2, vI ps, vI sa, vI sb, vI ia, vI ib, vI xa, vI xb, vI ya, vI yb, vI 0, vR b1, vR b12, uS, uS]) rfl ?_
 refine o_aload K X22 at_245 rfl rfl rfl ?_
 have m23 := ((((u11_1.ext E12).keep u13_0).keep u14_0).keep u22_0)
 have y1_4 := Nat.le_trans (Nat.le_trans u2_0.1 u3_0.1) u11_0.1
 have n24 := oLn A1.lt y1_4 (oLe g12)
 have m25 := ((((u11_2.ext E12).keep u13_0 nin0).keep u14_0 nin0).keep u22_0 (ninS n24 nin0))
 have m26 := ((((u11_3.ext E12).keep u13_0 nin0).keep u14_0 nin0).keep u22_0 (ninS n24 nin0))
 have m27 := (((((m7.keep u11_0).ext E12).keep u13_0).keep u14_0).keep u22_0)
 have n28 := oLsz A1.lt u2_1
 have n29 := oLn u2_2.lt (Nat.le_trans u3_0.1 u11_0.1) (oLe g12)
 have m30 := (((((m8.keep u11_0 (ninS n28 nin0)).ext E12).keep u13_0 nin0).keep u14_0 nin0).keep u22_0 (ninS n29 nin0))
 have m31 := (((((m9.keep u11_0 (ninS n28 nin0)).ext E12).keep u13_0 nin0).keep u14_0 nin0).keep u22_0 (ninS n29 nin0))
 have n32 := oLsz A1.lt u2_8
 have n33 := oLn u2_5.lt (Nat.le_trans u3_0.1 u11_0.1) (oLe g12)
 have m34 := (((((m10.keep u11_0 (ninS n32 nin0)).ext E12).keep u13_0 nin0).keep u14_0 nin0).keep u22_0 (ninS n33 nin0))
 have m35 := ((((((u2_6.keep u3_0 nin0).keep u11_0 (ninS n28 nin0)).ext E12).keep u13_0 nin0).keep u14_0 nin0).keep u22_0 (ninS n29 nin0))
 have m36 := ((((((u2_7.keep u3_0 nin0).keep u11_0 (ninS n28 nin0)).ext E12).keep u13_0 nin0).keep u14_0 nin0).keep u22_0 (ninS n29 nin0))
 have m37 := ((((((u2_9.keep u3_0).keep u11_0).ext E12).keep u13_0).keep u14_0).keep u22_0)
 have m38 := (((((u3_2.keep u11_0).ext E12).keep u13_0).keep u14_0).keep u22_0)
 have n39 := oLsn A1.lt u2_0.1 u3_1
 have n40 := oLn u3_2.lt u11_0.1 (oLe g12)
 have m41 := (((((u3_3.keep u11_0 (ninS n39 nin0)).ext E12).keep u13_0 nin0).keep u14_0 nin0).keep u22_0 (ninS n40 nin0))
 have m42 := (((((u3_4.keep u11_0 (ninS n39 nin0)).ext E12).keep u13_0 nin0).keep u14_0 nin0).keep u22_0 (ninS n40 nin0))
 have n43 := oLsn A1.lt u2_0.1 u3_8
 have n44 := oLn u3_5.lt u11_0.1 (oLe g12)
 have m45 := (((((u3_5.keep u11_0 (ninS n43 nin0)).ext E12).keep u13_0 nin0).keep u14_0 nin0).keep u22_0 (ninS n44 nin0))
 have m46 := (((((u3_6.keep u11_0 (ninS n39 nin0)).ext E12).keep u13_0 nin0).keep u14_0 nin0).keep u22_0 (ninS n40 nin0))
 have m47 := (((((u3_7.keep u11_0 (ninS n39 nin0)).ext E12).keep u13_0 nin0).keep u14_0 nin0).keep u22_0 (ninS n40 nin0))
 have m48 := (((((u3_9.keep u11_0).ext E12).keep u13_0).keep u14_0).keep u22_0)
 have n49 := oLsz u2_2.lt u3_1
 refine o_virtual K X22   (w115 hw) (w116 hw) (oNF (w118 hw)) (w118 hw) (w117 hw) (w10 hw) (w119 hw) (by decide) m23 (rm_rkh22 l Z a0 hw b1 s_2 sv_2 ks_2 s_3 sv_3 ks_3 sa sb ia ib cs h22 m23 m25 m26 m27 m30 m31 m34 m35 m36 m37 G2_s m38 m41 m42 m45 m46 m47 m48 G3_s (Ne.symm n28) n49 q9 q10 q11 q12 q27 q28) (by decide) rfl (argsL := []) rfl (lenOf pd10 rfl) (W := 0) rfl (by decide) (by decide) (by decide) at_247 rfl ?_
 intro v50 T50 h50 X50 U50
 obtain ⟨rfl, u50_0⟩ := U50
 show oGoes pp ee bb ss Z T50 (mkF mm 250 _ [(.int (((31 : Int32) * (((31 : Int32) * sa) + sb)) + (((31 : Int32) * ia) + ib)))]) _ _ _
 refine o_istore K X50 at_250 rfl (L' := #[vI i0, vI i1, vI i2, vI i3, vI i4, vI i5, vI 2, vI 2, vI ps, vI sa, vI sb, vI ia, vI ib, vI xa, vI xb, vI ya, vI yb, vI 0, vR b1, vR b12, vI (((31 : Int32) * (((31 : Int32) * sa) + sb)) + (((31 : Int32) * ia) + ib)), uS]) rfl ?_
 refine o_aload K X50 at_252 rfl rfl rfl ?_
 have m51 := (u22_1.keep u50_0)
 have m52 := (u22_2.keep u50_0 (ninS (Ne.symm n29) (ninS (Ne.symm n40) nin0)))
 have m53 := (u22_3.keep u50_0 (ninS (Ne.symm n29) (ninS (Ne.symm n40) nin0)))
 have m54 := ((m18.keep u22_0).keep u50_0)
 have n55 := oLsz A12.lt u13_1
 have n56 := oLsn u3_2.lt (Nat.le_trans u11_0.1 E12.1) u13_1
 have y2_5 := Nat.le_trans (Nat.le_trans u3_0.1 u11_0.1) E12.1
 have n57 := oLsn u2_2.lt y2_5 u13_1
 have m58 := ((m19.keep u22_0 (ninS n55 nin0)).keep u50_0 (ninS n57 (ninS n56 nin0)))
 have m59 := ((m20.keep u22_0 (ninS n55 nin0)).keep u50_0 (ninS n57 (ninS n56 nin0)))
 have n60 := oLsz A12.lt u13_8
 have n61 := oLsn u3_2.lt (Nat.le_trans u11_0.1 E12.1) u13_8
 have n62 := oLsn u2_2.lt y2_5 u13_8
 have m63 := ((m21.keep u22_0 (ninS n60 nin0)).keep u50_0 (ninS n62 (ninS n61 nin0)))
 have m64 := (((u13_6.keep u14_0 nin0).keep u22_0 (ninS n55 nin0)).keep u50_0 (ninS n57 (ninS n56 nin0)))
 have m65 := (((u13_7.keep u14_0 nin0).keep u22_0 (ninS n55 nin0)).keep u50_0 (ninS n57 (ninS n56 nin0)))
 have m66 := (((u13_9.keep u14_0).keep u22_0).keep u50_0)
 have m67 := ((u14_2.keep u22_0).keep u50_0)
 have n68 := oLsn A12.lt u13_0.1 u14_1
 have y3_6 := Nat.le_trans (Nat.le_trans u11_0.1 E12.1) u13_0.1
 have n69 := oLsn u3_2.lt y3_6 u14_1
 have n70 := oLsn u2_2.lt (Nat.le_trans y2_5 u13_0.1) u14_1
 have m71 := ((u14_3.keep u22_0 (ninS n68 nin0)).keep u50_0 (ninS n70 (ninS n69 nin0)))
 have m72 := ((u14_4.keep u22_0 (ninS n68 nin0)).keep u50_0 (ninS n70 (ninS n69 nin0)))
 have n73 := oLsn A12.lt u13_0.1 u14_8
 have n74 := oLsn u3_2.lt y3_6 u14_8
 have n75 := oLsn u2_2.lt (Nat.le_trans y2_5 u13_0.1) u14_8
 have m76 := ((u14_5.keep u22_0 (ninS n73 nin0)).keep u50_0 (ninS n75 (ninS n74 nin0)))
 have m77 := ((u14_6.keep u22_0 (ninS n68 nin0)).keep u50_0 (ninS n70 (ninS n69 nin0)))
 have m78 := ((u14_7.keep u22_0 (ninS n68 nin0)).keep u50_0 (ninS n70 (ninS n69 nin0)))
 have m79 := ((u14_9.keep u22_0).keep u50_0)
 have n80 := oLsz u13_2.lt u14_1
 refine o_virtual K X50   (w115 hw) (w116 hw) (oNF (w118 hw)) (w118 hw) (w117 hw) (w10 hw) (w119 hw) (by decide) m51 (rm_rkh22 l Z a0 hw b12 s_13 sv_13 ks_13 s_14 sv_14 ks_14 xa xb ya yb cs h50 m51 m52 m53 m54 m58 m59 m63 m64 m65 m66 G13_s m67 m71 m72 m76 m77 m78 m79 G14_s (Ne.symm n55) n80 q13 q14 q15 q16 q27 q28) (by decide) rfl (argsL := []) rfl (lenOf pd10 rfl) (W := 0) rfl (by decide) (by decide) (by decide) at_254 rfl ?_
 intro v81 T81 h81 X81 U81
 obtain ⟨rfl, u81_0⟩ := U81
 show oGoes pp ee bb ss Z T81 (mkF mm 257 _ [(.int (((31 : Int32) * (((31 : Int32) * xa) + xb)) + (((31 : Int32) * ya) + yb)))]) _ _ _
 refine o_istore K X81 at_257 rfl (L' := #[vI i0, vI i1, vI i2, vI i3, vI i4, vI i5, vI 2, vI 2, vI ps, vI sa, vI sb, vI ia, vI ib, vI xa, vI xb, vI ya, vI yb, vI 0, vR b1, vR b12, vI (((31 : Int32) * (((31 : Int32) * sa) + sb)) + (((31 : Int32) * ia) + ib)), vI (((31 : Int32) * (((31 : Int32) * xa) + xb)) + (((31 : Int32) * ya) + yb))]) rfl ?_
 refine o_iload K X81 at_259 rfl rfl ?_
 refine o_if_eq_t K X81 at_261 (by decide) (pc' := 279) (by decide) (by decide) ?_
 refine o_iload K X81 at_279 rfl rfl ?_
 refine o_iload K X81 at_281 rfl rfl ?_
 refine o_icmp_ne_f K X81 at_283 rfl q0 ?_
 refine o_iconst K X81 at_286 rfl (z := 1) rfl ?_
 refine o_goto K X81 at_287 (by decide) (pc' := 291) (by decide) ?_
 refine o_ireturnN K X81 .boolean at_291 rfl (by simp) (z' := 1) (by decide) ?_ (by decide) (by decide)
 exact hQ _ _ rfl
def Q_lw221 (Z : State) (i0 i1 i2 i3 i4 i5 ps sa sb ia ib xa xb ya yb : Int32) (fm : Value) (cs : Int32) (h0 : Heap) (v : Option Value) (h : Heap) : Prop := v = some (.int 1)
theorem tl_lw221 (l : Launch) (Z : State) (a0 : Array Value) (hw : oHw Z a0) (i0 i1 i2 i3 i4 i5 ps sa sb ia ib xa xb ya yb : Int32) (fm : Value) (cs : Int32) (h0 : Heap) (q0 : ¬ ((((31 : Int32) * (((31 : Int32) * sa) + sb)) + (((31 : Int32) * ia) + ib)) = (((31 : Int32) * (((31 : Int32) * xa) + xb)) + (((31 : Int32) * ya) + yb)))) (q1 : oSh sa) (q2 : oSh sb) (q3 : oId ia) (q4 : oId ib) (q5 : oSh xa) (q6 : oSh xb) (q7 : oId ya) (q8 : oId yb) (q9 : oCh sa) (q10 : oCh sb) (q11 : oCh ia) (q12 : oCh ib) (q13 : oCh xa) (q14 : oCh xb) (q15 : oCh ya) (q16 : oCh yb) (q17 : nar .char sa = sa) (q18 : nar .char sb = sb) (q19 : nar .char ia = ia) (q20 : nar .char ib = ib) (q21 : nar .char xa = xa) (q22 : nar .char xb = xb) (q23 : nar .char ya = ya) (q24 : nar .char yb = yb) (q25 : Sta Z Z.heap z4 z6 z7 fm) (q26 : fm.isRef = true) (q27 : Sta Z Z.heap z0 z3 "Z" (.int cs)) (q28 : ¬ (cs = (0 : Int32))) {Q : Option Value → Heap → Prop} (hQ : ∀ v h, Q_lw221 Z i0 i1 i2 i3 i4 i5 ps sa sb ia ib xa xb ya yb fm cs h0 v h → Q v h) {pp : Program} {ee : Env} {ss : State} {mm : MethodId} {bb : List Frame} {mtd : Method} {cc : Code} {A : Array Value} {T0 : State} (K : oCtx pp ss mm mtd cc Z z5 code maxLocals "law" ret x) (X0 : oSt pp l ee room_1 ss mm A bb mtd cc Z T0 h0 0 0) : oGoes pp ee bb ss Z T0 (mkF mm 191 #[vI i0, vI i1, vI i2, vI i3, vI i4, vI i5, vI 2, vI 2, vI ps, vI sa, vI sb, vI ia, vI ib, vI xa, vI xb, vI ya, vI yb, vI 1, uS, uS, uS, uS] []) Q room_1.cells room_1.slots := by
 have E0 := X0.ext0
 refine o_new K X0 (w8 hw) (w9 hw) (w10 hw) at_191 rfl (by decide) (by decide) ?_
 intro T1 h1 b1 X1 g1 E1 A1 D1 G1
 have F1_shelf : Fld Z h1 b1 z1 "shelf" z2 .null := (D1 (Or.inr (w112 hw)) (ty := (.object z0)) (by decide))
 have F1_id : Fld Z h1 b1 z1 "id" z2 .null := (D1 (Or.inr (w114 hw)) (ty := (.object z0)) (by decide))
 refine o_dup K X1 at_194 rfl rfl ?_
 refine o_iload K X1 at_195 rfl rfl ?_
 refine o_iload K X1 at_197 rfl rfl ?_
 refine o_iload K X1 at_199 rfl rfl ?_
 refine o_static K X1  (w11 hw) (w12 hw) (w2 hw) (w13 hw) (by decide) (rm_str2 l Z a0 hw sa sb cs h1 q9.2 q10.2 q17 q18 q27 q28) (by decide) rfl (argsL := [.int 2, .int sa, .int sb]) rfl (lenOf pd19 rfl) (W := 2) rfl (by decide) (by decide) (by decide) at_201 rfl ?_
 intro v2 T2 h2 X2 U2
 obtain ⟨s_2, sv_2, ks_2, rfl, u2_0, u2_1, u2_2, u2_3, u2_4, u2_5, u2_6, u2_7, u2_8, u2_9⟩ := U2
 have G2_s : Z.heap.size ≤ s_2 := Nat.le_trans X1.ext0.1 u2_1
 have G2_sv : Z.heap.size ≤ sv_2 := Nat.le_trans X1.ext0.1 u2_8
 show oGoes pp ee bb ss Z T2 (mkF mm 204 _ [.ref s_2, .ref b1, .ref b1]) _ _ _
 refine o_iload K X2 at_204 rfl rfl ?_
 refine o_iload K X2 at_206 rfl rfl ?_
 refine o_iload K X2 at_208 rfl rfl ?_
 refine o_static K X2  (w11 hw) (w12 hw) (w2 hw) (w13 hw) (by decide) (rm_str2 l Z a0 hw ia ib cs h2 q11.2 q12.2 q19 q20 q27 q28) (by decide) rfl (argsL := [.int 2, .int ia, .int ib]) rfl (lenOf pd19 rfl) (W := 3) rfl (by decide) (by decide) (by decide) at_210 rfl ?_
 intro v3 T3 h3 X3 U3
 obtain ⟨s_3, sv_3, ks_3, rfl, u3_0, u3_1, u3_2, u3_3, u3_4, u3_5, u3_6, u3_7, u3_8, u3_9⟩ := U3
 have G3_s : Z.heap.size ≤ s_3 := Nat.le_trans X2.ext0.1 u3_1
 have G3_sv : Z.heap.size ≤ sv_3 := Nat.le_trans X2.ext0.1 u3_8
 show oGoes pp ee bb ss Z T3 (mkF mm 213 _ [.ref s_3, .ref s_2, .ref b1, .ref b1]) _ _ _
 have m4 := ((A1.keep u2_0).keep u3_0)
 have m5 := ((F1_shelf.keep u2_0 nin0).keep u3_0 nin0)
 have m6 := ((F1_id.keep u2_0 nin0).keep u3_0 nin0)
 have m7 := (u2_2.keep u3_0)
 have m8 := (u2_3.keep u3_0 nin0)
 have m9 := (u2_4.keep u3_0 nin0)
 have m10 := (u2_5.keep u3_0 nin0)
 refine o_special K X3 (y := (⟨z1, "<init>", z8⟩ : MethodName)) rfl (w44 hw) (w45 hw) (w10 hw) (w46 hw) (by decide) (rm_rk22 l Z a0 hw b1 s_2 sv_2 ks_2 s_3 sv_3 ks_3 sa sb ia ib fm cs h3 m4 G1 m5 m6 m7 m8 m9 m10 u3_2 u3_3 u3_4 u3_5 q1 q2 q3 q4 q9 q10 q11 q12 q25 q26 q27 q28) (by decide) rfl (argsL := [.ref s_2, .ref s_3]) rfl (lenOf pd20 rfl) (W := 1) rfl (by decide) (by decide) (by decide) at_213 rfl ?_
 intro v11 T11 h11 X11 U11
 obtain ⟨rfl, u11_0, u11_1, u11_2, u11_3⟩ := U11
 show oGoes pp ee bb ss Z T11 (mkF mm 216 _ [.ref b1]) _ _ _
 refine o_astore K X11 at_216 rfl rfl (L' := #[vI i0, vI i1, vI i2, vI i3, vI i4, vI i5, vI 2, vI 2, vI ps, vI sa, vI sb, vI ia, vI ib, vI xa, vI xb, vI ya, vI yb, vI 1, vR b1, uS, uS, uS]) rfl ?_
 refine o_new K X11 (w8 hw) (w9 hw) (w10 hw) at_218 rfl (by decide) (by decide) ?_
 intro T12 h12 b12 X12 g12 E12 A12 D12 G12
 have F12_shelf : Fld Z h12 b12 z1 "shelf" z2 .null := (D12 (Or.inr (w112 hw)) (ty := (.object z0)) (by decide))
 have F12_id : Fld Z h12 b12 z1 "id" z2 .null := (D12 (Or.inr (w114 hw)) (ty := (.object z0)) (by decide))
 refine o_dup K X12 at_221 rfl rfl ?_
 refine o_iload K X12 at_222 rfl rfl ?_
 refine o_iload K X12 at_224 rfl rfl ?_
 refine o_iload K X12 at_226 rfl rfl ?_
 refine o_static K X12  (w11 hw) (w12 hw) (w2 hw) (w13 hw) (by decide) (rm_str2 l Z a0 hw xa xb cs h12 q13.2 q14.2 q21 q22 q27 q28) (by decide) rfl (argsL := [.int 2, .int xa, .int xb]) rfl (lenOf pd19 rfl) (W := 2) rfl (by decide) (by decide) (by decide) at_228 rfl ?_
 intro v13 T13 h13 X13 U13
 obtain ⟨s_13, sv_13, ks_13, rfl, u13_0, u13_1, u13_2, u13_3, u13_4, u13_5, u13_6, u13_7, u13_8, u13_9⟩ := U13
 have G13_s : Z.heap.size ≤ s_13 := Nat.le_trans X12.ext0.1 u13_1
 have G13_sv : Z.heap.size ≤ sv_13 := Nat.le_trans X12.ext0.1 u13_8
 show oGoes pp ee bb ss Z T13 (mkF mm 231 _ [.ref s_13, .ref b12, .ref b12]) _ _ _
 refine o_iload K X13 at_231 rfl rfl ?_
 refine o_iload K X13 at_233 rfl rfl ?_
 refine o_iload K X13 at_235 rfl rfl ?_
 refine o_static K X13  (w11 hw) (w12 hw) (w2 hw) (w13 hw) (by decide) (rm_str2 l Z a0 hw ya yb cs h13 q15.2 q16.2 q23 q24 q27 q28) (by decide) rfl (argsL := [.int 2, .int ya, .int yb]) rfl (lenOf pd19 rfl) (W := 3) rfl (by decide) (by decide) (by decide) at_237 rfl ?_
 intro v14 T14 h14 X14 U14
 obtain ⟨s_14, sv_14, ks_14, rfl, u14_0, u14_1, u14_2, u14_3, u14_4, u14_5, u14_6, u14_7, u14_8, u14_9⟩ := U14
 have G14_s : Z.heap.size ≤ s_14 := Nat.le_trans X13.ext0.1 u14_1
 have G14_sv : Z.heap.size ≤ sv_14 := Nat.le_trans X13.ext0.1 u14_8
 show oGoes pp ee bb ss Z T14 (mkF mm 240 _ [.ref s_14, .ref s_13, .ref b12, .ref b12]) _ _ _
 have m15 := ((A12.keep u13_0).keep u14_0)
 have m16 := ((F12_shelf.keep u13_0 nin0).keep u14_0 nin0)
 have m17 := ((F12_id.keep u13_0 nin0).keep u14_0 nin0)
 have m18 := (u13_2.keep u14_0)
 have m19 := (u13_3.keep u14_0 nin0)
 have m20 := (u13_4.keep u14_0 nin0)
 have m21 := (u13_5.keep u14_0 nin0)
 refine o_special K X14 (y := (⟨z1, "<init>", z8⟩ : MethodName)) rfl (w44 hw) (w45 hw) (w10 hw) (w46 hw) (by decide) (rm_rk22 l Z a0 hw b12 s_13 sv_13 ks_13 s_14 sv_14 ks_14 xa xb ya yb fm cs h14 m15 G12 m16 m17 m18 m19 m20 m21 u14_2 u14_3 u14_4 u14_5 q5 q6 q7 q8 q13 q14 q15 q16 q25 q26 q27 q28) (by decide) rfl (argsL := [.ref s_13, .ref s_14]) rfl (lenOf pd20 rfl) (W := 1) rfl (by decide) (by decide) (by decide) at_240 rfl ?_
 intro v22 T22 h22 X22 U22
 obtain ⟨rfl, u22_0, u22_1, u22_2, u22_3⟩ := U22
 show oGoes pp ee bb ss Z T22 (mkF mm 243 _ [.ref b12]) _ _ _
 refine o_astore K X22 at_243 rfl rfl (L' := #[vI i0, vI i1, vI i2, vI i3, vI i4, vI i5, vI 2, vI 2, vI ps, vI sa, vI sb, vI ia, vI ib, vI xa, vI xb, vI ya, vI yb, vI 1, vR b1, vR b12, uS, uS]) rfl ?_
 refine o_aload K X22 at_245 rfl rfl rfl ?_
 have m23 := ((((u11_1.ext E12).keep u13_0).keep u14_0).keep u22_0)
 have y1_4 := Nat.le_trans (Nat.le_trans u2_0.1 u3_0.1) u11_0.1
 have n24 := oLn A1.lt y1_4 (oLe g12)
 have m25 := ((((u11_2.ext E12).keep u13_0 nin0).keep u14_0 nin0).keep u22_0 (ninS n24 nin0))
 have m26 := ((((u11_3.ext E12).keep u13_0 nin0).keep u14_0 nin0).keep u22_0 (ninS n24 nin0))
 have m27 := (((((m7.keep u11_0).ext E12).keep u13_0).keep u14_0).keep u22_0)
 have n28 := oLsz A1.lt u2_1
 have n29 := oLn u2_2.lt (Nat.le_trans u3_0.1 u11_0.1) (oLe g12)
 have m30 := (((((m8.keep u11_0 (ninS n28 nin0)).ext E12).keep u13_0 nin0).keep u14_0 nin0).keep u22_0 (ninS n29 nin0))
 have m31 := (((((m9.keep u11_0 (ninS n28 nin0)).ext E12).keep u13_0 nin0).keep u14_0 nin0).keep u22_0 (ninS n29 nin0))
 have n32 := oLsz A1.lt u2_8
 have n33 := oLn u2_5.lt (Nat.le_trans u3_0.1 u11_0.1) (oLe g12)
 have m34 := (((((m10.keep u11_0 (ninS n32 nin0)).ext E12).keep u13_0 nin0).keep u14_0 nin0).keep u22_0 (ninS n33 nin0))
 have m35 := ((((((u2_6.keep u3_0 nin0).keep u11_0 (ninS n28 nin0)).ext E12).keep u13_0 nin0).keep u14_0 nin0).keep u22_0 (ninS n29 nin0))
 have m36 := ((((((u2_7.keep u3_0 nin0).keep u11_0 (ninS n28 nin0)).ext E12).keep u13_0 nin0).keep u14_0 nin0).keep u22_0 (ninS n29 nin0))
 have m37 := ((((((u2_9.keep u3_0).keep u11_0).ext E12).keep u13_0).keep u14_0).keep u22_0)
 have m38 := (((((u3_2.keep u11_0).ext E12).keep u13_0).keep u14_0).keep u22_0)
 have n39 := oLsn A1.lt u2_0.1 u3_1
 have n40 := oLn u3_2.lt u11_0.1 (oLe g12)
 have m41 := (((((u3_3.keep u11_0 (ninS n39 nin0)).ext E12).keep u13_0 nin0).keep u14_0 nin0).keep u22_0 (ninS n40 nin0))
 have m42 := (((((u3_4.keep u11_0 (ninS n39 nin0)).ext E12).keep u13_0 nin0).keep u14_0 nin0).keep u22_0 (ninS n40 nin0))
 have n43 := oLsn A1.lt u2_0.1 u3_8
 have n44 := oLn u3_5.lt u11_0.1 (oLe g12)
 have m45 := (((((u3_5.keep u11_0 (ninS n43 nin0)).ext E12).keep u13_0 nin0).keep u14_0 nin0).keep u22_0 (ninS n44 nin0))
 have m46 := (((((u3_6.keep u11_0 (ninS n39 nin0)).ext E12).keep u13_0 nin0).keep u14_0 nin0).keep u22_0 (ninS n40 nin0))
 have m47 := (((((u3_7.keep u11_0 (ninS n39 nin0)).ext E12).keep u13_0 nin0).keep u14_0 nin0).keep u22_0 (ninS n40 nin0))
 have m48 := (((((u3_9.keep u11_0).ext E12).keep u13_0).keep u14_0).keep u22_0)
 have n49 := oLsz u2_2.lt u3_1
 refine o_virtual K X22   (w115 hw) (w116 hw) (oNF (w118 hw)) (w118 hw) (w117 hw) (w10 hw) (w119 hw) (by decide) m23 (rm_rkh22 l Z a0 hw b1 s_2 sv_2 ks_2 s_3 sv_3 ks_3 sa sb ia ib cs h22 m23 m25 m26 m27 m30 m31 m34 m35 m36 m37 G2_s m38 m41 m42 m45 m46 m47 m48 G3_s (Ne.symm n28) n49 q9 q10 q11 q12 q27 q28) (by decide) rfl (argsL := []) rfl (lenOf pd10 rfl) (W := 0) rfl (by decide) (by decide) (by decide) at_247 rfl ?_
 intro v50 T50 h50 X50 U50
 obtain ⟨rfl, u50_0⟩ := U50
 show oGoes pp ee bb ss Z T50 (mkF mm 250 _ [(.int (((31 : Int32) * (((31 : Int32) * sa) + sb)) + (((31 : Int32) * ia) + ib)))]) _ _ _
 refine o_istore K X50 at_250 rfl (L' := #[vI i0, vI i1, vI i2, vI i3, vI i4, vI i5, vI 2, vI 2, vI ps, vI sa, vI sb, vI ia, vI ib, vI xa, vI xb, vI ya, vI yb, vI 1, vR b1, vR b12, vI (((31 : Int32) * (((31 : Int32) * sa) + sb)) + (((31 : Int32) * ia) + ib)), uS]) rfl ?_
 refine o_aload K X50 at_252 rfl rfl rfl ?_
 have m51 := (u22_1.keep u50_0)
 have m52 := (u22_2.keep u50_0 (ninS (Ne.symm n29) (ninS (Ne.symm n40) nin0)))
 have m53 := (u22_3.keep u50_0 (ninS (Ne.symm n29) (ninS (Ne.symm n40) nin0)))
 have m54 := ((m18.keep u22_0).keep u50_0)
 have n55 := oLsz A12.lt u13_1
 have n56 := oLsn u3_2.lt (Nat.le_trans u11_0.1 E12.1) u13_1
 have y2_5 := Nat.le_trans (Nat.le_trans u3_0.1 u11_0.1) E12.1
 have n57 := oLsn u2_2.lt y2_5 u13_1
 have m58 := ((m19.keep u22_0 (ninS n55 nin0)).keep u50_0 (ninS n57 (ninS n56 nin0)))
 have m59 := ((m20.keep u22_0 (ninS n55 nin0)).keep u50_0 (ninS n57 (ninS n56 nin0)))
 have n60 := oLsz A12.lt u13_8
 have n61 := oLsn u3_2.lt (Nat.le_trans u11_0.1 E12.1) u13_8
 have n62 := oLsn u2_2.lt y2_5 u13_8
 have m63 := ((m21.keep u22_0 (ninS n60 nin0)).keep u50_0 (ninS n62 (ninS n61 nin0)))
 have m64 := (((u13_6.keep u14_0 nin0).keep u22_0 (ninS n55 nin0)).keep u50_0 (ninS n57 (ninS n56 nin0)))
 have m65 := (((u13_7.keep u14_0 nin0).keep u22_0 (ninS n55 nin0)).keep u50_0 (ninS n57 (ninS n56 nin0)))
 have m66 := (((u13_9.keep u14_0).keep u22_0).keep u50_0)
 have m67 := ((u14_2.keep u22_0).keep u50_0)
 have n68 := oLsn A12.lt u13_0.1 u14_1
 have y3_6 := Nat.le_trans (Nat.le_trans u11_0.1 E12.1) u13_0.1
 have n69 := oLsn u3_2.lt y3_6 u14_1
 have n70 := oLsn u2_2.lt (Nat.le_trans y2_5 u13_0.1) u14_1
 have m71 := ((u14_3.keep u22_0 (ninS n68 nin0)).keep u50_0 (ninS n70 (ninS n69 nin0)))
 have m72 := ((u14_4.keep u22_0 (ninS n68 nin0)).keep u50_0 (ninS n70 (ninS n69 nin0)))
 have n73 := oLsn A12.lt u13_0.1 u14_8
 have n74 := oLsn u3_2.lt y3_6 u14_8
 have n75 := oLsn u2_2.lt (Nat.le_trans y2_5 u13_0.1) u14_8
 have m76 := ((u14_5.keep u22_0 (ninS n73 nin0)).keep u50_0 (ninS n75 (ninS n74 nin0)))
 have m77 := ((u14_6.keep u22_0 (ninS n68 nin0)).keep u50_0 (ninS n70 (ninS n69 nin0)))
 have m78 := ((u14_7.keep u22_0 (ninS n68 nin0)).keep u50_0 (ninS n70 (ninS n69 nin0)))
 have m79 := ((u14_9.keep u22_0).keep u50_0)
 have n80 := oLsz u13_2.lt u14_1
 refine o_virtual K X50   (w115 hw) (w116 hw) (oNF (w118 hw)) (w118 hw) (w117 hw) (w10 hw) (w119 hw) (by decide) m51 (rm_rkh22 l Z a0 hw b12 s_13 sv_13 ks_13 s_14 sv_14 ks_14 xa xb ya yb cs h50 m51 m52 m53 m54 m58 m59 m63 m64 m65 m66 G13_s m67 m71 m72 m76 m77 m78 m79 G14_s (Ne.symm n55) n80 q13 q14 q15 q16 q27 q28) (by decide) rfl (argsL := []) rfl (lenOf pd10 rfl) (W := 0) rfl (by decide) (by decide) (by decide) at_254 rfl ?_
 intro v81 T81 h81 X81 U81
 obtain ⟨rfl, u81_0⟩ := U81
 show oGoes pp ee bb ss Z T81 (mkF mm 257 _ [(.int (((31 : Int32) * (((31 : Int32) * xa) + xb)) + (((31 : Int32) * ya) + yb)))]) _ _ _
 refine o_istore K X81 at_257 rfl (L' := #[vI i0, vI i1, vI i2, vI i3, vI i4, vI i5, vI 2, vI 2, vI ps, vI sa, vI sb, vI ia, vI ib, vI xa, vI xb, vI ya, vI yb, vI 1, vR b1, vR b12, vI (((31 : Int32) * (((31 : Int32) * sa) + sb)) + (((31 : Int32) * ia) + ib)), vI (((31 : Int32) * (((31 : Int32) * xa) + xb)) + (((31 : Int32) * ya) + yb))]) rfl ?_
 refine o_iload K X81 at_259 rfl rfl ?_
 refine o_if_eq_f K X81 at_261 rfl (by decide) ?_
 refine o_iload K X81 at_264 rfl rfl ?_
 refine o_iload K X81 at_266 rfl rfl ?_
 refine o_icmp_eq_f K X81 at_268 rfl q0 ?_
 refine o_iconst K X81 at_271 rfl (z := 1) rfl ?_
 refine o_goto K X81 at_272 (by decide) (pc' := 291) (by decide) ?_
 refine o_ireturnN K X81 .boolean at_291 rfl (by simp) (z' := 1) (by decide) ?_ (by decide) (by decide)
 exact hQ _ _ rfl
def Q_law (Z : State) (i0 i1 i2 i3 i4 i5 : Int32) (fm : Value) (cs : Int32) (h0 : Heap) (v : Option Value) (h : Heap) : Prop := v = some (.int 1)
theorem rm_law (l : Launch) (Z : State) (a0 : Array Value) (hw : oHw Z a0) (i0 i1 i2 i3 i4 i5 : Int32) (fm : Value) (cs : Int32) (h0 : Heap) (q0 : Sta Z Z.heap z4 z6 z7 fm) (q1 : fm.isRef = true) (q2 : Sta Z Z.heap z0 z3 "Z" (.int cs)) (q3 : ¬ (cs = (0 : Int32))) (ws : List Jvm.Cond) : oMet l Z x code maxLocals ret room_1 ws #[.int i0, .int i1, .int i2, .int i3, .int i4, .int i5] h0 (Q_law Z i0 i1 i2 i3 i4 i5 fm cs h0) := by
 refine oEnter (plainFor_of_name (by first | (simp [plainName, overriddenIn]; done) | decide +kernel)) (own := z5) (nm := "law") rfl rfl (L := #[.val (.int i0), .val (.int i1), .val (.int i2), .val (.int i3), .val (.int i4), .val (.int i5), .unset, .unset, .unset, .unset, .unset, .unset, .unset, .unset, .unset, .unset, .unset, .unset, .unset, .unset, .unset, .unset]) (fun m => by first | (simp [entryFrame, mkF, argsToLocals, Value.category, maxLocals, oCatRef q1]; done) | rfl) ?_
 intro pp ee ss mm bb mtd cc T0 K X0
 have E0 := X0.ext0
 refine o_iconst K X0 at_0 rfl (z := 1) rfl ?_
 refine o_iload K X0 at_1 rfl rfl ?_
 refine o_iconst K X0 at_3 rfl (z := 1) rfl ?_
 refine o_iand K X0 at_4 rfl (z := (i4 &&& (1 : Int32))) rfl ?_
 refine o_iadd K X0 at_5 rfl (z := ((1 : Int32) + (i4 &&& (1 : Int32)))) rfl ?_
 refine o_istore K X0 at_6 rfl (L' := #[vI i0, vI i1, vI i2, vI i3, vI i4, vI i5, vI ((1 : Int32) + (i4 &&& (1 : Int32))), uS, uS, uS, uS, uS, uS, uS, uS, uS, uS, uS, uS, uS, uS, uS]) rfl ?_
 refine o_iconst K X0 at_8 rfl (z := 1) rfl ?_
 refine o_iload K X0 at_9 rfl rfl ?_
 refine o_iconst K X0 at_11 rfl (z := 1) rfl ?_
 refine o_iushr K X0 at_12 rfl (z := ((i4.toUInt32 >>> ((1 : Int32) &&& 31).toUInt32).toInt32)) rfl ?_
 refine o_iconst K X0 at_13 rfl (z := 1) rfl ?_
 refine o_iand K X0 at_14 rfl (z := (((i4.toUInt32 >>> ((1 : Int32) &&& 31).toUInt32).toInt32) &&& (1 : Int32))) rfl ?_
 refine o_iadd K X0 at_15 rfl (z := ((1 : Int32) + (((i4.toUInt32 >>> ((1 : Int32) &&& 31).toUInt32).toInt32) &&& (1 : Int32)))) rfl ?_
 refine o_istore K X0 at_16 rfl (L' := #[vI i0, vI i1, vI i2, vI i3, vI i4, vI i5, vI ((1 : Int32) + (i4 &&& (1 : Int32))), vI ((1 : Int32) + (((i4.toUInt32 >>> ((1 : Int32) &&& 31).toUInt32).toInt32) &&& (1 : Int32))), uS, uS, uS, uS, uS, uS, uS, uS, uS, uS, uS, uS, uS, uS]) rfl ?_
 refine o_iload K X0 at_18 rfl rfl ?_
 refine o_iconst K X0 at_20 rfl (z := 2) rfl ?_
 refine o_iushr K X0 at_21 rfl (z := ((i4.toUInt32 >>> ((2 : Int32) &&& 31).toUInt32).toInt32)) rfl ?_
 refine o_iconst K X0 at_22 rfl (z := 3) rfl ?_
 refine o_iand K X0 at_23 rfl (z := (((i4.toUInt32 >>> ((2 : Int32) &&& 31).toUInt32).toInt32) &&& (3 : Int32))) rfl ?_
 refine o_istore K X0 at_24 rfl (L' := #[vI i0, vI i1, vI i2, vI i3, vI i4, vI i5, vI ((1 : Int32) + (i4 &&& (1 : Int32))), vI ((1 : Int32) + (((i4.toUInt32 >>> ((1 : Int32) &&& 31).toUInt32).toInt32) &&& (1 : Int32))), vI (((i4.toUInt32 >>> ((2 : Int32) &&& 31).toUInt32).toInt32) &&& (3 : Int32)), uS, uS, uS, uS, uS, uS, uS, uS, uS, uS, uS, uS, uS]) rfl ?_
 refine o_iloadN K X0 at_26 rfl rfl ?_
 refine o_static K X0  (w0 hw) (w1 hw) (w2 hw) (w3 hw) (by decide) (rm_shelfChar l Z a0 hw i0 h0) (by decide) rfl (argsL := [.int i0]) rfl (lenOf pd11 rfl) (W := 0) rfl (by decide) (by decide) (by decide) at_27 rfl ?_
 intro v1 T1 h1 X1 U1
 obtain ⟨r_1, rfl, rfl, u1_1, u1_2, u1_3⟩ := U1
 show oGoes pp ee bb ss Z T1 (mkF mm 30 _ [.int r_1]) _ _ _
 refine o_istore K X1 at_30 rfl (L' := #[vI i0, vI i1, vI i2, vI i3, vI i4, vI i5, vI ((1 : Int32) + (i4 &&& (1 : Int32))), vI ((1 : Int32) + (((i4.toUInt32 >>> ((1 : Int32) &&& 31).toUInt32).toInt32) &&& (1 : Int32))), vI (((i4.toUInt32 >>> ((2 : Int32) &&& 31).toUInt32).toInt32) &&& (3 : Int32)), vI r_1, uS, uS, uS, uS, uS, uS, uS, uS, uS, uS, uS, uS]) rfl ?_
 refine o_iloadN K X1 at_32 rfl rfl ?_
 refine o_static K X1  (w0 hw) (w1 hw) (w2 hw) (w3 hw) (by decide) (rm_shelfChar l Z a0 hw i1 h0) (by decide) rfl (argsL := [.int i1]) rfl (lenOf pd11 rfl) (W := 0) rfl (by decide) (by decide) (by decide) at_33 rfl ?_
 intro v2 T2 h2 X2 U2
 obtain ⟨r_2, rfl, rfl, u2_1, u2_2, u2_3⟩ := U2
 show oGoes pp ee bb ss Z T2 (mkF mm 36 _ [.int r_2]) _ _ _
 refine o_istore K X2 at_36 rfl (L' := #[vI i0, vI i1, vI i2, vI i3, vI i4, vI i5, vI ((1 : Int32) + (i4 &&& (1 : Int32))), vI ((1 : Int32) + (((i4.toUInt32 >>> ((1 : Int32) &&& 31).toUInt32).toInt32) &&& (1 : Int32))), vI (((i4.toUInt32 >>> ((2 : Int32) &&& 31).toUInt32).toInt32) &&& (3 : Int32)), vI r_1, vI r_2, uS, uS, uS, uS, uS, uS, uS, uS, uS, uS, uS]) rfl ?_
 refine o_iloadN K X2 at_38 rfl rfl ?_
 refine o_static K X2  (w5 hw) (w6 hw) (w2 hw) (w7 hw) (by decide) (rm_idChar l Z a0 hw i2 h0) (by decide) rfl (argsL := [.int i2]) rfl (lenOf pd11 rfl) (W := 0) rfl (by decide) (by decide) (by decide) at_39 rfl ?_
 intro v3 T3 h3 X3 U3
 obtain ⟨r_3, rfl, rfl, u3_1, u3_2, u3_3⟩ := U3
 show oGoes pp ee bb ss Z T3 (mkF mm 42 _ [.int r_3]) _ _ _
 refine o_istore K X3 at_42 rfl (L' := #[vI i0, vI i1, vI i2, vI i3, vI i4, vI i5, vI ((1 : Int32) + (i4 &&& (1 : Int32))), vI ((1 : Int32) + (((i4.toUInt32 >>> ((1 : Int32) &&& 31).toUInt32).toInt32) &&& (1 : Int32))), vI (((i4.toUInt32 >>> ((2 : Int32) &&& 31).toUInt32).toInt32) &&& (3 : Int32)), vI r_1, vI r_2, vI r_3, uS, uS, uS, uS, uS, uS, uS, uS, uS, uS]) rfl ?_
 refine o_iloadN K X3 at_44 rfl rfl ?_
 refine o_static K X3  (w5 hw) (w6 hw) (w2 hw) (w7 hw) (by decide) (rm_idChar l Z a0 hw i3 h0) (by decide) rfl (argsL := [.int i3]) rfl (lenOf pd11 rfl) (W := 0) rfl (by decide) (by decide) (by decide) at_45 rfl ?_
 intro v4 T4 h4 X4 U4
 obtain ⟨r_4, rfl, rfl, u4_1, u4_2, u4_3⟩ := U4
 show oGoes pp ee bb ss Z T4 (mkF mm 48 _ [.int r_4]) _ _ _
 refine o_istore K X4 at_48 rfl (L' := #[vI i0, vI i1, vI i2, vI i3, vI i4, vI i5, vI ((1 : Int32) + (i4 &&& (1 : Int32))), vI ((1 : Int32) + (((i4.toUInt32 >>> ((1 : Int32) &&& 31).toUInt32).toInt32) &&& (1 : Int32))), vI (((i4.toUInt32 >>> ((2 : Int32) &&& 31).toUInt32).toInt32) &&& (3 : Int32)), vI r_1, vI r_2, vI r_3, vI r_4, uS, uS, uS, uS, uS, uS, uS, uS, uS]) rfl ?_
 refine o_iload K X4 at_50 rfl rfl ?_
 refine o_istore K X4 at_52 rfl (L' := #[vI i0, vI i1, vI i2, vI i3, vI i4, vI i5, vI ((1 : Int32) + (i4 &&& (1 : Int32))), vI ((1 : Int32) + (((i4.toUInt32 >>> ((1 : Int32) &&& 31).toUInt32).toInt32) &&& (1 : Int32))), vI (((i4.toUInt32 >>> ((2 : Int32) &&& 31).toUInt32).toInt32) &&& (3 : Int32)), vI r_1, vI r_2, vI r_3, vI r_4, vI r_1, uS, uS, uS, uS, uS, uS, uS, uS]) rfl ?_
 refine o_iload K X4 at_54 rfl rfl ?_
 refine o_istore K X4 at_56 rfl (L' := #[vI i0, vI i1, vI i2, vI i3, vI i4, vI i5, vI ((1 : Int32) + (i4 &&& (1 : Int32))), vI ((1 : Int32) + (((i4.toUInt32 >>> ((1 : Int32) &&& 31).toUInt32).toInt32) &&& (1 : Int32))), vI (((i4.toUInt32 >>> ((2 : Int32) &&& 31).toUInt32).toInt32) &&& (3 : Int32)), vI r_1, vI r_2, vI r_3, vI r_4, vI r_1, vI r_2, uS, uS, uS, uS, uS, uS, uS]) rfl ?_
 refine o_iload K X4 at_58 rfl rfl ?_
 refine o_istore K X4 at_60 rfl (L' := #[vI i0, vI i1, vI i2, vI i3, vI i4, vI i5, vI ((1 : Int32) + (i4 &&& (1 : Int32))), vI ((1 : Int32) + (((i4.toUInt32 >>> ((1 : Int32) &&& 31).toUInt32).toInt32) &&& (1 : Int32))), vI (((i4.toUInt32 >>> ((2 : Int32) &&& 31).toUInt32).toInt32) &&& (3 : Int32)), vI r_1, vI r_2, vI r_3, vI r_4, vI r_1, vI r_2, vI r_3, uS, uS, uS, uS, uS, uS]) rfl ?_
 refine o_iload K X4 at_62 rfl rfl ?_
 refine o_istore K X4 at_64 rfl (L' := #[vI i0, vI i1, vI i2, vI i3, vI i4, vI i5, vI ((1 : Int32) + (i4 &&& (1 : Int32))), vI ((1 : Int32) + (((i4.toUInt32 >>> ((1 : Int32) &&& 31).toUInt32).toInt32) &&& (1 : Int32))), vI (((i4.toUInt32 >>> ((2 : Int32) &&& 31).toUInt32).toInt32) &&& (3 : Int32)), vI r_1, vI r_2, vI r_3, vI r_4, vI r_1, vI r_2, vI r_3, vI r_4, uS, uS, uS, uS, uS]) rfl ?_
 refine o_iconst K X4 at_66 rfl (z := 0) rfl ?_
 refine o_istore K X4 at_67 rfl (L' := #[vI i0, vI i1, vI i2, vI i3, vI i4, vI i5, vI ((1 : Int32) + (i4 &&& (1 : Int32))), vI ((1 : Int32) + (((i4.toUInt32 >>> ((1 : Int32) &&& 31).toUInt32).toInt32) &&& (1 : Int32))), vI (((i4.toUInt32 >>> ((2 : Int32) &&& 31).toUInt32).toInt32) &&& (3 : Int32)), vI r_1, vI r_2, vI r_3, vI r_4, vI r_1, vI r_2, vI r_3, vI r_4, vI 0, uS, uS, uS, uS]) rfl ?_
 obtain ⟨sl, e_sl⟩ : ∃ x : Int32, x = ((1 : Int32) + (i4 &&& (1 : Int32))) := ⟨_, rfl⟩
 rw [← e_sl]
 obtain ⟨il, e_il⟩ : ∃ x : Int32, x = ((1 : Int32) + (((i4.toUInt32 >>> ((1 : Int32) &&& 31).toUInt32).toInt32) &&& (1 : Int32))) := ⟨_, rfl⟩
 rw [← e_il]
 obtain ⟨ps, e_ps⟩ : ∃ x : Int32, x = (((i4.toUInt32 >>> ((2 : Int32) &&& 31).toUInt32).toInt32) &&& (3 : Int32)) := ⟨_, rfl⟩
 rw [← e_ps]
 rcases oAnd1 i4 with z | z
 obtain rfl : sl = (1 : Int32) := e_sl.trans (by rw [z]; decide)
 rcases oAnd1 ((i4.toUInt32 >>> ((1 : Int32) &&& 31).toUInt32).toInt32) with z | z
 obtain rfl : il = (1 : Int32) := e_il.trans (by rw [z]; decide)
 rcases oAnd3 ((i4.toUInt32 >>> ((2 : Int32) &&& 31).toUInt32).toInt32) with z | z | z | z
 obtain rfl : ps = (0 : Int32) := e_ps.trans z
 refine o_iload K X4 at_69 rfl rfl ?_
 refine o_if_ne_f K X4 at_71 rfl (by decide) ?_
 refine o_iload K X4 at_74 rfl rfl ?_
 refine o_static K X4  (w0 hw) (w1 hw) (w2 hw) (w3 hw) (by decide) (rm_shelfChar l Z a0 hw i5 h0) (by decide) rfl (argsL := [.int i5]) rfl (lenOf pd11 rfl) (W := 0) rfl (by decide) (by decide) (by decide) at_76 rfl ?_
 intro v5 T5 h5 X5 U5
 obtain ⟨r_5, rfl, rfl, u5_1, u5_2, u5_3⟩ := U5
 show oGoes pp ee bb ss Z T5 (mkF mm 79 _ [.int r_5]) _ _ _
 refine o_istore K X5 at_79 rfl (L' := #[vI i0, vI i1, vI i2, vI i3, vI i4, vI i5, vI 1, vI 1, vI 0, vI r_1, vI r_2, vI r_3, vI r_4, vI r_5, vI r_2, vI r_3, vI r_4, vI 0, uS, uS, uS, uS]) rfl ?_
 refine o_iload K X5 at_81 rfl rfl ?_
 refine o_iload K X5 at_83 rfl rfl ?_
 by_cases c85_6 : r_5 = r_1
 refine o_icmp_eq_t K X5 at_85 (by decide) (pc' := 92) (by decide) c85_6 ?_
 refine o_iconst K X5 at_92 rfl (z := 0) rfl ?_
 refine o_istore K X5 at_93 rfl (L' := #[vI i0, vI i1, vI i2, vI i3, vI i4, vI i5, vI 1, vI 1, vI 0, vI r_1, vI r_2, vI r_3, vI r_4, vI r_5, vI r_2, vI r_3, vI r_4, vI 0, uS, uS, uS, uS]) rfl ?_
 refine o_goto K X5 at_95 (by decide) (pc' := 191) (by decide) ?_
 refine tl_lw110 l Z a0 hw i0 i1 i2 i3 i4 i5 0 r_1 r_2 r_3 r_4 r_5 r_2 r_3 r_4 fm cs h0 (by rw [c85_6]) u1_1 u2_1 u3_1 u4_1 u5_1 u2_1 u3_1 u4_1 u1_2 u2_2 u3_2 u4_2 u5_2 u2_2 u3_2 u4_2 u1_3 u2_3 u3_3 u4_3 u5_3 u2_3 u3_3 u4_3 q0 q1 q2 q3 (fun v7 h7 U7 => ?_) K (X5.mono (by decide) (by decide))
 obtain rfl : v7 = some (.int 1) := U7
 exact rfl
 refine o_icmp_eq_f K X5 at_85 rfl c85_6 ?_
 refine o_iconst K X5 at_88 rfl (z := 1) rfl ?_
 refine o_goto K X5 at_89 (by decide) (pc' := 93) (by decide) ?_
 refine o_istore K X5 at_93 rfl (L' := #[vI i0, vI i1, vI i2, vI i3, vI i4, vI i5, vI 1, vI 1, vI 0, vI r_1, vI r_2, vI r_3, vI r_4, vI r_5, vI r_2, vI r_3, vI r_4, vI 1, uS, uS, uS, uS]) rfl ?_
 refine o_goto K X5 at_95 (by decide) (pc' := 191) (by decide) ?_
 refine tl_lw111 l Z a0 hw i0 i1 i2 i3 i4 i5 0 r_1 r_2 r_3 r_4 r_5 r_2 r_3 r_4 fm cs h0 (fun e => c85_6 (by repeat (first | exact e.symm | replace e := oAr e | replace e := oM31 e | replace e := oAl e))) u1_1 u2_1 u3_1 u4_1 u5_1 u2_1 u3_1 u4_1 u1_2 u2_2 u3_2 u4_2 u5_2 u2_2 u3_2 u4_2 u1_3 u2_3 u3_3 u4_3 u5_3 u2_3 u3_3 u4_3 q0 q1 q2 q3 (fun v8 h8 U8 => ?_) K (X5.mono (by decide) (by decide))
 obtain rfl : v8 = some (.int 1) := U8
 exact rfl
 obtain rfl : ps = (1 : Int32) := e_ps.trans z
 refine o_iload K X4 at_69 rfl rfl ?_
 refine o_if_ne_t K X4 at_71 (by decide) (pc' := 98) (by decide) (by decide) ?_
 refine o_iload K X4 at_98 rfl rfl ?_
 refine o_iconst K X4 at_100 rfl (z := 1) rfl ?_
 refine o_icmp_ne_f K X4 at_101 rfl (by decide) ?_
 refine o_iload K X4 at_104 rfl rfl ?_
 refine o_iconst K X4 at_106 rfl (z := 2) rfl ?_
 refine o_icmp_ne_t K X4 at_107 (by decide) (pc' := 191) (by decide) (by decide) ?_
 refine tl_lw110 l Z a0 hw i0 i1 i2 i3 i4 i5 1 r_1 r_2 r_3 r_4 r_1 r_2 r_3 r_4 fm cs h0 rfl u1_1 u2_1 u3_1 u4_1 u1_1 u2_1 u3_1 u4_1 u1_2 u2_2 u3_2 u4_2 u1_2 u2_2 u3_2 u4_2 u1_3 u2_3 u3_3 u4_3 u1_3 u2_3 u3_3 u4_3 q0 q1 q2 q3 (fun v9 h9 U9 => ?_) K (X4.mono (by decide) (by decide))
 obtain rfl : v9 = some (.int 1) := U9
 exact rfl
 obtain rfl : ps = (2 : Int32) := e_ps.trans z
 refine o_iload K X4 at_69 rfl rfl ?_
 refine o_if_ne_t K X4 at_71 (by decide) (pc' := 98) (by decide) (by decide) ?_
 refine o_iload K X4 at_98 rfl rfl ?_
 refine o_iconst K X4 at_100 rfl (z := 1) rfl ?_
 refine o_icmp_ne_t K X4 at_101 (by decide) (pc' := 134) (by decide) (by decide) ?_
 refine o_iload K X4 at_134 rfl rfl ?_
 refine o_iconst K X4 at_136 rfl (z := 2) rfl ?_
 refine o_icmp_ne_f K X4 at_137 rfl (by decide) ?_
 refine o_iload K X4 at_140 rfl rfl ?_
 refine o_static K X4  (w5 hw) (w6 hw) (w2 hw) (w7 hw) (by decide) (rm_idChar l Z a0 hw i5 h0) (by decide) rfl (argsL := [.int i5]) rfl (lenOf pd11 rfl) (W := 0) rfl (by decide) (by decide) (by decide) at_142 rfl ?_
 intro v10 T10 h10 X10 U10
 obtain ⟨r_10, rfl, rfl, u10_1, u10_2, u10_3⟩ := U10
 show oGoes pp ee bb ss Z T10 (mkF mm 145 _ [.int r_10]) _ _ _
 refine o_istore K X10 at_145 rfl (L' := #[vI i0, vI i1, vI i2, vI i3, vI i4, vI i5, vI 1, vI 1, vI 2, vI r_1, vI r_2, vI r_3, vI r_4, vI r_1, vI r_2, vI r_10, vI r_4, vI 0, uS, uS, uS, uS]) rfl ?_
 refine o_iload K X10 at_147 rfl rfl ?_
 refine o_iload K X10 at_149 rfl rfl ?_
 by_cases c151_11 : r_10 = r_3
 refine o_icmp_eq_t K X10 at_151 (by decide) (pc' := 158) (by decide) c151_11 ?_
 refine o_iconst K X10 at_158 rfl (z := 0) rfl ?_
 refine o_istore K X10 at_159 rfl (L' := #[vI i0, vI i1, vI i2, vI i3, vI i4, vI i5, vI 1, vI 1, vI 2, vI r_1, vI r_2, vI r_3, vI r_4, vI r_1, vI r_2, vI r_10, vI r_4, vI 0, uS, uS, uS, uS]) rfl ?_
 refine o_goto K X10 at_161 (by decide) (pc' := 191) (by decide) ?_
 refine tl_lw110 l Z a0 hw i0 i1 i2 i3 i4 i5 2 r_1 r_2 r_3 r_4 r_1 r_2 r_10 r_4 fm cs h0 (by rw [c151_11]) u1_1 u2_1 u3_1 u4_1 u1_1 u2_1 u10_1 u4_1 u1_2 u2_2 u3_2 u4_2 u1_2 u2_2 u10_2 u4_2 u1_3 u2_3 u3_3 u4_3 u1_3 u2_3 u10_3 u4_3 q0 q1 q2 q3 (fun v12 h12 U12 => ?_) K (X10.mono (by decide) (by decide))
 obtain rfl : v12 = some (.int 1) := U12
 exact rfl
 refine o_icmp_eq_f K X10 at_151 rfl c151_11 ?_
 refine o_iconst K X10 at_154 rfl (z := 1) rfl ?_
 refine o_goto K X10 at_155 (by decide) (pc' := 159) (by decide) ?_
 refine o_istore K X10 at_159 rfl (L' := #[vI i0, vI i1, vI i2, vI i3, vI i4, vI i5, vI 1, vI 1, vI 2, vI r_1, vI r_2, vI r_3, vI r_4, vI r_1, vI r_2, vI r_10, vI r_4, vI 1, uS, uS, uS, uS]) rfl ?_
 refine o_goto K X10 at_161 (by decide) (pc' := 191) (by decide) ?_
 refine tl_lw111 l Z a0 hw i0 i1 i2 i3 i4 i5 2 r_1 r_2 r_3 r_4 r_1 r_2 r_10 r_4 fm cs h0 (fun e => c151_11 (by repeat (first | exact e.symm | replace e := oAr e | replace e := oM31 e | replace e := oAl e))) u1_1 u2_1 u3_1 u4_1 u1_1 u2_1 u10_1 u4_1 u1_2 u2_2 u3_2 u4_2 u1_2 u2_2 u10_2 u4_2 u1_3 u2_3 u3_3 u4_3 u1_3 u2_3 u10_3 u4_3 q0 q1 q2 q3 (fun v13 h13 U13 => ?_) K (X10.mono (by decide) (by decide))
 obtain rfl : v13 = some (.int 1) := U13
 exact rfl
 obtain rfl : ps = (3 : Int32) := e_ps.trans z
 refine o_iload K X4 at_69 rfl rfl ?_
 refine o_if_ne_t K X4 at_71 (by decide) (pc' := 98) (by decide) (by decide) ?_
 refine o_iload K X4 at_98 rfl rfl ?_
 refine o_iconst K X4 at_100 rfl (z := 1) rfl ?_
 refine o_icmp_ne_t K X4 at_101 (by decide) (pc' := 134) (by decide) (by decide) ?_
 refine o_iload K X4 at_134 rfl rfl ?_
 refine o_iconst K X4 at_136 rfl (z := 2) rfl ?_
 refine o_icmp_ne_t K X4 at_137 (by decide) (pc' := 164) (by decide) (by decide) ?_
 refine o_iload K X4 at_164 rfl rfl ?_
 refine o_iconst K X4 at_166 rfl (z := 2) rfl ?_
 refine o_icmp_ne_t K X4 at_167 (by decide) (pc' := 191) (by decide) (by decide) ?_
 refine tl_lw110 l Z a0 hw i0 i1 i2 i3 i4 i5 3 r_1 r_2 r_3 r_4 r_1 r_2 r_3 r_4 fm cs h0 rfl u1_1 u2_1 u3_1 u4_1 u1_1 u2_1 u3_1 u4_1 u1_2 u2_2 u3_2 u4_2 u1_2 u2_2 u3_2 u4_2 u1_3 u2_3 u3_3 u4_3 u1_3 u2_3 u3_3 u4_3 q0 q1 q2 q3 (fun v14 h14 U14 => ?_) K (X4.mono (by decide) (by decide))
 obtain rfl : v14 = some (.int 1) := U14
 exact rfl
 obtain rfl : il = (2 : Int32) := e_il.trans (by rw [z]; decide)
 rcases oAnd3 ((i4.toUInt32 >>> ((2 : Int32) &&& 31).toUInt32).toInt32) with z | z | z | z
 obtain rfl : ps = (0 : Int32) := e_ps.trans z
 refine o_iload K X4 at_69 rfl rfl ?_
 refine o_if_ne_f K X4 at_71 rfl (by decide) ?_
 refine o_iload K X4 at_74 rfl rfl ?_
 refine o_static K X4  (w0 hw) (w1 hw) (w2 hw) (w3 hw) (by decide) (rm_shelfChar l Z a0 hw i5 h0) (by decide) rfl (argsL := [.int i5]) rfl (lenOf pd11 rfl) (W := 0) rfl (by decide) (by decide) (by decide) at_76 rfl ?_
 intro v15 T15 h15 X15 U15
 obtain ⟨r_15, rfl, rfl, u15_1, u15_2, u15_3⟩ := U15
 show oGoes pp ee bb ss Z T15 (mkF mm 79 _ [.int r_15]) _ _ _
 refine o_istore K X15 at_79 rfl (L' := #[vI i0, vI i1, vI i2, vI i3, vI i4, vI i5, vI 1, vI 2, vI 0, vI r_1, vI r_2, vI r_3, vI r_4, vI r_15, vI r_2, vI r_3, vI r_4, vI 0, uS, uS, uS, uS]) rfl ?_
 refine o_iload K X15 at_81 rfl rfl ?_
 refine o_iload K X15 at_83 rfl rfl ?_
 by_cases c85_16 : r_15 = r_1
 refine o_icmp_eq_t K X15 at_85 (by decide) (pc' := 92) (by decide) c85_16 ?_
 refine o_iconst K X15 at_92 rfl (z := 0) rfl ?_
 refine o_istore K X15 at_93 rfl (L' := #[vI i0, vI i1, vI i2, vI i3, vI i4, vI i5, vI 1, vI 2, vI 0, vI r_1, vI r_2, vI r_3, vI r_4, vI r_15, vI r_2, vI r_3, vI r_4, vI 0, uS, uS, uS, uS]) rfl ?_
 refine o_goto K X15 at_95 (by decide) (pc' := 191) (by decide) ?_
 refine tl_lw120 l Z a0 hw i0 i1 i2 i3 i4 i5 0 r_1 r_2 r_3 r_4 r_15 r_2 r_3 r_4 fm cs h0 (by rw [c85_16]) u1_1 u2_1 u3_1 u4_1 u15_1 u2_1 u3_1 u4_1 u1_2 u2_2 u3_2 u4_2 u15_2 u2_2 u3_2 u4_2 u1_3 u2_3 u3_3 u4_3 u15_3 u2_3 u3_3 u4_3 q0 q1 q2 q3 (fun v17 h17 U17 => ?_) K (X15.mono (by decide) (by decide))
 obtain rfl : v17 = some (.int 1) := U17
 exact rfl
 refine o_icmp_eq_f K X15 at_85 rfl c85_16 ?_
 refine o_iconst K X15 at_88 rfl (z := 1) rfl ?_
 refine o_goto K X15 at_89 (by decide) (pc' := 93) (by decide) ?_
 refine o_istore K X15 at_93 rfl (L' := #[vI i0, vI i1, vI i2, vI i3, vI i4, vI i5, vI 1, vI 2, vI 0, vI r_1, vI r_2, vI r_3, vI r_4, vI r_15, vI r_2, vI r_3, vI r_4, vI 1, uS, uS, uS, uS]) rfl ?_
 refine o_goto K X15 at_95 (by decide) (pc' := 191) (by decide) ?_
 refine tl_lw121 l Z a0 hw i0 i1 i2 i3 i4 i5 0 r_1 r_2 r_3 r_4 r_15 r_2 r_3 r_4 fm cs h0 (fun e => c85_16 (by repeat (first | exact e.symm | replace e := oAr e | replace e := oM31 e | replace e := oAl e))) u1_1 u2_1 u3_1 u4_1 u15_1 u2_1 u3_1 u4_1 u1_2 u2_2 u3_2 u4_2 u15_2 u2_2 u3_2 u4_2 u1_3 u2_3 u3_3 u4_3 u15_3 u2_3 u3_3 u4_3 q0 q1 q2 q3 (fun v18 h18 U18 => ?_) K (X15.mono (by decide) (by decide))
 obtain rfl : v18 = some (.int 1) := U18
 exact rfl
 obtain rfl : ps = (1 : Int32) := e_ps.trans z
 refine o_iload K X4 at_69 rfl rfl ?_
 refine o_if_ne_t K X4 at_71 (by decide) (pc' := 98) (by decide) (by decide) ?_
 refine o_iload K X4 at_98 rfl rfl ?_
 refine o_iconst K X4 at_100 rfl (z := 1) rfl ?_
 refine o_icmp_ne_f K X4 at_101 rfl (by decide) ?_
 refine o_iload K X4 at_104 rfl rfl ?_
 refine o_iconst K X4 at_106 rfl (z := 2) rfl ?_
 refine o_icmp_ne_t K X4 at_107 (by decide) (pc' := 191) (by decide) (by decide) ?_
 refine tl_lw120 l Z a0 hw i0 i1 i2 i3 i4 i5 1 r_1 r_2 r_3 r_4 r_1 r_2 r_3 r_4 fm cs h0 rfl u1_1 u2_1 u3_1 u4_1 u1_1 u2_1 u3_1 u4_1 u1_2 u2_2 u3_2 u4_2 u1_2 u2_2 u3_2 u4_2 u1_3 u2_3 u3_3 u4_3 u1_3 u2_3 u3_3 u4_3 q0 q1 q2 q3 (fun v19 h19 U19 => ?_) K (X4.mono (by decide) (by decide))
 obtain rfl : v19 = some (.int 1) := U19
 exact rfl
 obtain rfl : ps = (2 : Int32) := e_ps.trans z
 refine o_iload K X4 at_69 rfl rfl ?_
 refine o_if_ne_t K X4 at_71 (by decide) (pc' := 98) (by decide) (by decide) ?_
 refine o_iload K X4 at_98 rfl rfl ?_
 refine o_iconst K X4 at_100 rfl (z := 1) rfl ?_
 refine o_icmp_ne_t K X4 at_101 (by decide) (pc' := 134) (by decide) (by decide) ?_
 refine o_iload K X4 at_134 rfl rfl ?_
 refine o_iconst K X4 at_136 rfl (z := 2) rfl ?_
 refine o_icmp_ne_f K X4 at_137 rfl (by decide) ?_
 refine o_iload K X4 at_140 rfl rfl ?_
 refine o_static K X4  (w5 hw) (w6 hw) (w2 hw) (w7 hw) (by decide) (rm_idChar l Z a0 hw i5 h0) (by decide) rfl (argsL := [.int i5]) rfl (lenOf pd11 rfl) (W := 0) rfl (by decide) (by decide) (by decide) at_142 rfl ?_
 intro v20 T20 h20 X20 U20
 obtain ⟨r_20, rfl, rfl, u20_1, u20_2, u20_3⟩ := U20
 show oGoes pp ee bb ss Z T20 (mkF mm 145 _ [.int r_20]) _ _ _
 refine o_istore K X20 at_145 rfl (L' := #[vI i0, vI i1, vI i2, vI i3, vI i4, vI i5, vI 1, vI 2, vI 2, vI r_1, vI r_2, vI r_3, vI r_4, vI r_1, vI r_2, vI r_20, vI r_4, vI 0, uS, uS, uS, uS]) rfl ?_
 refine o_iload K X20 at_147 rfl rfl ?_
 refine o_iload K X20 at_149 rfl rfl ?_
 by_cases c151_21 : r_20 = r_3
 refine o_icmp_eq_t K X20 at_151 (by decide) (pc' := 158) (by decide) c151_21 ?_
 refine o_iconst K X20 at_158 rfl (z := 0) rfl ?_
 refine o_istore K X20 at_159 rfl (L' := #[vI i0, vI i1, vI i2, vI i3, vI i4, vI i5, vI 1, vI 2, vI 2, vI r_1, vI r_2, vI r_3, vI r_4, vI r_1, vI r_2, vI r_20, vI r_4, vI 0, uS, uS, uS, uS]) rfl ?_
 refine o_goto K X20 at_161 (by decide) (pc' := 191) (by decide) ?_
 refine tl_lw120 l Z a0 hw i0 i1 i2 i3 i4 i5 2 r_1 r_2 r_3 r_4 r_1 r_2 r_20 r_4 fm cs h0 (by rw [c151_21]) u1_1 u2_1 u3_1 u4_1 u1_1 u2_1 u20_1 u4_1 u1_2 u2_2 u3_2 u4_2 u1_2 u2_2 u20_2 u4_2 u1_3 u2_3 u3_3 u4_3 u1_3 u2_3 u20_3 u4_3 q0 q1 q2 q3 (fun v22 h22 U22 => ?_) K (X20.mono (by decide) (by decide))
 obtain rfl : v22 = some (.int 1) := U22
 exact rfl
 refine o_icmp_eq_f K X20 at_151 rfl c151_21 ?_
 refine o_iconst K X20 at_154 rfl (z := 1) rfl ?_
 refine o_goto K X20 at_155 (by decide) (pc' := 159) (by decide) ?_
 refine o_istore K X20 at_159 rfl (L' := #[vI i0, vI i1, vI i2, vI i3, vI i4, vI i5, vI 1, vI 2, vI 2, vI r_1, vI r_2, vI r_3, vI r_4, vI r_1, vI r_2, vI r_20, vI r_4, vI 1, uS, uS, uS, uS]) rfl ?_
 refine o_goto K X20 at_161 (by decide) (pc' := 191) (by decide) ?_
 refine tl_lw121 l Z a0 hw i0 i1 i2 i3 i4 i5 2 r_1 r_2 r_3 r_4 r_1 r_2 r_20 r_4 fm cs h0 (fun e => c151_21 (by repeat (first | exact e.symm | replace e := oAr e | replace e := oM31 e | replace e := oAl e))) u1_1 u2_1 u3_1 u4_1 u1_1 u2_1 u20_1 u4_1 u1_2 u2_2 u3_2 u4_2 u1_2 u2_2 u20_2 u4_2 u1_3 u2_3 u3_3 u4_3 u1_3 u2_3 u20_3 u4_3 q0 q1 q2 q3 (fun v23 h23 U23 => ?_) K (X20.mono (by decide) (by decide))
 obtain rfl : v23 = some (.int 1) := U23
 exact rfl
 obtain rfl : ps = (3 : Int32) := e_ps.trans z
 refine o_iload K X4 at_69 rfl rfl ?_
 refine o_if_ne_t K X4 at_71 (by decide) (pc' := 98) (by decide) (by decide) ?_
 refine o_iload K X4 at_98 rfl rfl ?_
 refine o_iconst K X4 at_100 rfl (z := 1) rfl ?_
 refine o_icmp_ne_t K X4 at_101 (by decide) (pc' := 134) (by decide) (by decide) ?_
 refine o_iload K X4 at_134 rfl rfl ?_
 refine o_iconst K X4 at_136 rfl (z := 2) rfl ?_
 refine o_icmp_ne_t K X4 at_137 (by decide) (pc' := 164) (by decide) (by decide) ?_
 refine o_iload K X4 at_164 rfl rfl ?_
 refine o_iconst K X4 at_166 rfl (z := 2) rfl ?_
 refine o_icmp_ne_f K X4 at_167 rfl (by decide) ?_
 refine o_iload K X4 at_170 rfl rfl ?_
 refine o_static K X4  (w5 hw) (w6 hw) (w2 hw) (w7 hw) (by decide) (rm_idChar l Z a0 hw i5 h0) (by decide) rfl (argsL := [.int i5]) rfl (lenOf pd11 rfl) (W := 0) rfl (by decide) (by decide) (by decide) at_172 rfl ?_
 intro v24 T24 h24 X24 U24
 obtain ⟨r_24, rfl, rfl, u24_1, u24_2, u24_3⟩ := U24
 show oGoes pp ee bb ss Z T24 (mkF mm 175 _ [.int r_24]) _ _ _
 refine o_istore K X24 at_175 rfl (L' := #[vI i0, vI i1, vI i2, vI i3, vI i4, vI i5, vI 1, vI 2, vI 3, vI r_1, vI r_2, vI r_3, vI r_4, vI r_1, vI r_2, vI r_3, vI r_24, vI 0, uS, uS, uS, uS]) rfl ?_
 refine o_iload K X24 at_177 rfl rfl ?_
 refine o_iload K X24 at_179 rfl rfl ?_
 by_cases c181_25 : r_24 = r_4
 refine o_icmp_eq_t K X24 at_181 (by decide) (pc' := 188) (by decide) c181_25 ?_
 refine o_iconst K X24 at_188 rfl (z := 0) rfl ?_
 refine o_istore K X24 at_189 rfl (L' := #[vI i0, vI i1, vI i2, vI i3, vI i4, vI i5, vI 1, vI 2, vI 3, vI r_1, vI r_2, vI r_3, vI r_4, vI r_1, vI r_2, vI r_3, vI r_24, vI 0, uS, uS, uS, uS]) rfl ?_
 refine tl_lw120 l Z a0 hw i0 i1 i2 i3 i4 i5 3 r_1 r_2 r_3 r_4 r_1 r_2 r_3 r_24 fm cs h0 (by rw [c181_25]) u1_1 u2_1 u3_1 u4_1 u1_1 u2_1 u3_1 u24_1 u1_2 u2_2 u3_2 u4_2 u1_2 u2_2 u3_2 u24_2 u1_3 u2_3 u3_3 u4_3 u1_3 u2_3 u3_3 u24_3 q0 q1 q2 q3 (fun v26 h26 U26 => ?_) K (X24.mono (by decide) (by decide))
 obtain rfl : v26 = some (.int 1) := U26
 exact rfl
 refine o_icmp_eq_f K X24 at_181 rfl c181_25 ?_
 refine o_iconst K X24 at_184 rfl (z := 1) rfl ?_
 refine o_goto K X24 at_185 (by decide) (pc' := 189) (by decide) ?_
 refine o_istore K X24 at_189 rfl (L' := #[vI i0, vI i1, vI i2, vI i3, vI i4, vI i5, vI 1, vI 2, vI 3, vI r_1, vI r_2, vI r_3, vI r_4, vI r_1, vI r_2, vI r_3, vI r_24, vI 1, uS, uS, uS, uS]) rfl ?_
 refine tl_lw121 l Z a0 hw i0 i1 i2 i3 i4 i5 3 r_1 r_2 r_3 r_4 r_1 r_2 r_3 r_24 fm cs h0 (fun e => c181_25 (by repeat (first | exact e.symm | replace e := oAr e | replace e := oM31 e | replace e := oAl e))) u1_1 u2_1 u3_1 u4_1 u1_1 u2_1 u3_1 u24_1 u1_2 u2_2 u3_2 u4_2 u1_2 u2_2 u3_2 u24_2 u1_3 u2_3 u3_3 u4_3 u1_3 u2_3 u3_3 u24_3 q0 q1 q2 q3 (fun v27 h27 U27 => ?_) K (X24.mono (by decide) (by decide))
 obtain rfl : v27 = some (.int 1) := U27
 exact rfl
 obtain rfl : sl = (2 : Int32) := e_sl.trans (by rw [z]; decide)
 rcases oAnd1 ((i4.toUInt32 >>> ((1 : Int32) &&& 31).toUInt32).toInt32) with z | z
 obtain rfl : il = (1 : Int32) := e_il.trans (by rw [z]; decide)
 rcases oAnd3 ((i4.toUInt32 >>> ((2 : Int32) &&& 31).toUInt32).toInt32) with z | z | z | z
 obtain rfl : ps = (0 : Int32) := e_ps.trans z
 refine o_iload K X4 at_69 rfl rfl ?_
 refine o_if_ne_f K X4 at_71 rfl (by decide) ?_
 refine o_iload K X4 at_74 rfl rfl ?_
 refine o_static K X4  (w0 hw) (w1 hw) (w2 hw) (w3 hw) (by decide) (rm_shelfChar l Z a0 hw i5 h0) (by decide) rfl (argsL := [.int i5]) rfl (lenOf pd11 rfl) (W := 0) rfl (by decide) (by decide) (by decide) at_76 rfl ?_
 intro v28 T28 h28 X28 U28
 obtain ⟨r_28, rfl, rfl, u28_1, u28_2, u28_3⟩ := U28
 show oGoes pp ee bb ss Z T28 (mkF mm 79 _ [.int r_28]) _ _ _
 refine o_istore K X28 at_79 rfl (L' := #[vI i0, vI i1, vI i2, vI i3, vI i4, vI i5, vI 2, vI 1, vI 0, vI r_1, vI r_2, vI r_3, vI r_4, vI r_28, vI r_2, vI r_3, vI r_4, vI 0, uS, uS, uS, uS]) rfl ?_
 refine o_iload K X28 at_81 rfl rfl ?_
 refine o_iload K X28 at_83 rfl rfl ?_
 by_cases c85_29 : r_28 = r_1
 refine o_icmp_eq_t K X28 at_85 (by decide) (pc' := 92) (by decide) c85_29 ?_
 refine o_iconst K X28 at_92 rfl (z := 0) rfl ?_
 refine o_istore K X28 at_93 rfl (L' := #[vI i0, vI i1, vI i2, vI i3, vI i4, vI i5, vI 2, vI 1, vI 0, vI r_1, vI r_2, vI r_3, vI r_4, vI r_28, vI r_2, vI r_3, vI r_4, vI 0, uS, uS, uS, uS]) rfl ?_
 refine o_goto K X28 at_95 (by decide) (pc' := 191) (by decide) ?_
 refine tl_lw210 l Z a0 hw i0 i1 i2 i3 i4 i5 0 r_1 r_2 r_3 r_4 r_28 r_2 r_3 r_4 fm cs h0 (by rw [c85_29]) u1_1 u2_1 u3_1 u4_1 u28_1 u2_1 u3_1 u4_1 u1_2 u2_2 u3_2 u4_2 u28_2 u2_2 u3_2 u4_2 u1_3 u2_3 u3_3 u4_3 u28_3 u2_3 u3_3 u4_3 q0 q1 q2 q3 (fun v30 h30 U30 => ?_) K (X28.mono (by decide) (by decide))
 obtain rfl : v30 = some (.int 1) := U30
 exact rfl
 refine o_icmp_eq_f K X28 at_85 rfl c85_29 ?_
 refine o_iconst K X28 at_88 rfl (z := 1) rfl ?_
 refine o_goto K X28 at_89 (by decide) (pc' := 93) (by decide) ?_
 refine o_istore K X28 at_93 rfl (L' := #[vI i0, vI i1, vI i2, vI i3, vI i4, vI i5, vI 2, vI 1, vI 0, vI r_1, vI r_2, vI r_3, vI r_4, vI r_28, vI r_2, vI r_3, vI r_4, vI 1, uS, uS, uS, uS]) rfl ?_
 refine o_goto K X28 at_95 (by decide) (pc' := 191) (by decide) ?_
 refine tl_lw211 l Z a0 hw i0 i1 i2 i3 i4 i5 0 r_1 r_2 r_3 r_4 r_28 r_2 r_3 r_4 fm cs h0 (fun e => c85_29 (by repeat (first | exact e.symm | replace e := oAr e | replace e := oM31 e | replace e := oAl e))) u1_1 u2_1 u3_1 u4_1 u28_1 u2_1 u3_1 u4_1 u1_2 u2_2 u3_2 u4_2 u28_2 u2_2 u3_2 u4_2 u1_3 u2_3 u3_3 u4_3 u28_3 u2_3 u3_3 u4_3 q0 q1 q2 q3 (fun v31 h31 U31 => ?_) K (X28.mono (by decide) (by decide))
 obtain rfl : v31 = some (.int 1) := U31
 exact rfl
 obtain rfl : ps = (1 : Int32) := e_ps.trans z
 refine o_iload K X4 at_69 rfl rfl ?_
 refine o_if_ne_t K X4 at_71 (by decide) (pc' := 98) (by decide) (by decide) ?_
 refine o_iload K X4 at_98 rfl rfl ?_
 refine o_iconst K X4 at_100 rfl (z := 1) rfl ?_
 refine o_icmp_ne_f K X4 at_101 rfl (by decide) ?_
 refine o_iload K X4 at_104 rfl rfl ?_
 refine o_iconst K X4 at_106 rfl (z := 2) rfl ?_
 refine o_icmp_ne_f K X4 at_107 rfl (by decide) ?_
 refine o_iload K X4 at_110 rfl rfl ?_
 refine o_static K X4  (w0 hw) (w1 hw) (w2 hw) (w3 hw) (by decide) (rm_shelfChar l Z a0 hw i5 h0) (by decide) rfl (argsL := [.int i5]) rfl (lenOf pd11 rfl) (W := 0) rfl (by decide) (by decide) (by decide) at_112 rfl ?_
 intro v32 T32 h32 X32 U32
 obtain ⟨r_32, rfl, rfl, u32_1, u32_2, u32_3⟩ := U32
 show oGoes pp ee bb ss Z T32 (mkF mm 115 _ [.int r_32]) _ _ _
 refine o_istore K X32 at_115 rfl (L' := #[vI i0, vI i1, vI i2, vI i3, vI i4, vI i5, vI 2, vI 1, vI 1, vI r_1, vI r_2, vI r_3, vI r_4, vI r_1, vI r_32, vI r_3, vI r_4, vI 0, uS, uS, uS, uS]) rfl ?_
 refine o_iload K X32 at_117 rfl rfl ?_
 refine o_iload K X32 at_119 rfl rfl ?_
 by_cases c121_33 : r_32 = r_2
 refine o_icmp_eq_t K X32 at_121 (by decide) (pc' := 128) (by decide) c121_33 ?_
 refine o_iconst K X32 at_128 rfl (z := 0) rfl ?_
 refine o_istore K X32 at_129 rfl (L' := #[vI i0, vI i1, vI i2, vI i3, vI i4, vI i5, vI 2, vI 1, vI 1, vI r_1, vI r_2, vI r_3, vI r_4, vI r_1, vI r_32, vI r_3, vI r_4, vI 0, uS, uS, uS, uS]) rfl ?_
 refine o_goto K X32 at_131 (by decide) (pc' := 191) (by decide) ?_
 refine tl_lw210 l Z a0 hw i0 i1 i2 i3 i4 i5 1 r_1 r_2 r_3 r_4 r_1 r_32 r_3 r_4 fm cs h0 (by rw [c121_33]) u1_1 u2_1 u3_1 u4_1 u1_1 u32_1 u3_1 u4_1 u1_2 u2_2 u3_2 u4_2 u1_2 u32_2 u3_2 u4_2 u1_3 u2_3 u3_3 u4_3 u1_3 u32_3 u3_3 u4_3 q0 q1 q2 q3 (fun v34 h34 U34 => ?_) K (X32.mono (by decide) (by decide))
 obtain rfl : v34 = some (.int 1) := U34
 exact rfl
 refine o_icmp_eq_f K X32 at_121 rfl c121_33 ?_
 refine o_iconst K X32 at_124 rfl (z := 1) rfl ?_
 refine o_goto K X32 at_125 (by decide) (pc' := 129) (by decide) ?_
 refine o_istore K X32 at_129 rfl (L' := #[vI i0, vI i1, vI i2, vI i3, vI i4, vI i5, vI 2, vI 1, vI 1, vI r_1, vI r_2, vI r_3, vI r_4, vI r_1, vI r_32, vI r_3, vI r_4, vI 1, uS, uS, uS, uS]) rfl ?_
 refine o_goto K X32 at_131 (by decide) (pc' := 191) (by decide) ?_
 refine tl_lw211 l Z a0 hw i0 i1 i2 i3 i4 i5 1 r_1 r_2 r_3 r_4 r_1 r_32 r_3 r_4 fm cs h0 (fun e => c121_33 (by repeat (first | exact e.symm | replace e := oAr e | replace e := oM31 e | replace e := oAl e))) u1_1 u2_1 u3_1 u4_1 u1_1 u32_1 u3_1 u4_1 u1_2 u2_2 u3_2 u4_2 u1_2 u32_2 u3_2 u4_2 u1_3 u2_3 u3_3 u4_3 u1_3 u32_3 u3_3 u4_3 q0 q1 q2 q3 (fun v35 h35 U35 => ?_) K (X32.mono (by decide) (by decide))
 obtain rfl : v35 = some (.int 1) := U35
 exact rfl
 obtain rfl : ps = (2 : Int32) := e_ps.trans z
 refine o_iload K X4 at_69 rfl rfl ?_
 refine o_if_ne_t K X4 at_71 (by decide) (pc' := 98) (by decide) (by decide) ?_
 refine o_iload K X4 at_98 rfl rfl ?_
 refine o_iconst K X4 at_100 rfl (z := 1) rfl ?_
 refine o_icmp_ne_t K X4 at_101 (by decide) (pc' := 134) (by decide) (by decide) ?_
 refine o_iload K X4 at_134 rfl rfl ?_
 refine o_iconst K X4 at_136 rfl (z := 2) rfl ?_
 refine o_icmp_ne_f K X4 at_137 rfl (by decide) ?_
 refine o_iload K X4 at_140 rfl rfl ?_
 refine o_static K X4  (w5 hw) (w6 hw) (w2 hw) (w7 hw) (by decide) (rm_idChar l Z a0 hw i5 h0) (by decide) rfl (argsL := [.int i5]) rfl (lenOf pd11 rfl) (W := 0) rfl (by decide) (by decide) (by decide) at_142 rfl ?_
 intro v36 T36 h36 X36 U36
 obtain ⟨r_36, rfl, rfl, u36_1, u36_2, u36_3⟩ := U36
 show oGoes pp ee bb ss Z T36 (mkF mm 145 _ [.int r_36]) _ _ _
 refine o_istore K X36 at_145 rfl (L' := #[vI i0, vI i1, vI i2, vI i3, vI i4, vI i5, vI 2, vI 1, vI 2, vI r_1, vI r_2, vI r_3, vI r_4, vI r_1, vI r_2, vI r_36, vI r_4, vI 0, uS, uS, uS, uS]) rfl ?_
 refine o_iload K X36 at_147 rfl rfl ?_
 refine o_iload K X36 at_149 rfl rfl ?_
 by_cases c151_37 : r_36 = r_3
 refine o_icmp_eq_t K X36 at_151 (by decide) (pc' := 158) (by decide) c151_37 ?_
 refine o_iconst K X36 at_158 rfl (z := 0) rfl ?_
 refine o_istore K X36 at_159 rfl (L' := #[vI i0, vI i1, vI i2, vI i3, vI i4, vI i5, vI 2, vI 1, vI 2, vI r_1, vI r_2, vI r_3, vI r_4, vI r_1, vI r_2, vI r_36, vI r_4, vI 0, uS, uS, uS, uS]) rfl ?_
 refine o_goto K X36 at_161 (by decide) (pc' := 191) (by decide) ?_
 refine tl_lw210 l Z a0 hw i0 i1 i2 i3 i4 i5 2 r_1 r_2 r_3 r_4 r_1 r_2 r_36 r_4 fm cs h0 (by rw [c151_37]) u1_1 u2_1 u3_1 u4_1 u1_1 u2_1 u36_1 u4_1 u1_2 u2_2 u3_2 u4_2 u1_2 u2_2 u36_2 u4_2 u1_3 u2_3 u3_3 u4_3 u1_3 u2_3 u36_3 u4_3 q0 q1 q2 q3 (fun v38 h38 U38 => ?_) K (X36.mono (by decide) (by decide))
 obtain rfl : v38 = some (.int 1) := U38
 exact rfl
 refine o_icmp_eq_f K X36 at_151 rfl c151_37 ?_
 refine o_iconst K X36 at_154 rfl (z := 1) rfl ?_
 refine o_goto K X36 at_155 (by decide) (pc' := 159) (by decide) ?_
 refine o_istore K X36 at_159 rfl (L' := #[vI i0, vI i1, vI i2, vI i3, vI i4, vI i5, vI 2, vI 1, vI 2, vI r_1, vI r_2, vI r_3, vI r_4, vI r_1, vI r_2, vI r_36, vI r_4, vI 1, uS, uS, uS, uS]) rfl ?_
 refine o_goto K X36 at_161 (by decide) (pc' := 191) (by decide) ?_
 refine tl_lw211 l Z a0 hw i0 i1 i2 i3 i4 i5 2 r_1 r_2 r_3 r_4 r_1 r_2 r_36 r_4 fm cs h0 (fun e => c151_37 (by repeat (first | exact e.symm | replace e := oAr e | replace e := oM31 e | replace e := oAl e))) u1_1 u2_1 u3_1 u4_1 u1_1 u2_1 u36_1 u4_1 u1_2 u2_2 u3_2 u4_2 u1_2 u2_2 u36_2 u4_2 u1_3 u2_3 u3_3 u4_3 u1_3 u2_3 u36_3 u4_3 q0 q1 q2 q3 (fun v39 h39 U39 => ?_) K (X36.mono (by decide) (by decide))
 obtain rfl : v39 = some (.int 1) := U39
 exact rfl
 obtain rfl : ps = (3 : Int32) := e_ps.trans z
 refine o_iload K X4 at_69 rfl rfl ?_
 refine o_if_ne_t K X4 at_71 (by decide) (pc' := 98) (by decide) (by decide) ?_
 refine o_iload K X4 at_98 rfl rfl ?_
 refine o_iconst K X4 at_100 rfl (z := 1) rfl ?_
 refine o_icmp_ne_t K X4 at_101 (by decide) (pc' := 134) (by decide) (by decide) ?_
 refine o_iload K X4 at_134 rfl rfl ?_
 refine o_iconst K X4 at_136 rfl (z := 2) rfl ?_
 refine o_icmp_ne_t K X4 at_137 (by decide) (pc' := 164) (by decide) (by decide) ?_
 refine o_iload K X4 at_164 rfl rfl ?_
 refine o_iconst K X4 at_166 rfl (z := 2) rfl ?_
 refine o_icmp_ne_t K X4 at_167 (by decide) (pc' := 191) (by decide) (by decide) ?_
 refine tl_lw210 l Z a0 hw i0 i1 i2 i3 i4 i5 3 r_1 r_2 r_3 r_4 r_1 r_2 r_3 r_4 fm cs h0 rfl u1_1 u2_1 u3_1 u4_1 u1_1 u2_1 u3_1 u4_1 u1_2 u2_2 u3_2 u4_2 u1_2 u2_2 u3_2 u4_2 u1_3 u2_3 u3_3 u4_3 u1_3 u2_3 u3_3 u4_3 q0 q1 q2 q3 (fun v40 h40 U40 => ?_) K (X4.mono (by decide) (by decide))
 obtain rfl : v40 = some (.int 1) := U40
 exact rfl
 obtain rfl : il = (2 : Int32) := e_il.trans (by rw [z]; decide)
 rcases oAnd3 ((i4.toUInt32 >>> ((2 : Int32) &&& 31).toUInt32).toInt32) with z | z | z | z
 obtain rfl : ps = (0 : Int32) := e_ps.trans z
 refine o_iload K X4 at_69 rfl rfl ?_
 refine o_if_ne_f K X4 at_71 rfl (by decide) ?_
 refine o_iload K X4 at_74 rfl rfl ?_
 refine o_static K X4  (w0 hw) (w1 hw) (w2 hw) (w3 hw) (by decide) (rm_shelfChar l Z a0 hw i5 h0) (by decide) rfl (argsL := [.int i5]) rfl (lenOf pd11 rfl) (W := 0) rfl (by decide) (by decide) (by decide) at_76 rfl ?_
 intro v41 T41 h41 X41 U41
 obtain ⟨r_41, rfl, rfl, u41_1, u41_2, u41_3⟩ := U41
 show oGoes pp ee bb ss Z T41 (mkF mm 79 _ [.int r_41]) _ _ _
 refine o_istore K X41 at_79 rfl (L' := #[vI i0, vI i1, vI i2, vI i3, vI i4, vI i5, vI 2, vI 2, vI 0, vI r_1, vI r_2, vI r_3, vI r_4, vI r_41, vI r_2, vI r_3, vI r_4, vI 0, uS, uS, uS, uS]) rfl ?_
 refine o_iload K X41 at_81 rfl rfl ?_
 refine o_iload K X41 at_83 rfl rfl ?_
 by_cases c85_42 : r_41 = r_1
 refine o_icmp_eq_t K X41 at_85 (by decide) (pc' := 92) (by decide) c85_42 ?_
 refine o_iconst K X41 at_92 rfl (z := 0) rfl ?_
 refine o_istore K X41 at_93 rfl (L' := #[vI i0, vI i1, vI i2, vI i3, vI i4, vI i5, vI 2, vI 2, vI 0, vI r_1, vI r_2, vI r_3, vI r_4, vI r_41, vI r_2, vI r_3, vI r_4, vI 0, uS, uS, uS, uS]) rfl ?_
 refine o_goto K X41 at_95 (by decide) (pc' := 191) (by decide) ?_
 refine tl_lw220 l Z a0 hw i0 i1 i2 i3 i4 i5 0 r_1 r_2 r_3 r_4 r_41 r_2 r_3 r_4 fm cs h0 (by rw [c85_42]) u1_1 u2_1 u3_1 u4_1 u41_1 u2_1 u3_1 u4_1 u1_2 u2_2 u3_2 u4_2 u41_2 u2_2 u3_2 u4_2 u1_3 u2_3 u3_3 u4_3 u41_3 u2_3 u3_3 u4_3 q0 q1 q2 q3 (fun v43 h43 U43 => ?_) K (X41.mono (by decide) (by decide))
 obtain rfl : v43 = some (.int 1) := U43
 exact rfl
 refine o_icmp_eq_f K X41 at_85 rfl c85_42 ?_
 refine o_iconst K X41 at_88 rfl (z := 1) rfl ?_
 refine o_goto K X41 at_89 (by decide) (pc' := 93) (by decide) ?_
 refine o_istore K X41 at_93 rfl (L' := #[vI i0, vI i1, vI i2, vI i3, vI i4, vI i5, vI 2, vI 2, vI 0, vI r_1, vI r_2, vI r_3, vI r_4, vI r_41, vI r_2, vI r_3, vI r_4, vI 1, uS, uS, uS, uS]) rfl ?_
 refine o_goto K X41 at_95 (by decide) (pc' := 191) (by decide) ?_
 refine tl_lw221 l Z a0 hw i0 i1 i2 i3 i4 i5 0 r_1 r_2 r_3 r_4 r_41 r_2 r_3 r_4 fm cs h0 (fun e => c85_42 (by repeat (first | exact e.symm | replace e := oAr e | replace e := oM31 e | replace e := oAl e))) u1_1 u2_1 u3_1 u4_1 u41_1 u2_1 u3_1 u4_1 u1_2 u2_2 u3_2 u4_2 u41_2 u2_2 u3_2 u4_2 u1_3 u2_3 u3_3 u4_3 u41_3 u2_3 u3_3 u4_3 q0 q1 q2 q3 (fun v44 h44 U44 => ?_) K (X41.mono (by decide) (by decide))
 obtain rfl : v44 = some (.int 1) := U44
 exact rfl
 obtain rfl : ps = (1 : Int32) := e_ps.trans z
 refine o_iload K X4 at_69 rfl rfl ?_
 refine o_if_ne_t K X4 at_71 (by decide) (pc' := 98) (by decide) (by decide) ?_
 refine o_iload K X4 at_98 rfl rfl ?_
 refine o_iconst K X4 at_100 rfl (z := 1) rfl ?_
 refine o_icmp_ne_f K X4 at_101 rfl (by decide) ?_
 refine o_iload K X4 at_104 rfl rfl ?_
 refine o_iconst K X4 at_106 rfl (z := 2) rfl ?_
 refine o_icmp_ne_f K X4 at_107 rfl (by decide) ?_
 refine o_iload K X4 at_110 rfl rfl ?_
 refine o_static K X4  (w0 hw) (w1 hw) (w2 hw) (w3 hw) (by decide) (rm_shelfChar l Z a0 hw i5 h0) (by decide) rfl (argsL := [.int i5]) rfl (lenOf pd11 rfl) (W := 0) rfl (by decide) (by decide) (by decide) at_112 rfl ?_
 intro v45 T45 h45 X45 U45
 obtain ⟨r_45, rfl, rfl, u45_1, u45_2, u45_3⟩ := U45
 show oGoes pp ee bb ss Z T45 (mkF mm 115 _ [.int r_45]) _ _ _
 refine o_istore K X45 at_115 rfl (L' := #[vI i0, vI i1, vI i2, vI i3, vI i4, vI i5, vI 2, vI 2, vI 1, vI r_1, vI r_2, vI r_3, vI r_4, vI r_1, vI r_45, vI r_3, vI r_4, vI 0, uS, uS, uS, uS]) rfl ?_
 refine o_iload K X45 at_117 rfl rfl ?_
 refine o_iload K X45 at_119 rfl rfl ?_
 by_cases c121_46 : r_45 = r_2
 refine o_icmp_eq_t K X45 at_121 (by decide) (pc' := 128) (by decide) c121_46 ?_
 refine o_iconst K X45 at_128 rfl (z := 0) rfl ?_
 refine o_istore K X45 at_129 rfl (L' := #[vI i0, vI i1, vI i2, vI i3, vI i4, vI i5, vI 2, vI 2, vI 1, vI r_1, vI r_2, vI r_3, vI r_4, vI r_1, vI r_45, vI r_3, vI r_4, vI 0, uS, uS, uS, uS]) rfl ?_
 refine o_goto K X45 at_131 (by decide) (pc' := 191) (by decide) ?_
 refine tl_lw220 l Z a0 hw i0 i1 i2 i3 i4 i5 1 r_1 r_2 r_3 r_4 r_1 r_45 r_3 r_4 fm cs h0 (by rw [c121_46]) u1_1 u2_1 u3_1 u4_1 u1_1 u45_1 u3_1 u4_1 u1_2 u2_2 u3_2 u4_2 u1_2 u45_2 u3_2 u4_2 u1_3 u2_3 u3_3 u4_3 u1_3 u45_3 u3_3 u4_3 q0 q1 q2 q3 (fun v47 h47 U47 => ?_) K (X45.mono (by decide) (by decide))
 obtain rfl : v47 = some (.int 1) := U47
 exact rfl
 refine o_icmp_eq_f K X45 at_121 rfl c121_46 ?_
 refine o_iconst K X45 at_124 rfl (z := 1) rfl ?_
 refine o_goto K X45 at_125 (by decide) (pc' := 129) (by decide) ?_
 refine o_istore K X45 at_129 rfl (L' := #[vI i0, vI i1, vI i2, vI i3, vI i4, vI i5, vI 2, vI 2, vI 1, vI r_1, vI r_2, vI r_3, vI r_4, vI r_1, vI r_45, vI r_3, vI r_4, vI 1, uS, uS, uS, uS]) rfl ?_
 refine o_goto K X45 at_131 (by decide) (pc' := 191) (by decide) ?_
 refine tl_lw221 l Z a0 hw i0 i1 i2 i3 i4 i5 1 r_1 r_2 r_3 r_4 r_1 r_45 r_3 r_4 fm cs h0 (fun e => c121_46 (by repeat (first | exact e.symm | replace e := oAr e | replace e := oM31 e | replace e := oAl e))) u1_1 u2_1 u3_1 u4_1 u1_1 u45_1 u3_1 u4_1 u1_2 u2_2 u3_2 u4_2 u1_2 u45_2 u3_2 u4_2 u1_3 u2_3 u3_3 u4_3 u1_3 u45_3 u3_3 u4_3 q0 q1 q2 q3 (fun v48 h48 U48 => ?_) K (X45.mono (by decide) (by decide))
 obtain rfl : v48 = some (.int 1) := U48
 exact rfl
 obtain rfl : ps = (2 : Int32) := e_ps.trans z
 refine o_iload K X4 at_69 rfl rfl ?_
 refine o_if_ne_t K X4 at_71 (by decide) (pc' := 98) (by decide) (by decide) ?_
 refine o_iload K X4 at_98 rfl rfl ?_
 refine o_iconst K X4 at_100 rfl (z := 1) rfl ?_
 refine o_icmp_ne_t K X4 at_101 (by decide) (pc' := 134) (by decide) (by decide) ?_
 refine o_iload K X4 at_134 rfl rfl ?_
 refine o_iconst K X4 at_136 rfl (z := 2) rfl ?_
 refine o_icmp_ne_f K X4 at_137 rfl (by decide) ?_
 refine o_iload K X4 at_140 rfl rfl ?_
 refine o_static K X4  (w5 hw) (w6 hw) (w2 hw) (w7 hw) (by decide) (rm_idChar l Z a0 hw i5 h0) (by decide) rfl (argsL := [.int i5]) rfl (lenOf pd11 rfl) (W := 0) rfl (by decide) (by decide) (by decide) at_142 rfl ?_
 intro v49 T49 h49 X49 U49
 obtain ⟨r_49, rfl, rfl, u49_1, u49_2, u49_3⟩ := U49
 show oGoes pp ee bb ss Z T49 (mkF mm 145 _ [.int r_49]) _ _ _
 refine o_istore K X49 at_145 rfl (L' := #[vI i0, vI i1, vI i2, vI i3, vI i4, vI i5, vI 2, vI 2, vI 2, vI r_1, vI r_2, vI r_3, vI r_4, vI r_1, vI r_2, vI r_49, vI r_4, vI 0, uS, uS, uS, uS]) rfl ?_
 refine o_iload K X49 at_147 rfl rfl ?_
 refine o_iload K X49 at_149 rfl rfl ?_
 by_cases c151_50 : r_49 = r_3
 refine o_icmp_eq_t K X49 at_151 (by decide) (pc' := 158) (by decide) c151_50 ?_
 refine o_iconst K X49 at_158 rfl (z := 0) rfl ?_
 refine o_istore K X49 at_159 rfl (L' := #[vI i0, vI i1, vI i2, vI i3, vI i4, vI i5, vI 2, vI 2, vI 2, vI r_1, vI r_2, vI r_3, vI r_4, vI r_1, vI r_2, vI r_49, vI r_4, vI 0, uS, uS, uS, uS]) rfl ?_
 refine o_goto K X49 at_161 (by decide) (pc' := 191) (by decide) ?_
 refine tl_lw220 l Z a0 hw i0 i1 i2 i3 i4 i5 2 r_1 r_2 r_3 r_4 r_1 r_2 r_49 r_4 fm cs h0 (by rw [c151_50]) u1_1 u2_1 u3_1 u4_1 u1_1 u2_1 u49_1 u4_1 u1_2 u2_2 u3_2 u4_2 u1_2 u2_2 u49_2 u4_2 u1_3 u2_3 u3_3 u4_3 u1_3 u2_3 u49_3 u4_3 q0 q1 q2 q3 (fun v51 h51 U51 => ?_) K (X49.mono (by decide) (by decide))
 obtain rfl : v51 = some (.int 1) := U51
 exact rfl
 refine o_icmp_eq_f K X49 at_151 rfl c151_50 ?_
 refine o_iconst K X49 at_154 rfl (z := 1) rfl ?_
 refine o_goto K X49 at_155 (by decide) (pc' := 159) (by decide) ?_
 refine o_istore K X49 at_159 rfl (L' := #[vI i0, vI i1, vI i2, vI i3, vI i4, vI i5, vI 2, vI 2, vI 2, vI r_1, vI r_2, vI r_3, vI r_4, vI r_1, vI r_2, vI r_49, vI r_4, vI 1, uS, uS, uS, uS]) rfl ?_
 refine o_goto K X49 at_161 (by decide) (pc' := 191) (by decide) ?_
 refine tl_lw221 l Z a0 hw i0 i1 i2 i3 i4 i5 2 r_1 r_2 r_3 r_4 r_1 r_2 r_49 r_4 fm cs h0 (fun e => c151_50 (by repeat (first | exact e.symm | replace e := oAr e | replace e := oM31 e | replace e := oAl e))) u1_1 u2_1 u3_1 u4_1 u1_1 u2_1 u49_1 u4_1 u1_2 u2_2 u3_2 u4_2 u1_2 u2_2 u49_2 u4_2 u1_3 u2_3 u3_3 u4_3 u1_3 u2_3 u49_3 u4_3 q0 q1 q2 q3 (fun v52 h52 U52 => ?_) K (X49.mono (by decide) (by decide))
 obtain rfl : v52 = some (.int 1) := U52
 exact rfl
 obtain rfl : ps = (3 : Int32) := e_ps.trans z
 refine o_iload K X4 at_69 rfl rfl ?_
 refine o_if_ne_t K X4 at_71 (by decide) (pc' := 98) (by decide) (by decide) ?_
 refine o_iload K X4 at_98 rfl rfl ?_
 refine o_iconst K X4 at_100 rfl (z := 1) rfl ?_
 refine o_icmp_ne_t K X4 at_101 (by decide) (pc' := 134) (by decide) (by decide) ?_
 refine o_iload K X4 at_134 rfl rfl ?_
 refine o_iconst K X4 at_136 rfl (z := 2) rfl ?_
 refine o_icmp_ne_t K X4 at_137 (by decide) (pc' := 164) (by decide) (by decide) ?_
 refine o_iload K X4 at_164 rfl rfl ?_
 refine o_iconst K X4 at_166 rfl (z := 2) rfl ?_
 refine o_icmp_ne_f K X4 at_167 rfl (by decide) ?_
 refine o_iload K X4 at_170 rfl rfl ?_
 refine o_static K X4  (w5 hw) (w6 hw) (w2 hw) (w7 hw) (by decide) (rm_idChar l Z a0 hw i5 h0) (by decide) rfl (argsL := [.int i5]) rfl (lenOf pd11 rfl) (W := 0) rfl (by decide) (by decide) (by decide) at_172 rfl ?_
 intro v53 T53 h53 X53 U53
 obtain ⟨r_53, rfl, rfl, u53_1, u53_2, u53_3⟩ := U53
 show oGoes pp ee bb ss Z T53 (mkF mm 175 _ [.int r_53]) _ _ _
 refine o_istore K X53 at_175 rfl (L' := #[vI i0, vI i1, vI i2, vI i3, vI i4, vI i5, vI 2, vI 2, vI 3, vI r_1, vI r_2, vI r_3, vI r_4, vI r_1, vI r_2, vI r_3, vI r_53, vI 0, uS, uS, uS, uS]) rfl ?_
 refine o_iload K X53 at_177 rfl rfl ?_
 refine o_iload K X53 at_179 rfl rfl ?_
 by_cases c181_54 : r_53 = r_4
 refine o_icmp_eq_t K X53 at_181 (by decide) (pc' := 188) (by decide) c181_54 ?_
 refine o_iconst K X53 at_188 rfl (z := 0) rfl ?_
 refine o_istore K X53 at_189 rfl (L' := #[vI i0, vI i1, vI i2, vI i3, vI i4, vI i5, vI 2, vI 2, vI 3, vI r_1, vI r_2, vI r_3, vI r_4, vI r_1, vI r_2, vI r_3, vI r_53, vI 0, uS, uS, uS, uS]) rfl ?_
 refine tl_lw220 l Z a0 hw i0 i1 i2 i3 i4 i5 3 r_1 r_2 r_3 r_4 r_1 r_2 r_3 r_53 fm cs h0 (by rw [c181_54]) u1_1 u2_1 u3_1 u4_1 u1_1 u2_1 u3_1 u53_1 u1_2 u2_2 u3_2 u4_2 u1_2 u2_2 u3_2 u53_2 u1_3 u2_3 u3_3 u4_3 u1_3 u2_3 u3_3 u53_3 q0 q1 q2 q3 (fun v55 h55 U55 => ?_) K (X53.mono (by decide) (by decide))
 obtain rfl : v55 = some (.int 1) := U55
 exact rfl
 refine o_icmp_eq_f K X53 at_181 rfl c181_54 ?_
 refine o_iconst K X53 at_184 rfl (z := 1) rfl ?_
 refine o_goto K X53 at_185 (by decide) (pc' := 189) (by decide) ?_
 refine o_istore K X53 at_189 rfl (L' := #[vI i0, vI i1, vI i2, vI i3, vI i4, vI i5, vI 2, vI 2, vI 3, vI r_1, vI r_2, vI r_3, vI r_4, vI r_1, vI r_2, vI r_3, vI r_53, vI 1, uS, uS, uS, uS]) rfl ?_
 refine tl_lw221 l Z a0 hw i0 i1 i2 i3 i4 i5 3 r_1 r_2 r_3 r_4 r_1 r_2 r_3 r_53 fm cs h0 (fun e => c181_54 (by repeat (first | exact e.symm | replace e := oAr e | replace e := oM31 e | replace e := oAl e))) u1_1 u2_1 u3_1 u4_1 u1_1 u2_1 u3_1 u53_1 u1_2 u2_2 u3_2 u4_2 u1_2 u2_2 u3_2 u53_2 u1_3 u2_3 u3_3 u4_3 u1_3 u2_3 u3_3 u53_3 q0 q1 q2 q3 (fun v56 h56 U56 => ?_) K (X53.mono (by decide) (by decide))
 obtain rfl : v56 = some (.int 1) := U56
 exact rfl
set_option maxRecDepth 65536 in
set_option maxHeartbeats 40000000 in
theorem comes_1 {Post : Tables → Env → Array Value → State → Outcome → State → Prop} (hpost : ∀ tb e args s v u, (limb_1_1.after args s (.returned v) u = true ∧ limb_1_2.after args s (.returned v) u = true ∧ True) → FrameEnd s (.returned v) u (Jvm.fieldLocs frame_1_writes args s ++ Jvm.arrayLocs frame_1_arrays args s ++ Jvm.staticLocs frame_1_statics s) 40 192 → Post tb e args s (.returned v) u) :
    ArmFor flags0 classFile x code maxLocals ret World_1 tables_1 room_1 Calls_1 rest_1 Pre_1 Post := by
  intro l hfl _ _ p e ha hc hk s m args below hf hA hF happ hP
  obtain ⟨hcalls, hrest, hpre⟩ := hP
  obtain ⟨-, -, -, hnamed, -, -, -, hat⟩ := (Spec.applies_iff hf).mp happ
  obtain ⟨hg, hn⟩ := and_e (Cond.before_iff.mp (show (Jvm.Cond.and given_1 narrow_1).before args s = true from hpre))
  obtain ⟨g0, gr0⟩ := and_e hg
  obtain ⟨g1, gr1⟩ := and_e gr0
  obtain ⟨g2, gr2⟩ := and_e gr1
  obtain ⟨g3, gr3⟩ := and_e gr2
  obtain ⟨g4, gr4⟩ := and_e gr3
  obtain ⟨g5, gr5⟩ := and_e gr4
  obtain ⟨w_0, w_1, w_2, w_3, w_4, w_5, rfl⟩ : ∃ w_0 w_1 w_2 w_3 w_4 w_5 : Value, args = #[w_0, w_1, w_2, w_3, w_4, w_5] := by
    have hs : args.size = 6 := by simpa [Jvm.Cond.value] using g0
    obtain ⟨L⟩ := args
    match L, hs with
    | [w_0, w_1, w_2, w_3, w_4, w_5], _ => exact ⟨w_0, w_1, w_2, w_3, w_4, w_5, rfl⟩
  have hw : oHw s #[w_0, w_1, w_2, w_3, w_4, w_5] := fun d (hd : d ∈ tables_1) => atoms_spec (ws := Jvm.Cond.code x code maxLocals ret :: tables_1) hat d (List.mem_cons_of_mem _ hd)
  have hfit : Fit s := fun {y c} hc i hi => by
    obtain ⟨ha, rfl⟩ := Array.getElem?_eq_some_iff.mp hc
    have q := List.all_eq_true.mp ((Array.all_eq_true_iff_forall_mem.mp hF) _ (Array.getElem_mem ha)) i (List.mem_range.mpr hi)
    simpa [Array.getElem?_eq_getElem hi] using q
  obtain ⟨hsets, hown0⟩ := atoms_of _ (rest_1_c_eq ▸ (show rest_1_c.before _ s = true from hrest))
  obtain ⟨i0, ei0⟩ := is_v g1
  obtain rfl : w_0 = (.int i0) := Option.some.inj ei0
  obtain ⟨i1, ei1⟩ := is_v g2
  obtain rfl : w_1 = (.int i1) := Option.some.inj ei1
  obtain ⟨i2, ei2⟩ := is_v g3
  obtain rfl : w_2 = (.int i2) := Option.some.inj ei2
  obtain ⟨i3, ei3⟩ := is_v g4
  obtain rfl : w_3 = (.int i3) := Option.some.inj ei3
  obtain ⟨i4, ei4⟩ := is_v g5
  obtain rfl : w_4 = (.int i4) := Option.some.inj ei4
  obtain ⟨i5, ei5⟩ := is_v gr5
  obtain rfl : w_5 = (.int i5) := Option.some.inj ei5
  obtain ⟨cs, ecs⟩ := is_v (Cond.before_iff.mp (hsets _ (List.mem_of_getElem? (i := 1) rfl)))
  have Scs := Sta.start ecs (Or.inl (hsets _ (List.mem_of_getElem? (i := 0) rfl)))
  have ncs : ¬ (cs = (0 : Int32)) := oNeInt_v ecs (Cond.before_iff.mp (hsets _ (List.mem_of_getElem? (i := 2) rfl)))
  obtain ⟨fm, efm, rfm⟩ := isR_v (Cond.before_iff.mp (hsets _ (List.mem_of_getElem? (i := 8) rfl)))
  have Sfm := Sta.start efm (Or.inl (hsets _ (List.mem_of_getElem? (i := 7) rfl)))
  obtain ⟨n, o, h1, h2, h3, v, L, rfl, ⟨hQ, N, E⟩, hq⟩ := rm_law l s _ hw i0 i1 i2 i3 i4 i5 fm cs s.heap Sfm rfm Scs ncs tables_1 ⟨Nat.le_refl _, fun _ _ q => q⟩ p e ha hc hk s m _ below hf ((Spec.applies_iff_loose hf).mp happ).1 ⟨rfl, State.WarmedH.refl s, rfl⟩ trivial
  obtain rfl : v = some (.int 1) := hQ
  refine ⟨n, _, h1, h2, h3, hpost _ _ _ _ _ _ ⟨Cond.after_iff.mpr rfl, Cond.after_iff.mpr (eq_i res_at (Term.int_eval (1)) rfl), trivial⟩ ⟨hq.1, hq.2.1, (hq.2.2.sift fun y hy => Or.inr (N y hy)).mono (by decide) (by decide)⟩⟩
theorem main_1_1 : Claimed_1_1 := comes_1 fun _ _ _ _ _ _ h hF => ⟨h.1, Jvm.LamKit.wideOf hF⟩
theorem main_1_2 : Claimed_1_2 := comes_1 fun _ _ _ _ _ _ h hF => ⟨h.2.1, Jvm.LamKit.wideOf hF⟩
end Jvm.Pilot.@@N@@
namespace Jvm.Pilot.@@N@@
open Jvm Jvm.ClassFile Sem Op Lib Jvm.Free Jvm.Stand Jvm.Pilot.@@N@@.Jvm.D
/-! MADE BY PROGRAM (witnessworld.py) out of the Statement's table words and the real class files: 24 classes; the members and pool entries that the words name. The judged class is class 1, her method 1. -/
namespace start1
open Jvm.ClassFile
def u (s : String) : CpInfo := .utf8 (stringToUtf16 s)
/-- a pool by its gaps: so many unusable entries, then the entry; so many at the end -/
def gap : Nat → List CpInfo → List CpInfo
  | 0, r => r
  | n + 1, r => .unusable :: gap n r
def poolList (es : List (Nat × CpInfo)) (last : Nat) : List CpInfo := es.foldr (fun e r => gap e.1 (e.2 :: r)) (gap last [])
def pool (es : List (Nat × CpInfo)) (last : Nat) : Array CpInfo := ⟨poolList es last⟩
def fileOf (pool : Array CpInfo) (this : Nat) (attrs : Array Attribute := #[]) (ms : Array MethodInfo := #[]) (fl : Nat := 33) (sup : Nat := 0) (ifs : Array Nat := #[]) (fds : Array FieldInfo := #[]) : ClassFile where
  minorVersion := 0
  majorVersion := 65
  constantPool := pool
  accessFlags := fl
  thisClass := this
  superClass := sup
  interfaces := ifs
  fields := fds
  methods := ms
  attributes := attrs
def plain (name : String) (sup : Option ClassId) : Class where
  name := name
  kind := .ordinary
  loader := none
  accessFlags := 33
  super := sup
  interfaces := #[]
  cf := none
  fields := #[]
  methods := #[]
  instanceTypes := #[]
  staticTypes := #[]
  resolved := #[]
  callSites := []
  init := .initialized
  statics := none
  mirror := none

def pool0 : Array CpInfo := pool [(5, u "<init>"), (0, u "()V"), (1, .class_ 10), (1, u "java/lang/Object")] 113

def k0c0 : Code := { maxStack := 0, maxLocals := 1, code := object_method_1_code, exceptionTable := #[], attributes := #[] }
def k0m0 : Method := { name := "<init>", desc := "()V", sig := { parameters := [], returnType := none }, accessFlags := 1, code := some k0c0 }
/-- java/lang/Object -/
def k0 : Class := { plain "java/lang/Object" none with
  accessFlags := 33
  interfaces := #[]
  cf := some (fileOf pool0 8 #[] #[{ accessFlags := 1, nameIndex := 5, descriptorIndex := 6, attributes := #[] }] 33 0 #[] #[])
  fields := #[]
  methods := #[k0m0]
  instanceTypes := #[]
  staticTypes := #[]
  resolved := Array.replicate 124 none
  statics := none }

def pool1 : Array CpInfo := pool [(2, .class_ 4), (1, u "java/lang/Object"), (0, u "<init>"), (0, u "()V"), (0, .methodref 8 9), (0, .class_ 10), (0, .nameAndType 11 12), (0, u "com/example/hotshelf/hotshelf/model/RecordKeyHashCodePinLaw"), (0, u "shelfChar"), (0, u "(I)C"), (0, .methodref 8 14), (0, .nameAndType 15 12), (0, u "idChar"), (0, .class_ 17), (0, u "com/example/hotshelf/hotshelf/model/RecordKey"), (0, .methodref 8 19), (0, .nameAndType 20 21), (0, u "str"), (0, u "(ICC)Ljava/lang/String;"), (0, .methodref 16 23), (0, .nameAndType 5 24), (0, u "(Ljava/lang/String;Ljava/lang/String;)V"), (0, .methodref 16 26), (0, .nameAndType 27 28), (0, u "hashCode"), (0, u "()I"), (0, .integer 2147483647), (0, .class_ 31), (0, u "java/lang/String"), (0, .methodref 30 33), (0, .nameAndType 5 34), (0, u "([C)V"), (2, u "law"), (0, u "(IIIIII)Z")] 3

def k1m0 : Method := { name := "<init>", desc := "()V", sig := { parameters := [], returnType := none }, accessFlags := 1, code := none }
def k1c1 : Code := { maxStack := 6, maxLocals := 22, code := code, exceptionTable := #[], attributes := #[] }
def k1m1 : Method := { name := "law", desc := "(IIIIII)Z", sig := { parameters := [.int, .int, .int, .int, .int, .int], returnType := some .boolean }, accessFlags := 9, code := some k1c1 }
def k1c2 : Code := { maxStack := 3, maxLocals := 2, code := method_3_code, exceptionTable := #[], attributes := #[] }
def k1m2 : Method := { name := "shelfChar", desc := "(I)C", sig := { parameters := [.int], returnType := some .char }, accessFlags := 10, code := some k1c2 }
def k1c3 : Code := { maxStack := 3, maxLocals := 2, code := method_4_code, exceptionTable := #[], attributes := #[] }
def k1m3 : Method := { name := "idChar", desc := "(I)C", sig := { parameters := [.int], returnType := some .char }, accessFlags := 10, code := some k1c3 }
def k1c4 : Code := { maxStack := 6, maxLocals := 3, code := method_5_code, exceptionTable := #[], attributes := #[] }
def k1m4 : Method := { name := "str", desc := "(ICC)Ljava/lang/String;", sig := { parameters := [.int, .char, .char], returnType := some (.object "java/lang/String") }, accessFlags := 10, code := some k1c4 }
/-- com/example/hotshelf/hotshelf/model/RecordKeyHashCodePinLaw -/
def k1 : Class := { plain "com/example/hotshelf/hotshelf/model/RecordKeyHashCodePinLaw" (some 0) with
  accessFlags := 49
  interfaces := #[]
  cf := some (fileOf pool1 8 #[] #[{ accessFlags := 1, nameIndex := 5, descriptorIndex := 6, attributes := #[] }, { accessFlags := 9, nameIndex := 37, descriptorIndex := 38, attributes := #[] }, { accessFlags := 10, nameIndex := 11, descriptorIndex := 12, attributes := #[] }, { accessFlags := 10, nameIndex := 15, descriptorIndex := 12, attributes := #[] }, { accessFlags := 10, nameIndex := 20, descriptorIndex := 21, attributes := #[] }] 49 2 #[] #[])
  fields := #[]
  methods := #[k1m0, k1m1, k1m2, k1m3, k1m4]
  instanceTypes := #[]
  staticTypes := #[]
  resolved := Array.replicate 42 none
  statics := none }

def pool2 : Array CpInfo := pool [(1, .methodref 2 3), (0, .class_ 4), (0, .nameAndType 5 6), (0, u "java/lang/Object"), (0, u "<init>"), (0, u "()V"), (0, .class_ 8), (0, u "java/lang/Record")] 13

def k2c0 : Code := { maxStack := 1, maxLocals := 1, code := jdk_30_method_1_code, exceptionTable := #[], attributes := #[] }
def k2m0 : Method := { name := "<init>", desc := "()V", sig := { parameters := [], returnType := none }, accessFlags := 4, code := some k2c0 }
/-- java/lang/Record -/
def k2 : Class := { plain "java/lang/Record" (some 0) with
  accessFlags := 1057
  interfaces := #[]
  cf := some (fileOf pool2 7 #[] #[{ accessFlags := 4, nameIndex := 5, descriptorIndex := 6, attributes := #[] }] 1057 2 #[] #[])
  fields := #[]
  methods := #[k2m0]
  instanceTypes := #[]
  staticTypes := #[]
  resolved := Array.replicate 22 none
  statics := none }

def pool3 : Array CpInfo := pool [(1, .class_ 2), (0, u "com/example/hotshelf/hotshelf/model/RecordKey"), (0, .methodref 4 5), (0, .class_ 6), (0, .nameAndType 7 8), (0, u "java/lang/Record"), (0, u "<init>"), (0, u "()V"), (0, .methodref 1 10), (0, .nameAndType 11 12), (0, u "isShelfName"), (0, u "(Ljava/lang/String;)Z"), (7, .methodref 1 21), (0, .nameAndType 22 12), (0, u "isRecordId"), (2, .fieldref 1 26), (0, .nameAndType 27 28), (0, u "shelf"), (0, u "Ljava/lang/String;"), (0, .fieldref 1 30), (0, .nameAndType 31 28), (0, u "id"), (1, .class_ 35), (1, u "java/lang/String"), (2, .methodref 33 39), (0, .nameAndType 40 41), (0, u "hashCode"), (0, u "()I"), (0, .invokeDynamic 0 43), (0, .nameAndType 44 45), (0, u "test"), (0, u "()Ljava/util/function/IntPredicate;"), (0, .methodref 1 47), (0, .nameAndType 48 49), (0, u "isMadeOf"), (0, u "(Ljava/lang/String;ILjava/util/function/IntPredicate;)Z"), (0, .invokeDynamic 1 43), (0, .methodref 33 52), (0, .nameAndType 53 54), (0, u "isEmpty"), (0, u "()Z"), (0, .methodref 33 56), (0, .nameAndType 57 41), (0, u "length"), (0, .methodref 33 59), (0, .nameAndType 60 61), (0, u "charAt"), (0, u "(I)C"), (0, .interfaceMethodref 63 64), (0, .class_ 65), (0, .nameAndType 44 66), (0, u "java/util/function/IntPredicate"), (0, u "(I)Z"), (0, .methodref 1 68), (0, .nameAndType 69 66), (0, u "isShelfChar"), (4, u "MAX_SHELF_LENGTH"), (0, u "I"), (2, u "MAX_ID_LENGTH"), (1, u "SHELF_NAME_RULE"), (0, u "RECORD_ID_RULE"), (0, u "(Ljava/lang/String;Ljava/lang/String;)V"), (4, u "isIdChar"), (5, .methodType 66), (0, .methodHandle 6 67), (0, .methodHandle 6 96), (0, .methodref 1 97), (0, .nameAndType 87 66), (4, .methodHandle 6 103), (0, .methodref 104 105), (0, .class_ 106), (0, .nameAndType 107 108), (0, u "java/lang/invoke/LambdaMetafactory"), (0, u "metafactory"), (0, u "(Ljava/lang/invoke/MethodHandles$Lookup;Ljava/lang/String;Ljava/lang/invoke/MethodType;Ljava/lang/invoke/MethodType;Ljava/lang/invoke/MethodHandle;Ljava/lang/invoke/MethodType;)Ljava/lang/invoke/CallSite;")] 13

def k3c0 : Code := { maxStack := 3, maxLocals := 3, code := prog_16_method_1_code, exceptionTable := #[], attributes := #[] }
def k3m0 : Method := { name := "<init>", desc := "(Ljava/lang/String;Ljava/lang/String;)V", sig := { parameters := [(.object "java/lang/String"), (.object "java/lang/String")], returnType := none }, accessFlags := 1, code := some k3c0 }
def k3c1 : Code := { maxStack := 2, maxLocals := 1, code := prog_16_method_3_code, exceptionTable := #[], attributes := #[] }
def k3m1 : Method := { name := "hashCode", desc := "()I", sig := { parameters := [], returnType := some .int }, accessFlags := 1, code := some k3c1 }
def k3c2 : Code := { maxStack := 3, maxLocals := 1, code := prog_16_method_4_code, exceptionTable := #[], attributes := #[] }
def k3m2 : Method := { name := "isShelfName", desc := "(Ljava/lang/String;)Z", sig := { parameters := [(.object "java/lang/String")], returnType := some .boolean }, accessFlags := 9, code := some k3c2 }
def k3c3 : Code := { maxStack := 3, maxLocals := 1, code := prog_16_method_5_code, exceptionTable := #[], attributes := #[] }
def k3m3 : Method := { name := "isRecordId", desc := "(Ljava/lang/String;)Z", sig := { parameters := [(.object "java/lang/String")], returnType := some .boolean }, accessFlags := 9, code := some k3c3 }
def k3c4 : Code := { maxStack := 3, maxLocals := 4, code := prog_16_method_6_code, exceptionTable := #[], attributes := #[] }
def k3m4 : Method := { name := "isMadeOf", desc := "(Ljava/lang/String;ILjava/util/function/IntPredicate;)Z", sig := { parameters := [(.object "java/lang/String"), .int, (.object "java/util/function/IntPredicate")], returnType := some .boolean }, accessFlags := 10, code := some k3c4 }
def k3c5 : Code := { maxStack := 2, maxLocals := 1, code := prog_16_method_7_code, exceptionTable := #[], attributes := #[] }
def k3m5 : Method := { name := "isShelfChar", desc := "(I)Z", sig := { parameters := [.int], returnType := some .boolean }, accessFlags := 10, code := some k3c5 }
def k3c6 : Code := { maxStack := 2, maxLocals := 1, code := prog_16_method_8_code, exceptionTable := #[], attributes := #[] }
def k3m6 : Method := { name := "isIdChar", desc := "(I)Z", sig := { parameters := [.int], returnType := some .boolean }, accessFlags := 10, code := some k3c6 }
/-- com/example/hotshelf/hotshelf/model/RecordKey -/
def k3 : Class := { plain "com/example/hotshelf/hotshelf/model/RecordKey" (some 2) with
  accessFlags := 49
  interfaces := #[]
  cf := some (fileOf pool3 1 #[.bootstrapMethods #[⟨102, #[93, 94, 93]⟩, ⟨102, #[93, 95, 93]⟩, ⟨0, #[]⟩]] #[{ accessFlags := 1, nameIndex := 7, descriptorIndex := 82, attributes := #[] }, { accessFlags := 1, nameIndex := 40, descriptorIndex := 41, attributes := #[] }, { accessFlags := 9, nameIndex := 11, descriptorIndex := 12, attributes := #[] }, { accessFlags := 9, nameIndex := 22, descriptorIndex := 12, attributes := #[] }, { accessFlags := 10, nameIndex := 48, descriptorIndex := 49, attributes := #[] }, { accessFlags := 10, nameIndex := 69, descriptorIndex := 66, attributes := #[] }, { accessFlags := 10, nameIndex := 87, descriptorIndex := 66, attributes := #[] }] 49 4 #[] #[{ accessFlags := 18, nameIndex := 27, descriptorIndex := 28, attributes := #[] }, { accessFlags := 18, nameIndex := 31, descriptorIndex := 28, attributes := #[] }, { accessFlags := 25, nameIndex := 74, descriptorIndex := 75, attributes := #[] }, { accessFlags := 25, nameIndex := 78, descriptorIndex := 75, attributes := #[] }, { accessFlags := 25, nameIndex := 80, descriptorIndex := 28, attributes := #[] }, { accessFlags := 25, nameIndex := 81, descriptorIndex := 28, attributes := #[] }])
  fields := #[{ name := "shelf", type := (.object "java/lang/String"), accessFlags := 18, slot := 0, constantValue := 0 }, { name := "id", type := (.object "java/lang/String"), accessFlags := 18, slot := 1, constantValue := 0 }, { name := "MAX_SHELF_LENGTH", type := .int, accessFlags := 25, slot := 0, constantValue := 0 }, { name := "MAX_ID_LENGTH", type := .int, accessFlags := 25, slot := 1, constantValue := 0 }, { name := "SHELF_NAME_RULE", type := (.object "java/lang/String"), accessFlags := 25, slot := 2, constantValue := 0 }, { name := "RECORD_ID_RULE", type := (.object "java/lang/String"), accessFlags := 25, slot := 3, constantValue := 0 }]
  methods := #[k3m0, k3m1, k3m2, k3m3, k3m4, k3m5, k3m6]
  instanceTypes := #[(.object "java/lang/String"), (.object "java/lang/String")]
  staticTypes := #[.int, .int, (.object "java/lang/String"), (.object "java/lang/String")]
  resolved := Array.replicate 122 none
  callSites := [(2, 3, .constant 2), (3, 4, .constant 3)]
  statics := none }

def pool4 : Array CpInfo := pool [(1, .class_ 2), (0, u "java/io/Serializable"), (0, .class_ 4), (0, u "java/lang/Object")] 2

/-- java/io/Serializable -/
def k4 : Class := { plain "java/io/Serializable" (some 0) with
  accessFlags := 1537
  interfaces := #[]
  cf := some (fileOf pool4 1 #[] #[] 1537 3 #[] #[])
  fields := #[]
  methods := #[]
  instanceTypes := #[]
  staticTypes := #[]
  resolved := Array.replicate 7 none
  statics := none }

def pool5 : Array CpInfo := pool [(1, .class_ 2), (0, u "java/lang/Comparable"), (0, .class_ 4), (0, u "java/lang/Object")] 7

/-- java/lang/Comparable -/
def k5 : Class := { plain "java/lang/Comparable" (some 0) with
  accessFlags := 1537
  interfaces := #[]
  cf := some (fileOf pool5 1 #[] #[] 1537 3 #[] #[])
  fields := #[]
  methods := #[]
  instanceTypes := #[]
  staticTypes := #[]
  resolved := Array.replicate 12 none
  statics := none }

def pool6 : Array CpInfo := pool [(2, .class_ 4), (1, u "java/lang/CharSequence"), (42, .class_ 48), (0, u "java/lang/CharSequence$1CodePointIterator"), (10, .class_ 60), (0, u "java/lang/CharSequence$1CharIterator"), (5, .class_ 67), (0, u "java/lang/Object")] 63

/-- java/lang/CharSequence -/
def k6 : Class := { plain "java/lang/CharSequence" (some 0) with
  accessFlags := 1537
  interfaces := #[]
  cf := some (fileOf pool6 2 #[.nestMembers #[47, 59]] #[] 1537 66 #[] #[])
  fields := #[]
  methods := #[]
  instanceTypes := #[]
  staticTypes := #[]
  resolved := Array.replicate 131 none
  statics := none }

def pool7 : Array CpInfo := pool [(1, .class_ 2), (0, u "java/lang/constant/Constable"), (0, .class_ 4), (0, u "java/lang/Object")] 6

/-- java/lang/constant/Constable -/
def k7 : Class := { plain "java/lang/constant/Constable" (some 0) with
  accessFlags := 1537
  interfaces := #[]
  cf := some (fileOf pool7 1 #[] #[] 1537 3 #[] #[])
  fields := #[]
  methods := #[]
  instanceTypes := #[]
  staticTypes := #[]
  resolved := Array.replicate 11 none
  statics := none }

def pool8 : Array CpInfo := pool [(1, .class_ 2), (0, u "java/lang/constant/ConstantDesc"), (0, .class_ 4), (0, u "java/lang/Object")] 32

/-- java/lang/constant/ConstantDesc -/
def k8 : Class := { plain "java/lang/constant/ConstantDesc" (some 0) with
  accessFlags := 1537
  interfaces := #[]
  cf := some (fileOf pool8 1 #[] #[] 1537 3 #[] #[])
  fields := #[]
  methods := #[]
  instanceTypes := #[]
  staticTypes := #[]
  resolved := Array.replicate 37 none
  statics := none }

def pool9 : Array CpInfo := pool [(1, .methodref 2 3), (0, .class_ 4), (0, .nameAndType 5 6), (0, u "java/lang/Object"), (0, u "<init>"), (0, u "()V"), (2, .fieldref 10 11), (0, .class_ 12), (0, .nameAndType 13 14), (0, u "java/lang/String"), (0, u "value"), (0, u "[B"), (0, .fieldref 10 16), (0, .nameAndType 17 18), (0, u "coder"), (0, u "B"), (0, .fieldref 10 20), (0, .nameAndType 21 22), (0, u "hash"), (0, u "I"), (0, .fieldref 10 24), (0, .nameAndType 25 26), (0, u "hashIsZero"), (0, u "Z"), (0, .methodref 10 28), (0, .nameAndType 5 29), (0, u "([CIILjava/lang/Void;)V"), (8, .fieldref 10 39), (0, .nameAndType 40 26), (0, u "COMPACT_STRINGS"), (1, .class_ 44), (1, u "java/lang/StringUTF16"), (0, u "compress"), (1, .methodref 42 48), (0, .nameAndType 49 50), (0, u "coderFromArrayLen"), (0, u "([BI)B"), (56, .class_ 109), (1, u "java/lang/StringLatin1"), (32, u "()Z"), (34, .methodref 42 178), (0, .nameAndType 45 179), (0, u "([CII)[B"), (154, u "()I"), (0, .methodref 10 336), (0, .nameAndType 17 337), (0, u "()B"), (25, u "([BI)C"), (27, u "(II)V"), (35, u "(I)C"), (64, .methodref 10 493), (0, .nameAndType 494 142), (0, u "isLatin1"), (0, .methodref 107 496), (0, .nameAndType 497 363), (0, u "charAt"), (3, u "checkIndex"), (5, u "length"), (67, .class_ 576), (0, u "java/lang/CharSequence"), (22, u "CASE_INSENSITIVE_ORDER"), (0, u "Ljava/util/Comparator;"), (27, .methodref 107 629), (0, .nameAndType 630 631), (0, u "hashCode"), (0, u "([B)I"), (60, u "isEmpty"), (317, u "([C)V"), (42, .fieldref 1054 1055), (0, .class_ 1056), (0, .nameAndType 1057 1058), (0, u "jdk/internal/util/Preconditions"), (0, u "SIOOBE_FORMATTER"), (0, u "Ljava/util/function/BiFunction;"), (0, .methodref 1054 1060), (0, .nameAndType 501 1061), (0, u "(IILjava/util/function/BiFunction;)I"), (39, u "serialPersistentFields"), (0, u "[Ljava/io/ObjectStreamField;"), (0, .class_ 1104), (0, u "java/lang/String$CaseInsensitiveComparator"), (1, .class_ 1107), (0, u "java/io/Serializable"), (0, .class_ 1109), (0, u "java/lang/Comparable"), (0, .class_ 1111), (0, u "java/lang/constant/Constable"), (0, .class_ 1113), (0, u "java/lang/constant/ConstantDesc"), (2, u "serialVersionUID"), (0, u "J"), (3, u "REPL"), (0, u "C"), (2, u "LATIN1"), (1, u "UTF16")] 323

def k9m0 : Method := { name := "<init>", desc := "()V", sig := { parameters := [], returnType := none }, accessFlags := 1, code := none }
def k9c1 : Code := { maxStack := 5, maxLocals := 2, code := jdk_42_method_3_code, exceptionTable := #[], attributes := #[] }
def k9m1 : Method := { name := "<init>", desc := "([C)V", sig := { parameters := [(.array .char)], returnType := none }, accessFlags := 1, code := some k9c1 }
def k9c2 : Code := { maxStack := 2, maxLocals := 1, code := jdk_42_method_54_code, exceptionTable := #[], attributes := #[] }
def k9m2 : Method := { name := "length", desc := "()I", sig := { parameters := [], returnType := some .int }, accessFlags := 1, code := some k9c2 }
def k9c3 : Code := { maxStack := 1, maxLocals := 1, code := jdk_42_method_55_code, exceptionTable := #[], attributes := #[] }
def k9m3 : Method := { name := "isEmpty", desc := "()Z", sig := { parameters := [], returnType := some .boolean }, accessFlags := 1, code := some k9c3 }
def k9c4 : Code := { maxStack := 2, maxLocals := 2, code := jdk_42_method_56_code, exceptionTable := #[], attributes := #[] }
def k9m4 : Method := { name := "charAt", desc := "(I)C", sig := { parameters := [.int], returnType := some .char }, accessFlags := 1, code := some k9c4 }
def k9c5 : Code := { maxStack := 2, maxLocals := 2, code := jdk_42_method_78_code, exceptionTable := #[], attributes := #[] }
def k9m5 : Method := { name := "hashCode", desc := "()I", sig := { parameters := [], returnType := some .int }, accessFlags := 1, code := some k9c5 }
def k9c6 : Code := { maxStack := 4, maxLocals := 6, code := jdk_42_method_149_code, exceptionTable := #[], attributes := #[] }
def k9m6 : Method := { name := "<init>", desc := "([CIILjava/lang/Void;)V", sig := { parameters := [(.array .char), .int, .int, (.object "java/lang/Void")], returnType := none }, accessFlags := 2, code := some k9c6 }
def k9c7 : Code := { maxStack := 1, maxLocals := 1, code := jdk_42_method_152_code, exceptionTable := #[], attributes := #[] }
def k9m7 : Method := { name := "coder", desc := "()B", sig := { parameters := [], returnType := some .byte }, accessFlags := 0, code := some k9c7 }
def k9c8 : Code := { maxStack := 1, maxLocals := 1, code := jdk_42_method_154_code, exceptionTable := #[], attributes := #[] }
def k9m8 : Method := { name := "isLatin1", desc := "()Z", sig := { parameters := [], returnType := some .boolean }, accessFlags := 0, code := some k9c8 }
def k9c9 : Code := { maxStack := 3, maxLocals := 2, code := jdk_42_method_155_code, exceptionTable := #[], attributes := #[] }
def k9m9 : Method := { name := "checkIndex", desc := "(II)V", sig := { parameters := [.int, .int], returnType := none }, accessFlags := 8, code := some k9c9 }
/-- java/lang/String -/
def k9 : Class := { plain "java/lang/String" (some 0) with
  accessFlags := 49
  interfaces := #[4, 5, 6, 7, 8]
  cf := some (fileOf pool9 10 #[.nestMembers #[1103]] #[{ accessFlags := 1, nameIndex := 5, descriptorIndex := 6, attributes := #[] }, { accessFlags := 1, nameIndex := 5, descriptorIndex := 1010, attributes := #[] }, { accessFlags := 1, nameIndex := 507, descriptorIndex := 334, attributes := #[] }, { accessFlags := 1, nameIndex := 692, descriptorIndex := 142, attributes := #[] }, { accessFlags := 1, nameIndex := 497, descriptorIndex := 427, attributes := #[] }, { accessFlags := 1, nameIndex := 630, descriptorIndex := 334, attributes := #[] }, { accessFlags := 2, nameIndex := 5, descriptorIndex := 29, attributes := #[] }, { accessFlags := 0, nameIndex := 17, descriptorIndex := 337, attributes := #[] }, { accessFlags := 0, nameIndex := 494, descriptorIndex := 142, attributes := #[] }, { accessFlags := 8, nameIndex := 501, descriptorIndex := 391, attributes := #[] }] 49 2 #[1106, 1108, 575, 1110, 1112] #[{ accessFlags := 18, nameIndex := 13, descriptorIndex := 14, attributes := #[] }, { accessFlags := 18, nameIndex := 17, descriptorIndex := 18, attributes := #[] }, { accessFlags := 2, nameIndex := 21, descriptorIndex := 22, attributes := #[] }, { accessFlags := 2, nameIndex := 25, descriptorIndex := 26, attributes := #[] }, { accessFlags := 26, nameIndex := 1116, descriptorIndex := 1117, attributes := #[] }, { accessFlags := 24, nameIndex := 40, descriptorIndex := 26, attributes := #[] }, { accessFlags := 26, nameIndex := 1101, descriptorIndex := 1102, attributes := #[] }, { accessFlags := 26, nameIndex := 1121, descriptorIndex := 1122, attributes := #[] }, { accessFlags := 25, nameIndex := 599, descriptorIndex := 600, attributes := #[] }, { accessFlags := 24, nameIndex := 1125, descriptorIndex := 18, attributes := #[] }, { accessFlags := 24, nameIndex := 1127, descriptorIndex := 18, attributes := #[] }])
  fields := #[{ name := "value", type := (.array .byte), accessFlags := 18, slot := 0, constantValue := 0 }, { name := "coder", type := .byte, accessFlags := 18, slot := 1, constantValue := 0 }, { name := "hash", type := .int, accessFlags := 2, slot := 2, constantValue := 0 }, { name := "hashIsZero", type := .boolean, accessFlags := 2, slot := 3, constantValue := 0 }, { name := "serialVersionUID", type := .long, accessFlags := 26, slot := 0, constantValue := 0 }, { name := "COMPACT_STRINGS", type := .boolean, accessFlags := 24, slot := 1, constantValue := 0 }, { name := "serialPersistentFields", type := (.array (.object "java/io/ObjectStreamField")), accessFlags := 26, slot := 2, constantValue := 0 }, { name := "REPL", type := .char, accessFlags := 26, slot := 3, constantValue := 0 }, { name := "CASE_INSENSITIVE_ORDER", type := (.object "java/util/Comparator"), accessFlags := 25, slot := 4, constantValue := 0 }, { name := "LATIN1", type := .byte, accessFlags := 24, slot := 5, constantValue := 0 }, { name := "UTF16", type := .byte, accessFlags := 24, slot := 6, constantValue := 0 }]
  methods := #[k9m0, k9m1, k9m2, k9m3, k9m4, k9m5, k9m6, k9m7, k9m8, k9m9]
  instanceTypes := #[(.array .byte), .byte, .int, .boolean]
  staticTypes := #[.long, .boolean, (.array (.object "java/io/ObjectStreamField")), .char, (.object "java/util/Comparator"), .byte, .byte]
  resolved := Array.replicate 1451 none
  statics := some 0 }

def pool10 : Array CpInfo := pool [(6, .class_ 8), (1, u "java/lang/Object"), (0, u "<init>"), (0, u "()V"), (1, .class_ 14), (1, u "java/lang/StringUTF16"), (31, u "$assertionsDisabled"), (0, u "Z"), (13, u "HI_BYTE_SHIFT"), (0, u "I"), (2, u "LO_BYTE_SHIFT"), (49, .methodref 12 116), (0, .nameAndType 117 118), (0, u "compress"), (0, u "([CI[BII)I"), (3, u "([CII)[B"), (138, u "coderFromArrayLen"), (0, u "([BI)B"), (106, .class_ 371), (1, u "java/lang/StringUTF16$LinesSpliterator"), (58, u "MAX_LENGTH"), (196, .class_ 628), (0, u "java/lang/StringUTF16$CodePointsSpliterator"), (0, .class_ 630), (0, u "java/lang/StringUTF16$CharsSpliterator")] 4

def k10m0 : Method := { name := "<init>", desc := "()V", sig := { parameters := [], returnType := none }, accessFlags := 0, code := none }
def k10c1 : Code := { maxStack := 2, maxLocals := 2, code := jdk_52_method_15_code, exceptionTable := #[], attributes := #[] }
def k10m1 : Method := { name := "coderFromArrayLen", desc := "([BI)B", sig := { parameters := [(.array .byte), .int], returnType := some .byte }, accessFlags := 8, code := some k10c1 }
def k10c2 : Code := { maxStack := 5, maxLocals := 6, code := jdk_52_method_16_code, exceptionTable := #[], attributes := #[] }
def k10m2 : Method := { name := "compress", desc := "([CII)[B", sig := { parameters := [(.array .char), .int, .int], returnType := some (.array .byte) }, accessFlags := 9, code := some k10c2 }
def k10c3 : Code := { maxStack := 3, maxLocals := 7, code := jdk_52_method_21_code, exceptionTable := #[], attributes := #[] }
def k10m3 : Method := { name := "compress", desc := "([CI[BII)I", sig := { parameters := [(.array .char), .int, (.array .byte), .int, .int], returnType := some .int }, accessFlags := 9, code := some k10c3 }
/-- java/lang/StringUTF16 -/
def k10 : Class := { plain "java/lang/StringUTF16" (some 0) with
  accessFlags := 48
  interfaces := #[]
  cf := some (fileOf pool10 12 #[.nestMembers #[627, 629, 369]] #[{ accessFlags := 0, nameIndex := 9, descriptorIndex := 10, attributes := #[] }, { accessFlags := 8, nameIndex := 261, descriptorIndex := 262, attributes := #[] }, { accessFlags := 9, nameIndex := 117, descriptorIndex := 122, attributes := #[] }, { accessFlags := 9, nameIndex := 117, descriptorIndex := 118, attributes := #[] }] 48 6 #[] #[{ accessFlags := 26, nameIndex := 61, descriptorIndex := 62, attributes := #[] }, { accessFlags := 26, nameIndex := 65, descriptorIndex := 62, attributes := #[] }, { accessFlags := 24, nameIndex := 430, descriptorIndex := 62, attributes := #[] }, { accessFlags := 4120, nameIndex := 46, descriptorIndex := 47, attributes := #[] }])
  fields := #[{ name := "HI_BYTE_SHIFT", type := .int, accessFlags := 26, slot := 0, constantValue := 0 }, { name := "LO_BYTE_SHIFT", type := .int, accessFlags := 26, slot := 1, constantValue := 0 }, { name := "MAX_LENGTH", type := .int, accessFlags := 24, slot := 2, constantValue := 0 }, { name := "$assertionsDisabled", type := .boolean, accessFlags := 4120, slot := 3, constantValue := 0 }]
  methods := #[k10m0, k10m1, k10m2, k10m3]
  instanceTypes := #[]
  staticTypes := #[.int, .int, .int, .boolean]
  resolved := Array.replicate 635 none
  statics := none }

def pool11 : Array CpInfo := pool [(9, u "test"), (6, .class_ 18), (1, u "java/util/function/IntPredicate"), (0, u "(I)Z"), (0, .class_ 21), (0, u "java/lang/Object")] 45

def k11m0 : Method := { name := "test", desc := "(I)Z", sig := { parameters := [.int], returnType := some .boolean }, accessFlags := 1025, code := none }
/-- java/util/function/IntPredicate -/
def k11 : Class := { plain "java/util/function/IntPredicate" (some 0) with
  accessFlags := 1537
  interfaces := #[]
  cf := some (fileOf pool11 16 #[] #[{ accessFlags := 1025, nameIndex := 9, descriptorIndex := 19, attributes := #[] }] 1537 20 #[] #[])
  fields := #[]
  methods := #[k11m0]
  instanceTypes := #[]
  staticTypes := #[]
  resolved := Array.replicate 67 none
  statics := none }

def pool12 : Array CpInfo := pool [(1, .class_ 2), (0, u "java/lang/String"), (1, .class_ 6), (1, u "java/lang/Object"), (0, u "<init>"), (0, u "()V"), (0, .methodref 1 10), (0, .nameAndType 11 12), (0, u "checkIndex"), (0, u "(II)V"), (1, .class_ 16), (1, u "java/lang/StringLatin1"), (28, .class_ 47), (1, u "jdk/internal/util/ArraysSupport"), (5, u "([BI)C"), (3, u "([B)I"), (26, .methodref 45 85), (0, .nameAndType 86 87), (0, u "vectorizedHashCode"), (0, u "(Ljava/lang/Object;IIII)I"), (33, u "$assertionsDisabled"), (0, u "Z"), (98, .class_ 223), (1, u "java/lang/StringLatin1$LinesSpliterator"), (28, u "charAt"), (45, u "hashCode"), (91, .class_ 391), (0, u "java/lang/StringLatin1$CharsSpliterator")] 3

def k12m0 : Method := { name := "<init>", desc := "()V", sig := { parameters := [], returnType := none }, accessFlags := 0, code := none }
def k12c1 : Code := { maxStack := 2, maxLocals := 2, code := jdk_43_method_2_code, exceptionTable := #[], attributes := #[] }
def k12m1 : Method := { name := "charAt", desc := "([BI)C", sig := { parameters := [(.array .byte), .int], returnType := some .char }, accessFlags := 9, code := some k12c1 }
def k12c2 : Code := { maxStack := 5, maxLocals := 1, code := jdk_43_method_21_code, exceptionTable := #[], attributes := #[] }
def k12m2 : Method := { name := "hashCode", desc := "([B)I", sig := { parameters := [(.array .byte)], returnType := some .int }, accessFlags := 9, code := some k12c2 }
/-- java/lang/StringLatin1 -/
def k12 : Class := { plain "java/lang/StringLatin1" (some 0) with
  accessFlags := 48
  interfaces := #[]
  cf := some (fileOf pool12 14 #[.nestMembers #[390, 221]] #[{ accessFlags := 0, nameIndex := 7, descriptorIndex := 8, attributes := #[] }, { accessFlags := 9, nameIndex := 252, descriptorIndex := 53, attributes := #[] }, { accessFlags := 9, nameIndex := 298, descriptorIndex := 57, attributes := #[] }] 48 4 #[] #[{ accessFlags := 4120, nameIndex := 121, descriptorIndex := 122, attributes := #[] }])
  fields := #[{ name := "$assertionsDisabled", type := .boolean, accessFlags := 4120, slot := 0, constantValue := 0 }]
  methods := #[k12m0, k12m1, k12m2]
  instanceTypes := #[]
  staticTypes := #[.boolean]
  resolved := Array.replicate 395 none
  statics := none }

def pool13 : Array CpInfo := pool [(2, .class_ 4), (1, u "java/lang/Object"), (0, u "<init>"), (0, u "()V"), (17, .class_ 26), (1, u "jdk/internal/util/Preconditions"), (6, u "checkIndex"), (21, .class_ 56), (0, u "jdk/internal/util/Preconditions$4"), (57, .class_ 115), (0, u "jdk/internal/util/Preconditions$1"), (7, u "SIOOBE_FORMATTER"), (0, u "Ljava/util/function/BiFunction;"), (0, .class_ 126), (0, u "jdk/internal/util/Preconditions$2"), (3, u "AIOOBE_FORMATTER"), (0, .class_ 132), (0, u "jdk/internal/util/Preconditions$3"), (3, u "IOOBE_FORMATTER"), (41, u "(IILjava/util/function/BiFunction;)I")] 15

def k13m0 : Method := { name := "<init>", desc := "()V", sig := { parameters := [], returnType := none }, accessFlags := 1, code := none }
def k13c1 : Code := { maxStack := 3, maxLocals := 3, code := jdk_41_method_11_code, exceptionTable := #[], attributes := #[] }
def k13m1 : Method := { name := "checkIndex", desc := "(IILjava/util/function/BiFunction;)I", sig := { parameters := [.int, .int, (.object "java/util/function/BiFunction")], returnType := some .int }, accessFlags := 9, code := some k13c1 }
/-- jdk/internal/util/Preconditions -/
def k13 : Class := { plain "jdk/internal/util/Preconditions" (some 0) with
  accessFlags := 33
  interfaces := #[]
  cf := some (fileOf pool13 24 #[.nestMembers #[55, 131, 125, 114]] #[{ accessFlags := 1, nameIndex := 5, descriptorIndex := 6, attributes := #[] }, { accessFlags := 9, nameIndex := 33, descriptorIndex := 178, attributes := #[] }] 33 2 #[] #[{ accessFlags := 25, nameIndex := 123, descriptorIndex := 124, attributes := #[] }, { accessFlags := 25, nameIndex := 130, descriptorIndex := 124, attributes := #[] }, { accessFlags := 25, nameIndex := 136, descriptorIndex := 124, attributes := #[] }])
  fields := #[{ name := "SIOOBE_FORMATTER", type := (.object "java/util/function/BiFunction"), accessFlags := 25, slot := 0, constantValue := 0 }, { name := "AIOOBE_FORMATTER", type := (.object "java/util/function/BiFunction"), accessFlags := 25, slot := 1, constantValue := 0 }, { name := "IOOBE_FORMATTER", type := (.object "java/util/function/BiFunction"), accessFlags := 25, slot := 2, constantValue := 0 }]
  methods := #[k13m0, k13m1]
  instanceTypes := #[]
  staticTypes := #[(.object "java/util/function/BiFunction"), (.object "java/util/function/BiFunction"), (.object "java/util/function/BiFunction")]
  resolved := Array.replicate 194 none
  statics := some 1 }

def pool14 : Array CpInfo := pool [(9, u "<init>"), (6, .class_ 18), (1, u "java/lang/Object"), (0, u "()V"), (1, .class_ 23), (1, u "jdk/internal/util/ArraysSupport"), (0, u "LOG2_ARRAY_LONG_INDEX_SCALE"), (0, u "I"), (2, u "U"), (0, u "Ljdk/internal/misc/Unsafe;"), (8, u "BIG_ENDIAN"), (0, u "Z"), (8, u "LOG2_BYTE_BIT_SIZE"), (4, u "LOG2_ARRAY_INT_INDEX_SCALE"), (6, .class_ 61), (0, u "[B"), (0, .methodref 21 63), (0, .nameAndType 64 65), (0, u "signedHashCode"), (0, u "(I[BII)I"), (42, u "JLA"), (0, u "Ljdk/internal/access/JavaLangAccess;"), (11, u "LOG2_ARRAY_BOOLEAN_INDEX_SCALE"), (9, u "LOG2_ARRAY_BYTE_INDEX_SCALE"), (5, u "LOG2_ARRAY_CHAR_INDEX_SCALE"), (5, u "LOG2_ARRAY_SHORT_INDEX_SCALE"), (18, u "LOG2_ARRAY_FLOAT_INDEX_SCALE"), (24, u "LOG2_ARRAY_DOUBLE_INDEX_SCALE"), (89, u "T_BOOLEAN"), (2, u "T_CHAR"), (1, u "T_FLOAT"), (1, u "T_DOUBLE"), (1, u "T_BYTE"), (1, u "T_SHORT"), (1, u "T_INT"), (1, u "T_LONG"), (1, u "SOFT_MAX_ARRAY_LENGTH"), (26, u "vectorizedHashCode"), (0, u "(Ljava/lang/Object;IIII)I")] 55

def k14m0 : Method := { name := "<init>", desc := "()V", sig := { parameters := [], returnType := none }, accessFlags := 2, code := none }
def k14c1 : Code := { maxStack := 4, maxLocals := 5, code := jdk_48_method_4_code, exceptionTable := #[], attributes := #[] }
def k14m1 : Method := { name := "vectorizedHashCode", desc := "(Ljava/lang/Object;IIII)I", sig := { parameters := [(.object "java/lang/Object"), .int, .int, .int, .int], returnType := some .int }, accessFlags := 9, code := some k14c1 }
def k14c2 : Code := { maxStack := 3, maxLocals := 6, code := jdk_48_method_5_code, exceptionTable := #[], attributes := #[] }
def k14m2 : Method := { name := "signedHashCode", desc := "(I[BII)I", sig := { parameters := [.int, (.array .byte), .int, .int], returnType := some .int }, accessFlags := 10, code := some k14c2 }
/-- jdk/internal/util/ArraysSupport -/
def k14 : Class := { plain "jdk/internal/util/ArraysSupport" (some 0) with
  accessFlags := 33
  interfaces := #[]
  cf := some (fileOf pool14 21 #[] #[{ accessFlags := 2, nameIndex := 9, descriptorIndex := 19, attributes := #[] }, { accessFlags := 9, nameIndex := 321, descriptorIndex := 322, attributes := #[] }, { accessFlags := 10, nameIndex := 64, descriptorIndex := 65, attributes := #[] }] 33 16 #[] #[{ accessFlags := 24, nameIndex := 28, descriptorIndex := 29, attributes := #[] }, { accessFlags := 26, nameIndex := 38, descriptorIndex := 39, attributes := #[] }, { accessFlags := 25, nameIndex := 121, descriptorIndex := 25, attributes := #[] }, { accessFlags := 25, nameIndex := 131, descriptorIndex := 25, attributes := #[] }, { accessFlags := 25, nameIndex := 137, descriptorIndex := 25, attributes := #[] }, { accessFlags := 25, nameIndex := 143, descriptorIndex := 25, attributes := #[] }, { accessFlags := 25, nameIndex := 53, descriptorIndex := 25, attributes := #[] }, { accessFlags := 25, nameIndex := 24, descriptorIndex := 25, attributes := #[] }, { accessFlags := 25, nameIndex := 162, descriptorIndex := 25, attributes := #[] }, { accessFlags := 25, nameIndex := 187, descriptorIndex := 25, attributes := #[] }, { accessFlags := 26, nameIndex := 48, descriptorIndex := 25, attributes := #[] }, { accessFlags := 25, nameIndex := 277, descriptorIndex := 25, attributes := #[] }, { accessFlags := 25, nameIndex := 280, descriptorIndex := 25, attributes := #[] }, { accessFlags := 25, nameIndex := 282, descriptorIndex := 25, attributes := #[] }, { accessFlags := 25, nameIndex := 284, descriptorIndex := 25, attributes := #[] }, { accessFlags := 25, nameIndex := 286, descriptorIndex := 25, attributes := #[] }, { accessFlags := 25, nameIndex := 288, descriptorIndex := 25, attributes := #[] }, { accessFlags := 25, nameIndex := 290, descriptorIndex := 25, attributes := #[] }, { accessFlags := 25, nameIndex := 292, descriptorIndex := 25, attributes := #[] }, { accessFlags := 26, nameIndex := 108, descriptorIndex := 109, attributes := #[] }, { accessFlags := 25, nameIndex := 294, descriptorIndex := 25, attributes := #[] }])
  fields := #[{ name := "U", type := (.object "jdk/internal/misc/Unsafe"), accessFlags := 24, slot := 0, constantValue := 0 }, { name := "BIG_ENDIAN", type := .boolean, accessFlags := 26, slot := 1, constantValue := 0 }, { name := "LOG2_ARRAY_BOOLEAN_INDEX_SCALE", type := .int, accessFlags := 25, slot := 2, constantValue := 0 }, { name := "LOG2_ARRAY_BYTE_INDEX_SCALE", type := .int, accessFlags := 25, slot := 3, constantValue := 0 }, { name := "LOG2_ARRAY_CHAR_INDEX_SCALE", type := .int, accessFlags := 25, slot := 4, constantValue := 0 }, { name := "LOG2_ARRAY_SHORT_INDEX_SCALE", type := .int, accessFlags := 25, slot := 5, constantValue := 0 }, { name := "LOG2_ARRAY_INT_INDEX_SCALE", type := .int, accessFlags := 25, slot := 6, constantValue := 0 }, { name := "LOG2_ARRAY_LONG_INDEX_SCALE", type := .int, accessFlags := 25, slot := 7, constantValue := 0 }, { name := "LOG2_ARRAY_FLOAT_INDEX_SCALE", type := .int, accessFlags := 25, slot := 8, constantValue := 0 }, { name := "LOG2_ARRAY_DOUBLE_INDEX_SCALE", type := .int, accessFlags := 25, slot := 9, constantValue := 0 }, { name := "LOG2_BYTE_BIT_SIZE", type := .int, accessFlags := 26, slot := 10, constantValue := 0 }, { name := "T_BOOLEAN", type := .int, accessFlags := 25, slot := 11, constantValue := 0 }, { name := "T_CHAR", type := .int, accessFlags := 25, slot := 12, constantValue := 0 }, { name := "T_FLOAT", type := .int, accessFlags := 25, slot := 13, constantValue := 0 }, { name := "T_DOUBLE", type := .int, accessFlags := 25, slot := 14, constantValue := 0 }, { name := "T_BYTE", type := .int, accessFlags := 25, slot := 15, constantValue := 0 }, { name := "T_SHORT", type := .int, accessFlags := 25, slot := 16, constantValue := 0 }, { name := "T_INT", type := .int, accessFlags := 25, slot := 17, constantValue := 0 }, { name := "T_LONG", type := .int, accessFlags := 25, slot := 18, constantValue := 0 }, { name := "JLA", type := (.object "jdk/internal/access/JavaLangAccess"), accessFlags := 26, slot := 19, constantValue := 0 }, { name := "SOFT_MAX_ARRAY_LENGTH", type := .int, accessFlags := 25, slot := 20, constantValue := 0 }]
  methods := #[k14m0, k14m1, k14m2]
  instanceTypes := #[]
  staticTypes := #[(.object "jdk/internal/misc/Unsafe"), .boolean, .int, .int, .int, .int, .int, .int, .int, .int, .int, .int, .int, .int, .int, .int, .int, .int, .int, (.object "jdk/internal/access/JavaLangAccess"), .int]
  resolved := Array.replicate 378 none
  statics := none }

def pool15 : Array CpInfo := pool [(1, u "java/lang/Cloneable"), (0, .class_ 1), (0, u "java/lang/Object"), (0, .class_ 3)] 3

/-- java/lang/Cloneable -/
def k15 : Class := { plain "java/lang/Cloneable" (some 0) with
  accessFlags := 1537
  interfaces := #[]
  cf := some (fileOf pool15 2 #[] #[] 1537 4 #[] #[])
  fields := #[]
  methods := #[]
  instanceTypes := #[]
  staticTypes := #[]
  resolved := Array.replicate 8 none
  statics := none }

/-- the primitive byte -/
def k16 : Class := { plain "byte" none with kind := .primitive 'B', accessFlags := 0x411 }
/-- [B -/
def k17 : Class := { plain "[B" (some 0) with kind := .array 16 .byte, interfaces := #[15, 4], accessFlags := 1041 }

/-- the primitive char -/
def k18 : Class := { plain "char" none with kind := .primitive 'C', accessFlags := 0x411 }
/-- [C -/
def k19 : Class := { plain "[C" (some 0) with kind := .array 18 .char, interfaces := #[15, 4], accessFlags := 1041 }

/-- the primitive int -/
def k20 : Class := { plain "int" none with kind := .primitive 'I', accessFlags := 0x411 }
/-- [I -/
def k21 : Class := { plain "[I" (some 0) with kind := .array 20 .int, interfaces := #[15, 4], accessFlags := 1041 }

def classes0 : Array Class := #[k0, k1, k2, k3, k4, k5, k6, k7, k8, k9, k10, k11, k12, k13, k14, k15, k16, k17, k18, k19, k20, k21]
/-- the class that the rule has made for the site at 3 of com/example/hotshelf/hotshelf/model/RecordKey.isShelfName -/
def k22 : Class := Jvm.LamKit.madeRec { classes := classes0 } "com/example/hotshelf/hotshelf/model/RecordKey" (Jvm.Lambda.Shape.mk "java/util/function/IntPredicate" "test" (Jvm.ClassFile.MethodDescriptor.mk ([Jvm.ClassFile.FieldType.int] : List Jvm.ClassFile.FieldType) (Option.some Jvm.ClassFile.FieldType.boolean)) ([] : List Jvm.ClassFile.FieldType) (6 : Nat) "com/example/hotshelf/hotshelf/model/RecordKey" "isShelfChar" (Jvm.ClassFile.MethodDescriptor.mk ([Jvm.ClassFile.FieldType.int] : List Jvm.ClassFile.FieldType) (Option.some Jvm.ClassFile.FieldType.boolean)) false (Jvm.ClassFile.MethodDescriptor.mk ([Jvm.ClassFile.FieldType.int] : List Jvm.ClassFile.FieldType) (Option.some Jvm.ClassFile.FieldType.boolean))) 22

/-- the class that the rule has made for the site at 4 of com/example/hotshelf/hotshelf/model/RecordKey.isRecordId -/
def k23 : Class := Jvm.LamKit.madeRec { classes := classes0 } "com/example/hotshelf/hotshelf/model/RecordKey" (Jvm.Lambda.Shape.mk "java/util/function/IntPredicate" "test" (Jvm.ClassFile.MethodDescriptor.mk ([Jvm.ClassFile.FieldType.int] : List Jvm.ClassFile.FieldType) (Option.some Jvm.ClassFile.FieldType.boolean)) ([] : List Jvm.ClassFile.FieldType) (6 : Nat) "com/example/hotshelf/hotshelf/model/RecordKey" "isIdChar" (Jvm.ClassFile.MethodDescriptor.mk ([Jvm.ClassFile.FieldType.int] : List Jvm.ClassFile.FieldType) (Option.some Jvm.ClassFile.FieldType.boolean)) false (Jvm.ClassFile.MethodDescriptor.mk ([Jvm.ClassFile.FieldType.int] : List Jvm.ClassFile.FieldType) (Option.some Jvm.ClassFile.FieldType.boolean))) 23

def heap : Heap := #[{ cls := 9, slots := #[.long 0, .int 1, .null, .int 0, .null, .int 0, .int 0], vm := .statics 9 },
  { cls := 13, slots := #[.null, .null, .null], vm := .statics 13 },
  { cls := 22, slots := #[], vm := .none },
  { cls := 23, slots := #[], vm := .none }]
def classes : Array Class := #[k0, k1, k2, k3, k4, k5, k6, k7, k8, k9, k10, k11, k12, k13, k14, k15, k16, k17, k18, k19, k20, k21, k22, k23]
def interned : List (Array UInt16 × Addr) := []
def slotsUsed : Nat := 10
def theMethod : MethodId := ⟨1, 1⟩
def args0 : Array Value := #[.int 5, .int 1, .int 3, .int 2, .int 4, .int 7]
def aboutOver (below : List Frame) : State where
  vm := { classes := classes, interned := interned.toArray }
  heap := heap
  slotsUsed := slotsUsed
  threads := #[{ frames := .invoking theMethod args0 :: below }]
def below0 : List Frame := [.native { method := ⟨0, 0⟩, args := #[] }]
def about1 : State := aboutOver below0
def p0 : Program := .bare "" "" ""
def e0 : Env := launch0.env 0 0 0
theorem w_frames : about1.frames = Frame.invoking theMethod args0 :: below0 := rfl
set_option maxRecDepth 65536 in
theorem w_args : argsFit about1.vm theMethod args0 = true := by decide +kernel
set_option maxRecDepth 65536 in
theorem w_heap : heapFits about1 = true := by decide +kernel
set_option maxRecDepth 65536 in
theorem w_runnable : about1.curStatus? = some .runnable := by decide +kernel
set_option maxRecDepth 65536 in
theorem w_alone : about1.alone = true := by decide +kernel
set_option maxRecDepth 65536 in
theorem w_named : about1.methodNamed? x = some theMethod := by decide +kernel
set_option maxRecDepth 65536 in
theorem w_hears : about1.hears theMethod below0 = true := by decide +kernel
set_option maxRecDepth 65536 in
theorem w_ripe : about1.ripe theMethod args0 below0 = true := by decide +kernel
theorem w_running : about1.status = .running := rfl
set_option maxRecDepth 65536 in
theorem w_room : about1.hasRoom e0.platform room_1 = true :=
  launch0.hasRoom_least _ room_1 (by decide +kernel) (by decide +kernel) (by decide +kernel) (by decide +kernel) (by decide +kernel) (by decide +kernel)
theorem allAtoms_all (ts : List Jvm.Cond) (a : Array Jvm.Value) (st : Jvm.State) : (allAtoms ts).before a st = ts.all (fun c => c.before a st) := by
  induction ts with
  | nil => rfl
  | cons c t ih =>
    show (Jvm.Cond.and c (allAtoms t)).before a st = _
    rw [Jvm.Cond.before_and, ih, List.all_cons]
def words1 : List Jvm.Cond := Jvm.Cond.code x code maxLocals ret :: tables_1
/-- a 'code' word, met by the world's own term for the bytes: nothing is compared byte by byte -/
theorem code_word {y : MethodName} {bytes : ByteArray} {mx : Nat} {rt : Option FieldType} {a : Array Value} {s : State} {m : MethodId} {meth : Method} {c : Code} (h1 : s.methodNamed? y = some m) (h2 : s.vm.method? m = some meth) (h3 : meth.code = some c) (h4 : c.code = bytes)
    (h5 : (c.maxLocals == mx && c.exceptionTable.isEmpty && decide (c.maxStack ≤ mostOperands) && decide (meth.sig.returnType = rt) && !meth.locks && decide (parseMethodDescriptor y.desc = some meth.sig)) = true) : (Jvm.Cond.code y bytes mx rt).before a s = true := by
  simp only [Bool.and_eq_true, beq_iff_eq, Bool.not_eq_true', decide_eq_true_eq] at h5
  obtain ⟨⟨⟨⟨⟨g1, g2⟩, g3⟩, g4⟩, g5⟩, g6⟩ := h5
  simp [Cond.before, Cond.holds, Cond.value, h1, h2, h3, h4, g1, g2, g3, g4, g5, g6]
def isCode : Jvm.Cond → Bool
  | .code _ _ _ _ => true
  | _ => false
theorem all_split {L : List Jvm.Cond} {P : Jvm.Cond → Bool} (h1 : L.all (fun c => isCode c || P c) = true) (h2 : ∀ c ∈ L.filter isCode, P c = true) : L.all P = true := by
  refine List.all_eq_true.mpr fun c hc => ?_
  have h := List.all_eq_true.mp h1 c hc
  rcases Bool.eq_false_or_eq_true (isCode c) with hi | hi
  · exact h2 c (List.mem_filter.mpr ⟨hc, hi⟩)
  · simpa [hi] using h
set_option maxRecDepth 65536 in
theorem w_c0 : (Jvm.Cond.code x code maxLocals ret).before args0 about1 = true := code_word (m := ⟨1, 1⟩) (meth := k1m1) (c := k1c1) (by decide +kernel) rfl rfl rfl (by decide +kernel)
set_option maxRecDepth 65536 in
theorem w_c1 : (Jvm.Cond.code ({ cls := "com/example/hotshelf/hotshelf/model/RecordKeyHashCodePinLaw", name := "shelfChar", desc := "(I)C" } : Jvm.MethodName) method_3_code (2 : Nat) (Option.some Jvm.ClassFile.FieldType.char)).before args0 about1 = true := code_word (m := ⟨1, 2⟩) (meth := k1m2) (c := k1c2) (by decide +kernel) rfl rfl rfl (by decide +kernel)
set_option maxRecDepth 65536 in
theorem w_c2 : (Jvm.Cond.code ({ cls := "com/example/hotshelf/hotshelf/model/RecordKeyHashCodePinLaw", name := "idChar", desc := "(I)C" } : Jvm.MethodName) method_4_code (2 : Nat) (Option.some Jvm.ClassFile.FieldType.char)).before args0 about1 = true := code_word (m := ⟨1, 3⟩) (meth := k1m3) (c := k1c3) (by decide +kernel) rfl rfl rfl (by decide +kernel)
set_option maxRecDepth 65536 in
theorem w_c3 : (Jvm.Cond.code ({ cls := "com/example/hotshelf/hotshelf/model/RecordKeyHashCodePinLaw", name := "str", desc := "(ICC)Ljava/lang/String;" } : Jvm.MethodName) method_5_code (3 : Nat) (Option.some (Jvm.ClassFile.FieldType.object "java/lang/String"))).before args0 about1 = true := code_word (m := ⟨1, 4⟩) (meth := k1m4) (c := k1c4) (by decide +kernel) rfl rfl rfl (by decide +kernel)
set_option maxRecDepth 65536 in
theorem w_c4 : (Jvm.Cond.code ({ cls := "java/lang/String", name := "<init>", desc := "([C)V" } : Jvm.MethodName) jdk_42_method_3_code (2 : Nat) (Option.none : Option Jvm.ClassFile.FieldType)).before args0 about1 = true := code_word (m := ⟨9, 1⟩) (meth := k9m1) (c := k9c1) (by decide +kernel) rfl rfl rfl (by decide +kernel)
set_option maxRecDepth 65536 in
theorem w_c5 : (Jvm.Cond.code ({ cls := "java/lang/String", name := "<init>", desc := "([CIILjava/lang/Void;)V" } : Jvm.MethodName) jdk_42_method_149_code (6 : Nat) (Option.none : Option Jvm.ClassFile.FieldType)).before args0 about1 = true := code_word (m := ⟨9, 6⟩) (meth := k9m6) (c := k9c6) (by decide +kernel) rfl rfl rfl (by decide +kernel)
set_option maxRecDepth 65536 in
theorem w_c6 : (Jvm.Cond.code ({ cls := "java/lang/Object", name := "<init>", desc := "()V" } : Jvm.MethodName) object_method_1_code (1 : Nat) (Option.none : Option Jvm.ClassFile.FieldType)).before args0 about1 = true := code_word (m := ⟨0, 0⟩) (meth := k0m0) (c := k0c0) (by decide +kernel) rfl rfl rfl (by decide +kernel)
set_option maxRecDepth 65536 in
theorem w_c7 : (Jvm.Cond.code ({ cls := "java/lang/StringUTF16", name := "compress", desc := "([CII)[B" } : Jvm.MethodName) jdk_52_method_16_code (6 : Nat) (Option.some (Jvm.ClassFile.FieldType.array Jvm.ClassFile.FieldType.byte))).before args0 about1 = true := code_word (m := ⟨10, 2⟩) (meth := k10m2) (c := k10c2) (by decide +kernel) rfl rfl rfl (by decide +kernel)
set_option maxRecDepth 65536 in
theorem w_c8 : (Jvm.Cond.code ({ cls := "java/lang/StringUTF16", name := "compress", desc := "([CI[BII)I" } : Jvm.MethodName) jdk_52_method_21_code (7 : Nat) (Option.some Jvm.ClassFile.FieldType.int)).before args0 about1 = true := code_word (m := ⟨10, 3⟩) (meth := k10m3) (c := k10c3) (by decide +kernel) rfl rfl rfl (by decide +kernel)
set_option maxRecDepth 65536 in
theorem w_c9 : (Jvm.Cond.code ({ cls := "java/lang/StringUTF16", name := "coderFromArrayLen", desc := "([BI)B" } : Jvm.MethodName) jdk_52_method_15_code (2 : Nat) (Option.some Jvm.ClassFile.FieldType.byte)).before args0 about1 = true := code_word (m := ⟨10, 1⟩) (meth := k10m1) (c := k10c1) (by decide +kernel) rfl rfl rfl (by decide +kernel)
set_option maxRecDepth 65536 in
theorem w_c10 : (Jvm.Cond.code ({ cls := "com/example/hotshelf/hotshelf/model/RecordKey", name := "<init>", desc := "(Ljava/lang/String;Ljava/lang/String;)V" } : Jvm.MethodName) prog_16_method_1_code (3 : Nat) (Option.none : Option Jvm.ClassFile.FieldType)).before args0 about1 = true := code_word (m := ⟨3, 0⟩) (meth := k3m0) (c := k3c0) (by decide +kernel) rfl rfl rfl (by decide +kernel)
set_option maxRecDepth 65536 in
theorem w_c11 : (Jvm.Cond.code ({ cls := "java/lang/Record", name := "<init>", desc := "()V" } : Jvm.MethodName) jdk_30_method_1_code (1 : Nat) (Option.none : Option Jvm.ClassFile.FieldType)).before args0 about1 = true := code_word (m := ⟨2, 0⟩) (meth := k2m0) (c := k2c0) (by decide +kernel) rfl rfl rfl (by decide +kernel)
set_option maxRecDepth 65536 in
theorem w_c12 : (Jvm.Cond.code ({ cls := "com/example/hotshelf/hotshelf/model/RecordKey", name := "isShelfName", desc := "(Ljava/lang/String;)Z" } : Jvm.MethodName) prog_16_method_4_code (1 : Nat) (Option.some Jvm.ClassFile.FieldType.boolean)).before args0 about1 = true := code_word (m := ⟨3, 2⟩) (meth := k3m2) (c := k3c2) (by decide +kernel) rfl rfl rfl (by decide +kernel)
set_option maxRecDepth 65536 in
theorem w_c13 : (Jvm.Cond.code ({ cls := "com/example/hotshelf/hotshelf/model/RecordKey", name := "isMadeOf", desc := "(Ljava/lang/String;ILjava/util/function/IntPredicate;)Z" } : Jvm.MethodName) prog_16_method_6_code (4 : Nat) (Option.some Jvm.ClassFile.FieldType.boolean)).before args0 about1 = true := code_word (m := ⟨3, 4⟩) (meth := k3m4) (c := k3c4) (by decide +kernel) rfl rfl rfl (by decide +kernel)
set_option maxRecDepth 65536 in
theorem w_c14 : (Jvm.Cond.code ({ cls := "java/lang/String", name := "isEmpty", desc := "()Z" } : Jvm.MethodName) jdk_42_method_55_code (1 : Nat) (Option.some Jvm.ClassFile.FieldType.boolean)).before args0 about1 = true := code_word (m := ⟨9, 3⟩) (meth := k9m3) (c := k9c3) (by decide +kernel) rfl rfl rfl (by decide +kernel)
set_option maxRecDepth 65536 in
theorem w_c15 : (Jvm.Cond.code ({ cls := "java/lang/String", name := "length", desc := "()I" } : Jvm.MethodName) jdk_42_method_54_code (1 : Nat) (Option.some Jvm.ClassFile.FieldType.int)).before args0 about1 = true := code_word (m := ⟨9, 2⟩) (meth := k9m2) (c := k9c2) (by decide +kernel) rfl rfl rfl (by decide +kernel)
set_option maxRecDepth 65536 in
theorem w_c16 : (Jvm.Cond.code ({ cls := "java/lang/String", name := "coder", desc := "()B" } : Jvm.MethodName) jdk_42_method_152_code (1 : Nat) (Option.some Jvm.ClassFile.FieldType.byte)).before args0 about1 = true := code_word (m := ⟨9, 7⟩) (meth := k9m7) (c := k9c7) (by decide +kernel) rfl rfl rfl (by decide +kernel)
set_option maxRecDepth 65536 in
theorem w_c17 : (Jvm.Cond.code ({ cls := "java/lang/String", name := "charAt", desc := "(I)C" } : Jvm.MethodName) jdk_42_method_56_code (2 : Nat) (Option.some Jvm.ClassFile.FieldType.char)).before args0 about1 = true := code_word (m := ⟨9, 4⟩) (meth := k9m4) (c := k9c4) (by decide +kernel) rfl rfl rfl (by decide +kernel)
set_option maxRecDepth 65536 in
theorem w_c18 : (Jvm.Cond.code ({ cls := "java/lang/String", name := "isLatin1", desc := "()Z" } : Jvm.MethodName) jdk_42_method_154_code (1 : Nat) (Option.some Jvm.ClassFile.FieldType.boolean)).before args0 about1 = true := code_word (m := ⟨9, 8⟩) (meth := k9m8) (c := k9c8) (by decide +kernel) rfl rfl rfl (by decide +kernel)
set_option maxRecDepth 65536 in
theorem w_c19 : (Jvm.Cond.code ({ cls := "java/lang/StringLatin1", name := "charAt", desc := "([BI)C" } : Jvm.MethodName) jdk_43_method_2_code (2 : Nat) (Option.some Jvm.ClassFile.FieldType.char)).before args0 about1 = true := code_word (m := ⟨12, 1⟩) (meth := k12m1) (c := k12c1) (by decide +kernel) rfl rfl rfl (by decide +kernel)
set_option maxRecDepth 65536 in
theorem w_c20 : (Jvm.Cond.code ({ cls := "java/lang/String", name := "checkIndex", desc := "(II)V" } : Jvm.MethodName) jdk_42_method_155_code (2 : Nat) (Option.none : Option Jvm.ClassFile.FieldType)).before args0 about1 = true := code_word (m := ⟨9, 9⟩) (meth := k9m9) (c := k9c9) (by decide +kernel) rfl rfl rfl (by decide +kernel)
set_option maxRecDepth 65536 in
theorem w_c21 : (Jvm.Cond.code ({ cls := "jdk/internal/util/Preconditions", name := "checkIndex", desc := "(IILjava/util/function/BiFunction;)I" } : Jvm.MethodName) jdk_41_method_11_code (3 : Nat) (Option.some Jvm.ClassFile.FieldType.int)).before args0 about1 = true := code_word (m := ⟨13, 1⟩) (meth := k13m1) (c := k13c1) (by decide +kernel) rfl rfl rfl (by decide +kernel)
set_option maxRecDepth 65536 in
theorem w_c22 : (Jvm.Cond.code ({ cls := "com/example/hotshelf/hotshelf/model/RecordKey", name := "isShelfChar", desc := "(I)Z" } : Jvm.MethodName) prog_16_method_7_code (1 : Nat) (Option.some Jvm.ClassFile.FieldType.boolean)).before args0 about1 = true := code_word (m := ⟨3, 5⟩) (meth := k3m5) (c := k3c5) (by decide +kernel) rfl rfl rfl (by decide +kernel)
set_option maxRecDepth 65536 in
theorem w_c23 : (Jvm.Cond.code ({ cls := "com/example/hotshelf/hotshelf/model/RecordKey", name := "isRecordId", desc := "(Ljava/lang/String;)Z" } : Jvm.MethodName) prog_16_method_5_code (1 : Nat) (Option.some Jvm.ClassFile.FieldType.boolean)).before args0 about1 = true := code_word (m := ⟨3, 3⟩) (meth := k3m3) (c := k3c3) (by decide +kernel) rfl rfl rfl (by decide +kernel)
set_option maxRecDepth 65536 in
theorem w_c24 : (Jvm.Cond.code ({ cls := "com/example/hotshelf/hotshelf/model/RecordKey", name := "isIdChar", desc := "(I)Z" } : Jvm.MethodName) prog_16_method_8_code (1 : Nat) (Option.some Jvm.ClassFile.FieldType.boolean)).before args0 about1 = true := code_word (m := ⟨3, 6⟩) (meth := k3m6) (c := k3c6) (by decide +kernel) rfl rfl rfl (by decide +kernel)
set_option maxRecDepth 65536 in
theorem w_c25 : (Jvm.Cond.code ({ cls := "com/example/hotshelf/hotshelf/model/RecordKey", name := "hashCode", desc := "()I" } : Jvm.MethodName) prog_16_method_3_code (1 : Nat) (Option.some Jvm.ClassFile.FieldType.int)).before args0 about1 = true := code_word (m := ⟨3, 1⟩) (meth := k3m1) (c := k3c1) (by decide +kernel) rfl rfl rfl (by decide +kernel)
set_option maxRecDepth 65536 in
theorem w_c26 : (Jvm.Cond.code ({ cls := "java/lang/String", name := "hashCode", desc := "()I" } : Jvm.MethodName) jdk_42_method_78_code (2 : Nat) (Option.some Jvm.ClassFile.FieldType.int)).before args0 about1 = true := code_word (m := ⟨9, 5⟩) (meth := k9m5) (c := k9c5) (by decide +kernel) rfl rfl rfl (by decide +kernel)
set_option maxRecDepth 65536 in
theorem w_c27 : (Jvm.Cond.code ({ cls := "java/lang/StringLatin1", name := "hashCode", desc := "([B)I" } : Jvm.MethodName) jdk_43_method_21_code (1 : Nat) (Option.some Jvm.ClassFile.FieldType.int)).before args0 about1 = true := code_word (m := ⟨12, 2⟩) (meth := k12m2) (c := k12c2) (by decide +kernel) rfl rfl rfl (by decide +kernel)
set_option maxRecDepth 65536 in
theorem w_c28 : (Jvm.Cond.code ({ cls := "jdk/internal/util/ArraysSupport", name := "vectorizedHashCode", desc := "(Ljava/lang/Object;IIII)I" } : Jvm.MethodName) jdk_48_method_4_code (5 : Nat) (Option.some Jvm.ClassFile.FieldType.int)).before args0 about1 = true := code_word (m := ⟨14, 1⟩) (meth := k14m1) (c := k14c1) (by decide +kernel) rfl rfl rfl (by decide +kernel)
set_option maxRecDepth 65536 in
theorem w_c29 : (Jvm.Cond.code ({ cls := "jdk/internal/util/ArraysSupport", name := "signedHashCode", desc := "(I[BII)I" } : Jvm.MethodName) jdk_48_method_5_code (6 : Nat) (Option.some Jvm.ClassFile.FieldType.int)).before args0 about1 = true := code_word (m := ⟨14, 2⟩) (meth := k14m2) (c := k14c2) (by decide +kernel) rfl rfl rfl (by decide +kernel)
def codes1 : List Jvm.Cond := [Jvm.Cond.code x code maxLocals ret, Jvm.Cond.code ({ cls := "com/example/hotshelf/hotshelf/model/RecordKeyHashCodePinLaw", name := "shelfChar", desc := "(I)C" } : Jvm.MethodName) method_3_code (2 : Nat) (Option.some Jvm.ClassFile.FieldType.char), Jvm.Cond.code ({ cls := "com/example/hotshelf/hotshelf/model/RecordKeyHashCodePinLaw", name := "idChar", desc := "(I)C" } : Jvm.MethodName) method_4_code (2 : Nat) (Option.some Jvm.ClassFile.FieldType.char), Jvm.Cond.code ({ cls := "com/example/hotshelf/hotshelf/model/RecordKeyHashCodePinLaw", name := "str", desc := "(ICC)Ljava/lang/String;" } : Jvm.MethodName) method_5_code (3 : Nat) (Option.some (Jvm.ClassFile.FieldType.object "java/lang/String")), Jvm.Cond.code ({ cls := "java/lang/String", name := "<init>", desc := "([C)V" } : Jvm.MethodName) jdk_42_method_3_code (2 : Nat) (Option.none : Option Jvm.ClassFile.FieldType), Jvm.Cond.code ({ cls := "java/lang/String", name := "<init>", desc := "([CIILjava/lang/Void;)V" } : Jvm.MethodName) jdk_42_method_149_code (6 : Nat) (Option.none : Option Jvm.ClassFile.FieldType), Jvm.Cond.code ({ cls := "java/lang/Object", name := "<init>", desc := "()V" } : Jvm.MethodName) object_method_1_code (1 : Nat) (Option.none : Option Jvm.ClassFile.FieldType), Jvm.Cond.code ({ cls := "java/lang/StringUTF16", name := "compress", desc := "([CII)[B" } : Jvm.MethodName) jdk_52_method_16_code (6 : Nat) (Option.some (Jvm.ClassFile.FieldType.array Jvm.ClassFile.FieldType.byte)), Jvm.Cond.code ({ cls := "java/lang/StringUTF16", name := "compress", desc := "([CI[BII)I" } : Jvm.MethodName) jdk_52_method_21_code (7 : Nat) (Option.some Jvm.ClassFile.FieldType.int), Jvm.Cond.code ({ cls := "java/lang/StringUTF16", name := "coderFromArrayLen", desc := "([BI)B" } : Jvm.MethodName) jdk_52_method_15_code (2 : Nat) (Option.some Jvm.ClassFile.FieldType.byte), Jvm.Cond.code ({ cls := "com/example/hotshelf/hotshelf/model/RecordKey", name := "<init>", desc := "(Ljava/lang/String;Ljava/lang/String;)V" } : Jvm.MethodName) prog_16_method_1_code (3 : Nat) (Option.none : Option Jvm.ClassFile.FieldType), Jvm.Cond.code ({ cls := "java/lang/Record", name := "<init>", desc := "()V" } : Jvm.MethodName) jdk_30_method_1_code (1 : Nat) (Option.none : Option Jvm.ClassFile.FieldType), Jvm.Cond.code ({ cls := "com/example/hotshelf/hotshelf/model/RecordKey", name := "isShelfName", desc := "(Ljava/lang/String;)Z" } : Jvm.MethodName) prog_16_method_4_code (1 : Nat) (Option.some Jvm.ClassFile.FieldType.boolean), Jvm.Cond.code ({ cls := "com/example/hotshelf/hotshelf/model/RecordKey", name := "isMadeOf", desc := "(Ljava/lang/String;ILjava/util/function/IntPredicate;)Z" } : Jvm.MethodName) prog_16_method_6_code (4 : Nat) (Option.some Jvm.ClassFile.FieldType.boolean), Jvm.Cond.code ({ cls := "java/lang/String", name := "isEmpty", desc := "()Z" } : Jvm.MethodName) jdk_42_method_55_code (1 : Nat) (Option.some Jvm.ClassFile.FieldType.boolean), Jvm.Cond.code ({ cls := "java/lang/String", name := "length", desc := "()I" } : Jvm.MethodName) jdk_42_method_54_code (1 : Nat) (Option.some Jvm.ClassFile.FieldType.int), Jvm.Cond.code ({ cls := "java/lang/String", name := "coder", desc := "()B" } : Jvm.MethodName) jdk_42_method_152_code (1 : Nat) (Option.some Jvm.ClassFile.FieldType.byte), Jvm.Cond.code ({ cls := "java/lang/String", name := "charAt", desc := "(I)C" } : Jvm.MethodName) jdk_42_method_56_code (2 : Nat) (Option.some Jvm.ClassFile.FieldType.char), Jvm.Cond.code ({ cls := "java/lang/String", name := "isLatin1", desc := "()Z" } : Jvm.MethodName) jdk_42_method_154_code (1 : Nat) (Option.some Jvm.ClassFile.FieldType.boolean), Jvm.Cond.code ({ cls := "java/lang/StringLatin1", name := "charAt", desc := "([BI)C" } : Jvm.MethodName) jdk_43_method_2_code (2 : Nat) (Option.some Jvm.ClassFile.FieldType.char), Jvm.Cond.code ({ cls := "java/lang/String", name := "checkIndex", desc := "(II)V" } : Jvm.MethodName) jdk_42_method_155_code (2 : Nat) (Option.none : Option Jvm.ClassFile.FieldType), Jvm.Cond.code ({ cls := "jdk/internal/util/Preconditions", name := "checkIndex", desc := "(IILjava/util/function/BiFunction;)I" } : Jvm.MethodName) jdk_41_method_11_code (3 : Nat) (Option.some Jvm.ClassFile.FieldType.int), Jvm.Cond.code ({ cls := "com/example/hotshelf/hotshelf/model/RecordKey", name := "isShelfChar", desc := "(I)Z" } : Jvm.MethodName) prog_16_method_7_code (1 : Nat) (Option.some Jvm.ClassFile.FieldType.boolean), Jvm.Cond.code ({ cls := "com/example/hotshelf/hotshelf/model/RecordKey", name := "isRecordId", desc := "(Ljava/lang/String;)Z" } : Jvm.MethodName) prog_16_method_5_code (1 : Nat) (Option.some Jvm.ClassFile.FieldType.boolean), Jvm.Cond.code ({ cls := "com/example/hotshelf/hotshelf/model/RecordKey", name := "isIdChar", desc := "(I)Z" } : Jvm.MethodName) prog_16_method_8_code (1 : Nat) (Option.some Jvm.ClassFile.FieldType.boolean), Jvm.Cond.code ({ cls := "com/example/hotshelf/hotshelf/model/RecordKey", name := "hashCode", desc := "()I" } : Jvm.MethodName) prog_16_method_3_code (1 : Nat) (Option.some Jvm.ClassFile.FieldType.int), Jvm.Cond.code ({ cls := "java/lang/String", name := "hashCode", desc := "()I" } : Jvm.MethodName) jdk_42_method_78_code (2 : Nat) (Option.some Jvm.ClassFile.FieldType.int), Jvm.Cond.code ({ cls := "java/lang/StringLatin1", name := "hashCode", desc := "([B)I" } : Jvm.MethodName) jdk_43_method_21_code (1 : Nat) (Option.some Jvm.ClassFile.FieldType.int), Jvm.Cond.code ({ cls := "jdk/internal/util/ArraysSupport", name := "vectorizedHashCode", desc := "(Ljava/lang/Object;IIII)I" } : Jvm.MethodName) jdk_48_method_4_code (5 : Nat) (Option.some Jvm.ClassFile.FieldType.int), Jvm.Cond.code ({ cls := "jdk/internal/util/ArraysSupport", name := "signedHashCode", desc := "(I[BII)I" } : Jvm.MethodName) jdk_48_method_5_code (6 : Nat) (Option.some Jvm.ClassFile.FieldType.int)]
set_option maxRecDepth 65536 in
theorem codes_eq : words1.filter isCode = codes1 := rfl
theorem w_codes : ∀ c ∈ words1.filter isCode, c.before args0 about1 = true := by
  rw [codes_eq]
  intro c hc
  simp only [codes1, List.mem_cons, List.not_mem_nil, or_false] at hc
  rcases hc with rfl | rfl | rfl | rfl | rfl | rfl | rfl | rfl | rfl | rfl | rfl | rfl | rfl | rfl | rfl | rfl | rfl | rfl | rfl | rfl | rfl | rfl | rfl | rfl | rfl | rfl | rfl | rfl | rfl | rfl
  · exact w_c0
  · exact w_c1
  · exact w_c2
  · exact w_c3
  · exact w_c4
  · exact w_c5
  · exact w_c6
  · exact w_c7
  · exact w_c8
  · exact w_c9
  · exact w_c10
  · exact w_c11
  · exact w_c12
  · exact w_c13
  · exact w_c14
  · exact w_c15
  · exact w_c16
  · exact w_c17
  · exact w_c18
  · exact w_c19
  · exact w_c20
  · exact w_c21
  · exact w_c22
  · exact w_c23
  · exact w_c24
  · exact w_c25
  · exact w_c26
  · exact w_c27
  · exact w_c28
  · exact w_c29
set_option maxRecDepth 65536 in
theorem w_t1 : (words1.take 24).all (fun c => isCode c || c.before args0 about1) = true := by decide +kernel
set_option maxRecDepth 65536 in
theorem w_t2 : ((words1.drop 24).take 24).all (fun c => isCode c || c.before args0 about1) = true := by decide +kernel
set_option maxRecDepth 65536 in
theorem w_t3 : (((words1.drop 24).drop 24).take 24).all (fun c => isCode c || c.before args0 about1) = true := by decide +kernel
set_option maxRecDepth 65536 in
theorem w_t4 : ((((words1.drop 24).drop 24).drop 24).take 24).all (fun c => isCode c || c.before args0 about1) = true := by decide +kernel
set_option maxRecDepth 65536 in
theorem w_t5 : (((((words1.drop 24).drop 24).drop 24).drop 24).take 24).all (fun c => isCode c || c.before args0 about1) = true := by decide +kernel
set_option maxRecDepth 65536 in
theorem w_t6 : (((((words1.drop 24).drop 24).drop 24).drop 24).drop 24).all (fun c => isCode c || c.before args0 about1) = true := by decide +kernel
theorem w_tables : (allAtoms (Jvm.Cond.code x code maxLocals ret :: tables_1)).before args0 about1 = true := by
  rw [allAtoms_all]
  show words1.all (fun c => c.before args0 about1) = true
  refine all_split ?_ w_codes
  rw [← List.take_append_drop 24 words1, List.all_append, w_t1, ← List.take_append_drop 24 (words1.drop 24), List.all_append, w_t2, ← List.take_append_drop 24 ((words1.drop 24).drop 24), List.all_append, w_t3, ← List.take_append_drop 24 (((words1.drop 24).drop 24).drop 24), List.all_append, w_t4, ← List.take_append_drop 24 ((((words1.drop 24).drop 24).drop 24).drop 24), List.all_append, w_t5, w_t6]
  rfl
set_option maxRecDepth 65536 in
theorem w_rest : rest_1_c.before args0 about1 = true := by decide +kernel
set_option maxRecDepth 65536 in
theorem w_case : (Jvm.Cond.and given_1 narrow_1).before args0 about1 = true := by decide +kernel
theorem w_applies : (headSpec (Jvm.Cond.code x code maxLocals ret :: tables_1) room_1).applies x e0.platform about1 = true :=
  (Spec.applies_iff w_frames).mpr ⟨w_running, w_runnable, w_alone, w_named, w_hears, w_ripe, w_room, w_tables⟩
theorem atStart : AtStart classFile x code maxLocals ret World_1 tables_1 room_1 Calls_1 rest_1 Pre_1 launch0 p0 e0 about1 theMethod args0 below0 :=
  ⟨lists_1, trivial, launch0.admits_env _ _ _, launch0.least_env, fairChoices_fair.cas, fairChoices_fair.clock, w_frames, w_args, w_heap, w_applies, trivial, w_rest, w_case⟩
end start1
theorem witness_1 : WitnessClaimed_1 := ⟨start1.p0, start1.e0, start1.about1, start1.theMethod, start1.args0, start1.below0, start1.atStart⟩
end Jvm.Pilot.@@N@@
