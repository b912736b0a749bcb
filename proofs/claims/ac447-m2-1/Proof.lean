import JvmDerived
import JvmDerived.Pilot.@@N@@Statement
import JvmDerived.Pilot.@@N@@Code
set_option linter.unusedVariables false
set_option linter.unusedSimpArgs false
namespace Jvm.Pilot.@@N@@
open Jvm Jvm.ClassFile Sem Op Lib Jvm.Free Jvm.Stand Jvm.LawKit Jvm.RoadKit Bundle Jvm.Pilot.@@N@@.Jvm.D
/-! the setting of a body's walk, a point of it, and 'it comes to its end' -/
def oCtx (p : Program) (s : State) (m : MethodId) (meth : Method) (c : Code) (Z : State) (own : String) (cb : ByteArray) (ml : Nat) (nm : String) (rt : Option FieldType) (yy : MethodName) : Prop :=
  p.tables.exec = Jvm.exec ∧ Z.Warmed39 s.vm ∧ c.code = cb ∧ c.maxLocals = ml ∧ s.vm.findClass own = some m.cls ∧ meth.name = nm ∧ meth.sig.returnType = rt ∧ meth.locks = false ∧ s.methodNamed? yy = some m
def oSt (p : Program) (l : Launch) (e : Env) (R : Room) (s : State) (m : MethodId) (args : Array Value) (below : List Frame) (meth : Method) (c : Code) (Z T : State) (h : Heap) (cells slots : Nat) : Prop :=
  ∃ locs, Stand p l e R s m args below meth c T locs cells slots ∧ T.heap = h ∧ Fr Z.heap.size locs ∧ Ext Z.heap h
def oGoes (p : Program) (e : Env) (below : List Frame) (s Z T : State) (f : JFrame) (Q : Option Value → Heap → Prop) (cl sl : Nat) : Prop :=
  ∃ t o, Steps p.tables e below (T.setTop f) t ∧ t.status = .running ∧ Ended t below o ∧ ∃ v L, o = .returned v ∧ Q v t.heap ∧ Fr Z.heap.size L ∧ Ext Z.heap t.heap ∧ FrameEnd s o t L cl sl
/-- a body's contract: called with 'as' at the heap h0 it returns, and Q says what it leaves -/
def oMet (l : Launch) (Z : State) (y : MethodName) (cb : ByteArray) (ml : Nat) (rt : Option FieldType) (rm : Room) (ws : List Jvm.Cond) (as : Array Value) (h0 : Heap) (Q : Option Value → Heap → Prop) : Prop :=
  Ext Z.heap h0 → MetFree l y (head1 (Jvm.Cond.code y cb ml rt :: ws) rm) (fun a U => a = as ∧ Z.Warmed39 U.vm ∧ U.heap = h0) (fun _ _ _ _ _ => True)
    (fun _ U o U' => ∃ v L, o = .returned v ∧ (Q v U'.heap ∧ Fr Z.heap.size L ∧ Ext Z.heap U'.heap) ∧ FrameEnd U o U' L rm.cells rm.slots)
section Own
variable {p : Program} {l : Launch} {e : Env} {R : Room} {s : State} {m : MethodId} {args : Array Value} {below : List Frame} {meth : Method} {c : Code} {Z T : State} {h : Heap} {cells slots cl sl : Nat} {own nm : String} {cb : ByteArray} {yy : MethodName} {ml : Nat} {rt : Option FieldType} {Q : Option Value → Heap → Prop} {L L' : Array Slot} {S : List Value} {pc pc' : Nat} {a0 : Array Value}
def vI (z : Int32) : Slot := .val (.int z)
def vJ (z : Int64) : Slot := .val (.long z)
def vR (a : Addr) : Slot := .val (.ref a)
def vN : Slot := .val .null
def uS : Slot := .unset
def sS : Slot := .second
theorem oLe {b x : Nat} (h : b = x) : x ≤ b := Nat.le_of_eq h.symm
theorem oLz {a b x : Nat} (h1 : a < x) (h2 : x ≤ b) : a ≠ b := Nat.ne_of_lt (Nat.lt_of_lt_of_le h1 h2)
theorem oLn {a b x y : Nat} (h1 : a < x) (h2 : x ≤ y) (h3 : y ≤ b) : a ≠ b := Nat.ne_of_lt (Nat.lt_of_lt_of_le (Nat.lt_of_lt_of_le h1 h2) h3)
theorem oLsz {a b x : Nat} (h1 : a < x) (h2 : x ≤ b) : b ≠ a := Ne.symm (oLz h1 h2)
theorem oLsn {a b x y : Nat} (h1 : a < x) (h2 : x ≤ y) (h3 : y ≤ b) : b ≠ a := Ne.symm (oLn h1 h2 h3)
theorem me0 {α : Type} {a : α} {l : List α} : a ∈ a :: l := List.mem_cons_self
theorem me1 {α : Type} {a0 a1 : α} {l : List α} : a1 ∈ a0 :: a1 :: l := List.mem_cons_of_mem _ me0
theorem oGoes.go {T' : State} {f f' : JFrame} (g : oGoes p e below s Z T' f' Q cl sl) (st : ∀ t, Steps p.tables e below (T'.setTop f') t → Steps p.tables e below (T.setTop f) t) : oGoes p e below s Z T f Q cl sl := by
  obtain ⟨t, o, h1, r⟩ := g
  exact ⟨t, o, st t h1, r⟩
theorem oSt.mono (X : oSt p l e R s m args below meth c Z T h cells slots) {c' n' : Nat} (hc : cells ≤ c') (hn : slots ≤ n') : oSt p l e R s m args below meth c Z T h c' n' := by
  obtain ⟨locs, X, r⟩ := X
  exact ⟨locs, ⟨X.admits, X.cas, X.clock, X.frames, X.room, X.hears, X.method, X.code, X.here, X.tail, X.warmed, X.limits, X.bytes, X.same.mono hc hn⟩, r⟩
theorem oSt.ext0 (X : oSt p l e R s m args below meth c Z T h cells slots) : Ext Z.heap h := by obtain ⟨_, _, _, _, E⟩ := X; exact E
theorem oExt_wr {h h' : Heap} {a : Addr} {k : Nat} {v : Value} (E : Ext Z.heap h) (W : Wr h h' a k v) (q : Z.heap.size ≤ a) : Ext Z.heap h' :=
  (Old.wr (n0 := Z.heap.size) ⟨rfl, E⟩ W q).2
theorem oExt_trans {h1 h2 h3 : Heap} (E : Ext h1 h2) (E' : Ext h2 h3) : Ext h1 h3 := ⟨Nat.le_trans E.1 E'.1, fun a c q => E'.2 a c (E.2 a c q)⟩
theorem oEnter {y : MethodName} {ws : List Jvm.Cond} {rm : Room} {as : Array Value} {h0 : Heap} (hx : plainFor y = true) (ho : y.cls = own) (hn : y.name = nm) {L : Array Slot} (hf : ∀ m, entryFrame m as ml = mkF m 0 L [])
    (body : ∀ p e s m below meth c T, oCtx p s m meth c Z own cb ml nm rt y → oSt p l e rm s m as below meth c Z T h0 0 0 → oGoes p e below s Z T (mkF m 0 L []) Q rm.cells rm.slots) : oMet l Z y cb ml rt rm ws as h0 Q := by
  intro E
  subst ho hn
  refine MetFree.of_bodySF hx hisR ?_
  intro p e s m args below meth c s₁ Bd hml0 hP hK
  obtain ⟨rfl, hZ, hh⟩ := hP
  have e0 : s₁.heap = h0 := by rw [← hh, Bd.state]; rfl
  obtain ⟨t, o, h1, h2, h3, v, L', h4, h5, h6, h7, h8⟩ := body p e s m below meth c s₁ ⟨Bd.exec, hZ, Bd.bytes, hml0, findClass_of_methodNamed Bd.named, (name_of_methodNamed Bd.named Bd.method).1, Bd.returns, BodyLoose.notSynchronized Bd, Bd.named⟩ ⟨[], Stand.of_body Bd, e0, Fr.nil _, E⟩
  exact ⟨t, o, castTop (hf m) h1, h2, h3, v, L', h4, ⟨h5, h6, h7⟩, h8⟩
theorem oLeave (X : oSt p l e R s m args below meth c Z T h cells slots) (rv : Option Value) (hv : meth.sig.returnType = none → rv = none) (hlk : meth.locks = false) (hQ : Q rv h) (hc : cells ≤ cl) (hs : slots ≤ sl) {f : JFrame}
    (st : ∀ fs, (∀ (f : JFrame) (acts : List Action), f.method = m → f.locked = none → f.entered = [] → (doReturn e (T.setTop f) acts rv).1 = T.setFrames fs) → Steps p.tables e below (T.setTop f) (T.setFrames fs)) : oGoes p e below s Z T f Q cl sl := by
  obtain ⟨locs, X, eT, N, E⟩ := X
  obtain ⟨fs, hr, hrun, hended, hW, hsame⟩ := X.leave (v := rv) hv hlk
  have e2 : (T.setFrames fs).heap = h := eT
  refine ⟨_, _, st fs hr, hrun, hended, _, locs, rfl, ?_, N, ?_, ⟨_, rfl⟩, hW, hsame.mono hc hs⟩
  · rw [e2]; exact hQ
  · rw [e2]; exact E
theorem o_return (K : oCtx p s m meth c Z own cb ml nm rt yy) (X : oSt p l e R s m args below meth c Z T h cells slots) (hd : decode cb pc = .ok (.return_, 1)) (hrt : rt = none) (hQ : Q none h) (hc : cells ≤ cl) (hs : slots ≤ sl) : oGoes p e below s Z T (mkF m pc L []) Q cl sl := by
  refine oLeave X none (fun _ => rfl) K.2.2.2.2.2.2.2.1 hQ hc hs fun fs hr => ?_
  obtain ⟨locs, X, eT, N, E⟩ := X
  exact X.returnOut K.1 (K.2.2.2.2.2.2.1.trans hrt) (hb K.2.2.1 hd) hr
theorem o_ireturnN (K : oCtx p s m meth c Z own cb ml nm rt yy) (X : oSt p l e R s m args below meth c Z T h cells slots) (t : FieldType) {z z' : Int32} (hd : decode cb pc = .ok (.ireturn, 1)) (hrt : rt = some t) (ht : t = .boolean ∨ t = .byte ∨ t = .char ∨ t = .short) (hz : nar t z = z') (hQ : Q (some (.int z')) h) (hc : cells ≤ cl) (hs : slots ≤ sl) : oGoes p e below s Z T (mkF m pc L (.int z :: S)) Q cl sl := by
  subst hz
  have hr0 : meth.sig.returnType = some t := K.2.2.2.2.2.2.1.trans hrt
  refine oLeave X (some (.int (nar t z))) (fun q => by rw [hr0] at q; cases q) K.2.2.2.2.2.2.2.1 hQ hc hs fun fs hr => ?_
  obtain ⟨locs, X, eT, N, E⟩ := X
  exact retN X K.1 (t := t) hr0 ht (hb K.2.2.1 hd) hr
theorem o_ireturn (K : oCtx p s m meth c Z own cb ml nm rt yy) (X : oSt p l e R s m args below meth c Z T h cells slots) {z : Int32} (hd : decode cb pc = .ok (.ireturn, 1)) (hrt : rt = some .int) (hQ : Q (some (.int z)) h) (hc : cells ≤ cl) (hs : slots ≤ sl) : oGoes p e below s Z T (mkF m pc L (.int z :: S)) Q cl sl := by
  have hr0 : meth.sig.returnType = some .int := K.2.2.2.2.2.2.1.trans hrt
  refine oLeave X (some (.int z)) (fun q => by rw [hr0] at q; cases q) K.2.2.2.2.2.2.2.1 hQ hc hs fun fs hl => ?_
  obtain ⟨locs, X, eT, N, E⟩ := X
  have hm' : T.vm.method? m = some meth := X.method'
  have hn : narrow .int (.int z) = .int z := rfl
  have hd' := hb K.2.2.1 hd
  have hx := K.1
  show Steps p.tables e below (T.setTop { method := m, pc := pc, locals := L, stack := _ :: S, locked := none }) _
  jvm_step X.here [X.here.top, hx, hd', hm', hr0, hn]
  first | (intro acts; rw [hl _ acts rfl rfl rfl]) | rw [hl _ _ rfl rfl rfl]
  exact Steps.refl _
theorem o_areturn (K : oCtx p s m meth c Z own cb ml nm rt yy) (X : oSt p l e R s m args below meth c Z T h cells slots) {t : FieldType} {v : Value} (hd : decode cb pc = .ok (.areturn, 1)) (hrt : rt = some t) (ht : t.isReference = true) (hv : v.isRef = true) (hQ : Q (some v) h) (hc : cells ≤ cl) (hs : slots ≤ sl) : oGoes p e below s Z T (mkF m pc L (v :: S)) Q cl sl := by
  have hr0 : meth.sig.returnType = some t := K.2.2.2.2.2.2.1.trans hrt
  refine oLeave X (some v) (fun q => by rw [hr0] at q; cases q) K.2.2.2.2.2.2.2.1 hQ hc hs fun fs hl => ?_
  obtain ⟨locs, X, eT, N, E⟩ := X
  have hm' : T.vm.method? m = some meth := X.method'
  have hd' := hb K.2.2.1 hd
  have hx := K.1
  show Steps p.tables e below (T.setTop { method := m, pc := pc, locals := L, stack := _ :: S, locked := none }) _
  jvm_step X.here [X.here.top, hx, hd', hm', hr0, ht, hv]
  first | (intro acts; rw [hl _ acts rfl rfl rfl]) | rw [hl _ _ rfl rfl rfl]
  exact Steps.refl _
theorem o_iload (K : oCtx p s m meth c Z own cb ml nm rt yy) (X : oSt p l e R s m args below meth c Z T h cells slots) {k : Nat} {v : Int32} (hd : decode cb pc = .ok (.iload k, 2)) (hp : pc + 2 = pc') (hl : L[k]? = some (.val (.int v))) (g : oGoes p e below s Z T (mkF m pc' L (.int v :: S)) Q cl sl) : oGoes p e below s Z T (mkF m pc L S) Q cl sl := by
  obtain ⟨_, X, -⟩ := X
  subst hp
  exact g.go fun t r => XS.iload X.here K.1 rfl (hb K.2.2.1 hd) hl r
theorem o_iloadN (K : oCtx p s m meth c Z own cb ml nm rt yy) (X : oSt p l e R s m args below meth c Z T h cells slots) {k : Fin 4} {v : Int32} (hd : decode cb pc = .ok (.iload_n k, 1)) (hp : pc + 1 = pc') (hl : L[k.val]? = some (.val (.int v))) (g : oGoes p e below s Z T (mkF m pc' L (.int v :: S)) Q cl sl) : oGoes p e below s Z T (mkF m pc L S) Q cl sl := by
  obtain ⟨_, X, -⟩ := X
  subst hp
  exact g.go fun t r => XS.iloadN X.here K.1 rfl (hb K.2.2.1 hd) hl r
theorem o_istore (K : oCtx p s m meth c Z own cb ml nm rt yy) (X : oSt p l e R s m args below meth c Z T h cells slots) {k : Nat} {v : Int32} (hd : decode cb pc = .ok (.istore k, 2)) (hp : pc + 2 = pc') (hl : storeLocals L k (.int v) = some L') (g : oGoes p e below s Z T (mkF m pc' L' S) Q cl sl) : oGoes p e below s Z T (mkF m pc L (.int v :: S)) Q cl sl := by
  obtain ⟨_, X, -⟩ := X
  subst hp
  exact g.go fun t r => XS.istore X.here K.1 rfl (hb K.2.2.1 hd) rfl hl r
theorem o_istoreN (K : oCtx p s m meth c Z own cb ml nm rt yy) (X : oSt p l e R s m args below meth c Z T h cells slots) {k : Fin 4} {v : Int32} (hd : decode cb pc = .ok (.istore_n k, 1)) (hp : pc + 1 = pc') (hl : storeLocals L k.val (.int v) = some L') (g : oGoes p e below s Z T (mkF m pc' L' S) Q cl sl) : oGoes p e below s Z T (mkF m pc L (.int v :: S)) Q cl sl := by
  obtain ⟨_, X, -⟩ := X
  subst hp
  exact g.go fun t r => XS.istoreN X.here K.1 rfl (hb K.2.2.1 hd) rfl hl r
theorem o_lloadN (K : oCtx p s m meth c Z own cb ml nm rt yy) (X : oSt p l e R s m args below meth c Z T h cells slots) {k : Fin 4} {v : Int64} (hd : decode cb pc = .ok (.lload_n k, 1)) (hp : pc + 1 = pc') (hl : L[k.val]? = some (.val (.long v))) (g : oGoes p e below s Z T (mkF m pc' L (.long v :: S)) Q cl sl) : oGoes p e below s Z T (mkF m pc L S) Q cl sl := by
  obtain ⟨_, X, -⟩ := X
  subst hp
  exact g.go fun t r => XS.lloadN X.here K.1 rfl (hb K.2.2.1 hd) hl r
theorem o_aload (K : oCtx p s m meth c Z own cb ml nm rt yy) (X : oSt p l e R s m args below meth c Z T h cells slots) {k : Nat} {v : Value} (hd : decode cb pc = .ok (.aload k, 2)) (hp : pc + 2 = pc') (hl : L[k]? = some (.val v)) (hv : v.isRef = true) (g : oGoes p e below s Z T (mkF m pc' L (v :: S)) Q cl sl) : oGoes p e below s Z T (mkF m pc L S) Q cl sl := by
  obtain ⟨_, X, -⟩ := X
  subst hp
  exact g.go fun t r => XS.aload X.here K.1 rfl (hb K.2.2.1 hd) hl hv r
theorem o_aloadN (K : oCtx p s m meth c Z own cb ml nm rt yy) (X : oSt p l e R s m args below meth c Z T h cells slots) {k : Fin 4} {v : Value} (hd : decode cb pc = .ok (.aload_n k, 1)) (hp : pc + 1 = pc') (hl : L[k.val]? = some (.val v)) (hv : v.isRef = true) (g : oGoes p e below s Z T (mkF m pc' L (v :: S)) Q cl sl) : oGoes p e below s Z T (mkF m pc L S) Q cl sl := by
  obtain ⟨_, X, -⟩ := X
  subst hp
  exact g.go fun t r => XS.aloadN X.here K.1 rfl (hb K.2.2.1 hd) hl hv r
theorem o_astore (K : oCtx p s m meth c Z own cb ml nm rt yy) (X : oSt p l e R s m args below meth c Z T h cells slots) {k : Nat} {v : Value} (hd : decode cb pc = .ok (.astore k, 2)) (hp : pc + 2 = pc') (hv : v.isRef = true) (hl : storeLocals L k v = some L') (g : oGoes p e below s Z T (mkF m pc' L' S) Q cl sl) : oGoes p e below s Z T (mkF m pc L (v :: S)) Q cl sl := by
  obtain ⟨_, X, -⟩ := X
  subst hp
  exact g.go fun t r => XS.astore X.here K.1 rfl (hb K.2.2.1 hd) rfl hv hl r
theorem o_astoreN (K : oCtx p s m meth c Z own cb ml nm rt yy) (X : oSt p l e R s m args below meth c Z T h cells slots) {k : Fin 4} {v : Value} (hd : decode cb pc = .ok (.astore_n k, 1)) (hp : pc + 1 = pc') (hv : v.isRef = true) (hl : storeLocals L k.val v = some L') (g : oGoes p e below s Z T (mkF m pc' L' S) Q cl sl) : oGoes p e below s Z T (mkF m pc L (v :: S)) Q cl sl := by
  obtain ⟨_, X, -⟩ := X
  subst hp
  exact g.go fun t r => XS.astoreN X.here K.1 rfl (hb K.2.2.1 hd) rfl hv hl r
theorem o_iconst (K : oCtx p s m meth c Z own cb ml nm rt yy) (X : oSt p l e R s m args below meth c Z T h cells slots) {i : Int} {z : Int32} (hd : decode cb pc = .ok (.iconst i, 1)) (hp : pc + 1 = pc') (hz : Int32.ofInt i = z) (g : oGoes p e below s Z T (mkF m pc' L (.int z :: S)) Q cl sl) : oGoes p e below s Z T (mkF m pc L S) Q cl sl := by
  obtain ⟨_, X, -⟩ := X
  subst hp
  exact g.go fun t r => XS.iconst X.here K.1 rfl (hb K.2.2.1 hd) (hz ▸ r)
theorem o_bipush (K : oCtx p s m meth c Z own cb ml nm rt yy) (X : oSt p l e R s m args below meth c Z T h cells slots) {i : Int} {z : Int32} (hd : decode cb pc = .ok (.bipush i, 2)) (hp : pc + 2 = pc') (hz : (Int8.ofInt i).toInt32 = z) (g : oGoes p e below s Z T (mkF m pc' L (.int z :: S)) Q cl sl) : oGoes p e below s Z T (mkF m pc L S) Q cl sl := by
  obtain ⟨_, X, -⟩ := X
  subst hp
  exact g.go fun t r => XS.bipush X.here K.1 rfl (hb K.2.2.1 hd) (hz ▸ r)
theorem o_sipush (K : oCtx p s m meth c Z own cb ml nm rt yy) (X : oSt p l e R s m args below meth c Z T h cells slots) {i : Int} {z : Int32} (hd : decode cb pc = .ok (.sipush i, 3)) (hp : pc + 3 = pc') (hz : (Int16.ofInt i).toInt32 = z) (g : oGoes p e below s Z T (mkF m pc' L (.int z :: S)) Q cl sl) : oGoes p e below s Z T (mkF m pc L S) Q cl sl := by
  obtain ⟨_, X, -⟩ := X
  subst hp
  exact g.go fun t r => XS.sipush X.here K.1 rfl (hb K.2.2.1 hd) (hz ▸ r)
theorem o_aconst_null (K : oCtx p s m meth c Z own cb ml nm rt yy) (X : oSt p l e R s m args below meth c Z T h cells slots)  (hd : decode cb pc = .ok (.aconst_null, 1)) (hp : pc + 1 = pc') (g : oGoes p e below s Z T (mkF m pc' L (.null :: S)) Q cl sl) : oGoes p e below s Z T (mkF m pc L S) Q cl sl := by
  obtain ⟨_, X, -⟩ := X
  subst hp
  exact g.go fun t r => XS.aconstNull X.here K.1 rfl (hb K.2.2.1 hd) r
theorem o_iadd (K : oCtx p s m meth c Z own cb ml nm rt yy) (X : oSt p l e R s m args below meth c Z T h cells slots) {x y z : Int32} (hd : decode cb pc = .ok (.iadd, 1)) (hp : pc + 1 = pc') (hz : x + y = z) (g : oGoes p e below s Z T (mkF m pc' L (.int z :: S)) Q cl sl) : oGoes p e below s Z T (mkF m pc L (.int y :: .int x :: S)) Q cl sl := by
  obtain ⟨_, X, -⟩ := X
  subst hp
  exact g.go fun t r => XS.iadd X.here K.1 rfl (hb K.2.2.1 hd) rfl (hz ▸ r)
theorem o_isub (K : oCtx p s m meth c Z own cb ml nm rt yy) (X : oSt p l e R s m args below meth c Z T h cells slots) {x y z : Int32} (hd : decode cb pc = .ok (.isub, 1)) (hp : pc + 1 = pc') (hz : x - y = z) (g : oGoes p e below s Z T (mkF m pc' L (.int z :: S)) Q cl sl) : oGoes p e below s Z T (mkF m pc L (.int y :: .int x :: S)) Q cl sl := by
  obtain ⟨_, X, -⟩ := X
  subst hp
  exact g.go fun t r => XS.isub X.here K.1 rfl (hb K.2.2.1 hd) rfl (hz ▸ r)
theorem o_imul (K : oCtx p s m meth c Z own cb ml nm rt yy) (X : oSt p l e R s m args below meth c Z T h cells slots) {x y z : Int32} (hd : decode cb pc = .ok (.imul, 1)) (hp : pc + 1 = pc') (hz : x * y = z) (g : oGoes p e below s Z T (mkF m pc' L (.int z :: S)) Q cl sl) : oGoes p e below s Z T (mkF m pc L (.int y :: .int x :: S)) Q cl sl := by
  obtain ⟨_, X, -⟩ := X
  subst hp
  exact g.go fun t r => XS.imul X.here K.1 rfl (hb K.2.2.1 hd) rfl (hz ▸ r)
theorem o_iand (K : oCtx p s m meth c Z own cb ml nm rt yy) (X : oSt p l e R s m args below meth c Z T h cells slots) {x y z : Int32} (hd : decode cb pc = .ok (.iand, 1)) (hp : pc + 1 = pc') (hz : x &&& y = z) (g : oGoes p e below s Z T (mkF m pc' L (.int z :: S)) Q cl sl) : oGoes p e below s Z T (mkF m pc L (.int y :: .int x :: S)) Q cl sl := by
  obtain ⟨_, X, -⟩ := X
  subst hp
  exact g.go fun t r => XS.iand X.here K.1 rfl (hb K.2.2.1 hd) rfl (hz ▸ r)
theorem o_land (K : oCtx p s m meth c Z own cb ml nm rt yy) (X : oSt p l e R s m args below meth c Z T h cells slots) {x y z : Int64} (hd : decode cb pc = .ok (.land, 1)) (hp : pc + 1 = pc') (hz : x &&& y = z) (g : oGoes p e below s Z T (mkF m pc' L (.long z :: S)) Q cl sl) : oGoes p e below s Z T (mkF m pc L (.long y :: .long x :: S)) Q cl sl := by
  obtain ⟨_, X, -⟩ := X
  subst hp
  exact g.go fun t r => XS.land X.here K.1 rfl (hb K.2.2.1 hd) rfl (hz ▸ r)
theorem o_iushr (K : oCtx p s m meth c Z own cb ml nm rt yy) (X : oSt p l e R s m args below meth c Z T h cells slots) {x y z : Int32} (hd : decode cb pc = .ok (.iushr, 1)) (hp : pc + 1 = pc') (hz : (x.toUInt32 >>> (y &&& 31).toUInt32).toInt32 = z) (g : oGoes p e below s Z T (mkF m pc' L (.int z :: S)) Q cl sl) : oGoes p e below s Z T (mkF m pc L (.int y :: .int x :: S)) Q cl sl := by
  obtain ⟨_, X, -⟩ := X
  subst hp
  exact g.go fun t r => XS.iushr X.here K.1 rfl (hb K.2.2.1 hd) rfl (hz ▸ r)
theorem o_lushr (K : oCtx p s m meth c Z own cb ml nm rt yy) (X : oSt p l e R s m args below meth c Z T h cells slots) {x z : Int64} {y : Int32} (hd : decode cb pc = .ok (.lushr, 1)) (hp : pc + 1 = pc') (hz : (x.toUInt64 >>> (y &&& 0x3f).toInt64.toUInt64).toInt64 = z) (g : oGoes p e below s Z T (mkF m pc' L (.long z :: S)) Q cl sl) : oGoes p e below s Z T (mkF m pc L (.int y :: .long x :: S)) Q cl sl := by
  obtain ⟨_, X, -⟩ := X
  subst hp
  exact g.go fun t r => XS.lushr X.here K.1 rfl (hb K.2.2.1 hd) rfl (hz ▸ r)
theorem o_i2b (K : oCtx p s m meth c Z own cb ml nm rt yy) (X : oSt p l e R s m args below meth c Z T h cells slots) {x : Int32} {z : Int32} (hd : decode cb pc = .ok (.i2b, 1)) (hp : pc + 1 = pc') (hz : x.toInt8.toInt32 = z) (g : oGoes p e below s Z T (mkF m pc' L (.int z :: S)) Q cl sl) : oGoes p e below s Z T (mkF m pc L (.int x :: S)) Q cl sl := by
  obtain ⟨_, X, -⟩ := X
  subst hp
  exact g.go fun t r => XS.i2b X.here K.1 rfl (hb K.2.2.1 hd) rfl (hz ▸ r)
theorem o_i2c (K : oCtx p s m meth c Z own cb ml nm rt yy) (X : oSt p l e R s m args below meth c Z T h cells slots) {x : Int32} {z : Int32} (hd : decode cb pc = .ok (.i2c, 1)) (hp : pc + 1 = pc') (hz : x.toUInt32.toUInt16.toUInt32.toInt32 = z) (g : oGoes p e below s Z T (mkF m pc' L (.int z :: S)) Q cl sl) : oGoes p e below s Z T (mkF m pc L (.int x :: S)) Q cl sl := by
  obtain ⟨_, X, -⟩ := X
  subst hp
  exact g.go fun t r => XS.i2c X.here K.1 rfl (hb K.2.2.1 hd) rfl (hz ▸ r)
theorem o_l2i (K : oCtx p s m meth c Z own cb ml nm rt yy) (X : oSt p l e R s m args below meth c Z T h cells slots) {x : Int64} {z : Int32} (hd : decode cb pc = .ok (.l2i, 1)) (hp : pc + 1 = pc') (hz : x.toInt32 = z) (g : oGoes p e below s Z T (mkF m pc' L (.int z :: S)) Q cl sl) : oGoes p e below s Z T (mkF m pc L (.long x :: S)) Q cl sl := by
  obtain ⟨_, X, -⟩ := X
  subst hp
  exact g.go fun t r => XS.l2i X.here K.1 rfl (hb K.2.2.1 hd) rfl (hz ▸ r)
theorem o_irem (K : oCtx p s m meth c Z own cb ml nm rt yy) (X : oSt p l e R s m args below meth c Z T h cells slots) {x y z : Int32} (hd : decode cb pc = .ok (.irem, 1)) (hp : pc + 1 = pc') (hy : y ≠ 0) (hz : x % y = z) (g : oGoes p e below s Z T (mkF m pc' L (.int z :: S)) Q cl sl) : oGoes p e below s Z T (mkF m pc L (.int y :: .int x :: S)) Q cl sl := by
  obtain ⟨_, X, -⟩ := X
  subst hp
  exact g.go fun t r => Jvm.RoadKit.iremM (g := mkF m pc L (.int y :: .int x :: S)) X K.1 rfl (hb K.2.2.1 hd) rfl hy (hz ▸ r)
theorem o_iinc (K : oCtx p s m meth c Z own cb ml nm rt yy) (X : oSt p l e R s m args below meth c Z T h cells slots) {k : Nat} {i : Int} {x : Int32} (hd : decode cb pc = .ok (.iinc k i, 3)) (hp : pc + 3 = pc') (hl : L[k]? = some (.val (.int x))) (hl' : storeLocals L k (.int (x + Int32.ofInt i)) = some L') (g : oGoes p e below s Z T (mkF m pc' L' S) Q cl sl) : oGoes p e below s Z T (mkF m pc L S) Q cl sl := by
  obtain ⟨_, X, -⟩ := X
  subst hp
  exact g.go fun t r => XS.iinc X.here K.1 rfl (hb K.2.2.1 hd) hl hl' r
theorem o_dup (K : oCtx p s m meth c Z own cb ml nm rt yy) (X : oSt p l e R s m args below meth c Z T h cells slots) {v : Value} (hd : decode cb pc = .ok (.dup, 1)) (hp : pc + 1 = pc') (hc : v.category = 1) (g : oGoes p e below s Z T (mkF m pc' L (v :: v :: S)) Q cl sl) : oGoes p e below s Z T (mkF m pc L (v :: S)) Q cl sl := by
  obtain ⟨_, X, -⟩ := X
  subst hp
  exact g.go fun t r => XS.dup X.here K.1 rfl (hb K.2.2.1 hd) rfl hc r
theorem o_pop (K : oCtx p s m meth c Z own cb ml nm rt yy) (X : oSt p l e R s m args below meth c Z T h cells slots) {v : Value} (hd : decode cb pc = .ok (.pop, 1)) (hp : pc + 1 = pc') (hc : v.category = 1) (g : oGoes p e below s Z T (mkF m pc' L S) Q cl sl) : oGoes p e below s Z T (mkF m pc L (v :: S)) Q cl sl := by
  obtain ⟨_, X, -⟩ := X
  subst hp
  exact g.go fun t r => XS.pop X.here K.1 rfl (hb K.2.2.1 hd) rfl hc r
theorem o_dup_x1 (K : oCtx p s m meth c Z own cb ml nm rt yy) (X : oSt p l e R s m args below meth c Z T h cells slots) {v u : Value} (hd : decode cb pc = .ok (.dup_x1, 1)) (hp : pc + 1 = pc') (hc : v.category = 1) (hc2 : u.category = 1) (g : oGoes p e below s Z T (mkF m pc' L (v :: u :: v :: S)) Q cl sl) : oGoes p e below s Z T (mkF m pc L (v :: u :: S)) Q cl sl := by
  obtain ⟨_, X, -⟩ := X
  subst hp
  exact g.go fun t r => XS.dupX1 X.here K.1 rfl (hb K.2.2.1 hd) rfl hc hc2 r
theorem o_goto (K : oCtx p s m meth c Z own cb ml nm rt yy) (X : oSt p l e R s m args below meth c Z T h cells slots) {o : Int} (hd : decode cb pc = .ok (.goto o, 3)) (ho : 0 ≤ (pc : Int) + o) (hp : ((pc : Int) + o).toNat = pc') (g : oGoes p e below s Z T (mkF m pc' L S) Q cl sl) : oGoes p e below s Z T (mkF m pc L S) Q cl sl := by
  obtain ⟨_, X, -⟩ := X
  exact g.go fun t r => XS.goto X.here K.1 rfl (pc0 := pc) rfl (hb K.2.2.1 hd) ho hp r
theorem o_icmp_lt_f (K : oCtx p s m meth c Z own cb ml nm rt yy) (X : oSt p l e R s m args below meth c Z T h cells slots) {x y : Int32} {o : Int} (hd : decode cb pc = .ok (.if_icmp .lt o, 3)) (hp : pc + 3 = pc') (hc : ¬ x < y) (g : oGoes p e below s Z T (mkF m pc' L S) Q cl sl) : oGoes p e below s Z T (mkF m pc L (.int y :: .int x :: S)) Q cl sl := by
  obtain ⟨_, X, -⟩ := X
  subst hp
  exact g.go fun t r => XS.icmpNo X.here K.1 rfl (hb K.2.2.1 hd) rfl (flt hc).1 r
theorem o_icmp_ge_t (K : oCtx p s m meth c Z own cb ml nm rt yy) (X : oSt p l e R s m args below meth c Z T h cells slots) {x y : Int32} {o : Int} (hd : decode cb pc = .ok (.if_icmp .ge o, 3)) (ho : 0 ≤ (pc : Int) + o) (hp : ((pc : Int) + o).toNat = pc') (hc : ¬ x < y) (g : oGoes p e below s Z T (mkF m pc' L S) Q cl sl) : oGoes p e below s Z T (mkF m pc L (.int y :: .int x :: S)) Q cl sl := by
  obtain ⟨_, X, -⟩ := X
  exact g.go fun t r => XS.icmpYes X.here K.1 rfl (pc0 := pc) rfl (hb K.2.2.1 hd) rfl (flt hc).2.1 ho hp r
theorem o_icmp_ge_f (K : oCtx p s m meth c Z own cb ml nm rt yy) (X : oSt p l e R s m args below meth c Z T h cells slots) {x y : Int32} {o : Int} (hd : decode cb pc = .ok (.if_icmp .ge o, 3)) (hp : pc + 3 = pc') (hc : x < y) (g : oGoes p e below s Z T (mkF m pc' L S) Q cl sl) : oGoes p e below s Z T (mkF m pc L (.int y :: .int x :: S)) Q cl sl := by
  obtain ⟨_, X, -⟩ := X
  subst hp
  exact g.go fun t r => XS.icmpNo X.here K.1 rfl (hb K.2.2.1 hd) rfl (tlt hc).2.1 r
theorem o_icmp_gt_t (K : oCtx p s m meth c Z own cb ml nm rt yy) (X : oSt p l e R s m args below meth c Z T h cells slots) {x y : Int32} {o : Int} (hd : decode cb pc = .ok (.if_icmp .gt o, 3)) (ho : 0 ≤ (pc : Int) + o) (hp : ((pc : Int) + o).toNat = pc') (hc : y < x) (g : oGoes p e below s Z T (mkF m pc' L S) Q cl sl) : oGoes p e below s Z T (mkF m pc L (.int y :: .int x :: S)) Q cl sl := by
  obtain ⟨_, X, -⟩ := X
  exact g.go fun t r => XS.icmpYes X.here K.1 rfl (pc0 := pc) rfl (hb K.2.2.1 hd) rfl (tlt hc).2.2.1 ho hp r
theorem o_icmp_gt_f (K : oCtx p s m meth c Z own cb ml nm rt yy) (X : oSt p l e R s m args below meth c Z T h cells slots) {x y : Int32} {o : Int} (hd : decode cb pc = .ok (.if_icmp .gt o, 3)) (hp : pc + 3 = pc') (hc : ¬ y < x) (g : oGoes p e below s Z T (mkF m pc' L S) Q cl sl) : oGoes p e below s Z T (mkF m pc L (.int y :: .int x :: S)) Q cl sl := by
  obtain ⟨_, X, -⟩ := X
  subst hp
  exact g.go fun t r => XS.icmpNo X.here K.1 rfl (hb K.2.2.1 hd) rfl (flt hc).2.2.1 r
theorem o_if_gt_f (K : oCtx p s m meth c Z own cb ml nm rt yy) (X : oSt p l e R s m args below meth c Z T h cells slots) {x : Int32} {o : Int} (hd : decode cb pc = .ok (.ifCond .gt o, 3)) (hp : pc + 3 = pc') (hc : ¬ 0 < x) (g : oGoes p e below s Z T (mkF m pc' L S) Q cl sl) : oGoes p e below s Z T (mkF m pc L (.int x :: S)) Q cl sl := by
  obtain ⟨_, X, -⟩ := X
  subst hp
  exact g.go fun t r => XS.ifNo X.here K.1 rfl (hb K.2.2.1 hd) rfl ((if0 _ _).trans (flt hc).2.2.1) r
theorem o_icmp_le_t (K : oCtx p s m meth c Z own cb ml nm rt yy) (X : oSt p l e R s m args below meth c Z T h cells slots) {x y : Int32} {o : Int} (hd : decode cb pc = .ok (.if_icmp .le o, 3)) (ho : 0 ≤ (pc : Int) + o) (hp : ((pc : Int) + o).toNat = pc') (hc : ¬ y < x) (g : oGoes p e below s Z T (mkF m pc' L S) Q cl sl) : oGoes p e below s Z T (mkF m pc L (.int y :: .int x :: S)) Q cl sl := by
  obtain ⟨_, X, -⟩ := X
  exact g.go fun t r => XS.icmpYes X.here K.1 rfl (pc0 := pc) rfl (hb K.2.2.1 hd) rfl (flt hc).2.2.2 ho hp r
theorem o_icmp_le_f (K : oCtx p s m meth c Z own cb ml nm rt yy) (X : oSt p l e R s m args below meth c Z T h cells slots) {x y : Int32} {o : Int} (hd : decode cb pc = .ok (.if_icmp .le o, 3)) (hp : pc + 3 = pc') (hc : y < x) (g : oGoes p e below s Z T (mkF m pc' L S) Q cl sl) : oGoes p e below s Z T (mkF m pc L (.int y :: .int x :: S)) Q cl sl := by
  obtain ⟨_, X, -⟩ := X
  subst hp
  exact g.go fun t r => XS.icmpNo X.here K.1 rfl (hb K.2.2.1 hd) rfl (tlt hc).2.2.2 r
theorem o_icmp_eq_t (K : oCtx p s m meth c Z own cb ml nm rt yy) (X : oSt p l e R s m args below meth c Z T h cells slots) {x y : Int32} {o : Int} (hd : decode cb pc = .ok (.if_icmp .eq o, 3)) (ho : 0 ≤ (pc : Int) + o) (hp : ((pc : Int) + o).toNat = pc') (hc : x = y) (g : oGoes p e below s Z T (mkF m pc' L S) Q cl sl) : oGoes p e below s Z T (mkF m pc L (.int y :: .int x :: S)) Q cl sl := by
  obtain ⟨_, X, -⟩ := X
  exact g.go fun t r => XS.icmpYes X.here K.1 rfl (pc0 := pc) rfl (hb K.2.2.1 hd) rfl (teq hc).1 ho hp r
theorem o_if_eq_t (K : oCtx p s m meth c Z own cb ml nm rt yy) (X : oSt p l e R s m args below meth c Z T h cells slots) {x : Int32} {o : Int} (hd : decode cb pc = .ok (.ifCond .eq o, 3)) (ho : 0 ≤ (pc : Int) + o) (hp : ((pc : Int) + o).toNat = pc') (hc : x = 0) (g : oGoes p e below s Z T (mkF m pc' L S) Q cl sl) : oGoes p e below s Z T (mkF m pc L (.int x :: S)) Q cl sl := by
  obtain ⟨_, X, -⟩ := X
  exact g.go fun t r => XS.ifYes X.here K.1 rfl (pc0 := pc) rfl (hb K.2.2.1 hd) rfl ((if0 _ _).trans (teq hc).1) ho hp r
theorem o_if_eq_f (K : oCtx p s m meth c Z own cb ml nm rt yy) (X : oSt p l e R s m args below meth c Z T h cells slots) {x : Int32} {o : Int} (hd : decode cb pc = .ok (.ifCond .eq o, 3)) (hp : pc + 3 = pc') (hc : ¬ x = 0) (g : oGoes p e below s Z T (mkF m pc' L S) Q cl sl) : oGoes p e below s Z T (mkF m pc L (.int x :: S)) Q cl sl := by
  obtain ⟨_, X, -⟩ := X
  subst hp
  exact g.go fun t r => XS.ifNo X.here K.1 rfl (hb K.2.2.1 hd) rfl ((if0 _ _).trans (feq hc).1) r
theorem o_icmp_ne_t (K : oCtx p s m meth c Z own cb ml nm rt yy) (X : oSt p l e R s m args below meth c Z T h cells slots) {x y : Int32} {o : Int} (hd : decode cb pc = .ok (.if_icmp .ne o, 3)) (ho : 0 ≤ (pc : Int) + o) (hp : ((pc : Int) + o).toNat = pc') (hc : ¬ x = y) (g : oGoes p e below s Z T (mkF m pc' L S) Q cl sl) : oGoes p e below s Z T (mkF m pc L (.int y :: .int x :: S)) Q cl sl := by
  obtain ⟨_, X, -⟩ := X
  exact g.go fun t r => XS.icmpYes X.here K.1 rfl (pc0 := pc) rfl (hb K.2.2.1 hd) rfl (feq hc).2 ho hp r
theorem o_if_ne_t (K : oCtx p s m meth c Z own cb ml nm rt yy) (X : oSt p l e R s m args below meth c Z T h cells slots) {x : Int32} {o : Int} (hd : decode cb pc = .ok (.ifCond .ne o, 3)) (ho : 0 ≤ (pc : Int) + o) (hp : ((pc : Int) + o).toNat = pc') (hc : ¬ x = 0) (g : oGoes p e below s Z T (mkF m pc' L S) Q cl sl) : oGoes p e below s Z T (mkF m pc L (.int x :: S)) Q cl sl := by
  obtain ⟨_, X, -⟩ := X
  exact g.go fun t r => XS.ifYes X.here K.1 rfl (pc0 := pc) rfl (hb K.2.2.1 hd) rfl ((if0 _ _).trans (feq hc).2) ho hp r
theorem o_icmp_ne_f (K : oCtx p s m meth c Z own cb ml nm rt yy) (X : oSt p l e R s m args below meth c Z T h cells slots) {x y : Int32} {o : Int} (hd : decode cb pc = .ok (.if_icmp .ne o, 3)) (hp : pc + 3 = pc') (hc : x = y) (g : oGoes p e below s Z T (mkF m pc' L S) Q cl sl) : oGoes p e below s Z T (mkF m pc L (.int y :: .int x :: S)) Q cl sl := by
  obtain ⟨_, X, -⟩ := X
  subst hp
  exact g.go fun t r => XS.icmpNo X.here K.1 rfl (hb K.2.2.1 hd) rfl (teq hc).2 r
theorem o_if_ne_f (K : oCtx p s m meth c Z own cb ml nm rt yy) (X : oSt p l e R s m args below meth c Z T h cells slots) {x : Int32} {o : Int} (hd : decode cb pc = .ok (.ifCond .ne o, 3)) (hp : pc + 3 = pc') (hc : x = 0) (g : oGoes p e below s Z T (mkF m pc' L S) Q cl sl) : oGoes p e below s Z T (mkF m pc L (.int x :: S)) Q cl sl := by
  obtain ⟨_, X, -⟩ := X
  subst hp
  exact g.go fun t r => XS.ifNo X.here K.1 rfl (hb K.2.2.1 hd) rfl ((if0 _ _).trans (teq hc).2) r
theorem o_ifnonnull_t (K : oCtx p s m meth c Z own cb ml nm rt yy) (X : oSt p l e R s m args below meth c Z T h cells slots) {b : Addr} {o : Int} (hd : decode cb pc = .ok (.ifnonnull o, 3)) (ho : 0 ≤ (pc : Int) + o) (hp : ((pc : Int) + o).toNat = pc') (g : oGoes p e below s Z T (mkF m pc' L S) Q cl sl) : oGoes p e below s Z T (mkF m pc L (.ref b :: S)) Q cl sl := by
  obtain ⟨_, X, -⟩ := X
  exact g.go fun t r => XS.ifnonnullYes X.here K.1 rfl (pc0 := pc) rfl (hb K.2.2.1 hd) rfl ho hp r
theorem o_acmp (K : oCtx p s m meth c Z own cb ml nm rt yy) (X : oSt p l e R s m args below meth c Z T h cells slots) {cd : ACond} {x y : Value} {o : Int} (same : Bool) (hd : decode cb pc = .ok (.if_acmp cd o, 3)) (ho : 0 ≤ (pc : Int) + o) (h1 : x.isRef = true) (h2 : y.isRef = true) (hq : decide (x = y) = same) (hp : pc' = if acV cd same = true then ((pc : Int) + o).toNat else pc + 3) (g : oGoes p e below s Z T (mkF m pc' L S) Q cl sl) : oGoes p e below s Z T (mkF m pc L (y :: x :: S)) Q cl sl := by
  obtain ⟨_, X, -⟩ := X
  exact g.go fun t r => Jvm.RoadKit.acmp (g := mkF m pc L (y :: x :: S)) X K.1 rfl h1 h2 (pc0 := pc) rfl (hb K.2.2.1 hd) rfl hq ho hp r
theorem o_getfield (K : oCtx p s m meth c Z own cb ml nm rt yy) (X : oSt p l e R s m args below meth c Z T h cells slots) {R0 O n d host : String} {index : Nat} {a : Addr} {v : Value} (w : (Jvm.Cond.fieldLink own index R0 n d).before a0 Z = true ∨ (Jvm.Cond.fieldLinkNest own index R0 n d host).before a0 Z = true) (via : Via Z R0 O n d) (F : Fld Z h a O n d v) (hd : decode cb pc = .ok (.getfield index, 3)) (hp : pc + 3 = pc')
    (g : ∀ T', oSt p l e R s m args below meth c Z T' h cells slots → oGoes p e below s Z T' (mkF m pc' L (v :: S)) Q cl sl) : oGoes p e below s Z T (mkF m pc L (.ref a :: S)) Q cl sl := by
  obtain ⟨locs, X, eT, N, E⟩ := X
  subst hp
  obtain ⟨T', X', e', st⟩ := getF X K.1 K.2.1 K.2.2.2.2.1 w via eT F (g := mkF m pc L (.ref a :: S)) rfl rfl (hb K.2.2.1 hd)
  exact (g T' ⟨locs, X', e', N, E⟩).go st
theorem o_getstatic (K : oCtx p s m meth c Z own cb ml nm rt yy) (X : oSt p l e R s m args below meth c Z T h cells slots) {R0 O n d host : String} {index : Nat} {v : Value} (w : (Jvm.Cond.fieldLink own index R0 n d).before a0 Z = true ∨ (Jvm.Cond.fieldLinkNest own index R0 n d host).before a0 Z = true) (via : Via Z R0 O n d) (F : Sta Z h O n d v) (hd : decode cb pc = .ok (.getstatic index, 3)) (hp : pc + 3 = pc')
    (g : ∀ T', oSt p l e R s m args below meth c Z T' h cells slots → oGoes p e below s Z T' (mkF m pc' L (v :: S)) Q cl sl) : oGoes p e below s Z T (mkF m pc L S) Q cl sl := by
  obtain ⟨locs, X, eT, N, E⟩ := X
  subst hp
  obtain ⟨T', X', e', st⟩ := getS2 X K.1 K.2.1 K.2.2.2.2.1 w via eT F (g := mkF m pc L S) rfl (hb K.2.2.1 hd)
  exact (g T' ⟨locs, X', e', N, E⟩).go st
theorem o_putfield (K : oCtx p s m meth c Z own cb ml nm rt yy) (X : oSt p l e R s m args below meth c Z T h cells slots) {R0 O n d host C : String} {index kk : Nat} {ty : FieldType} {a : Addr} {v old : Value} (w : (Jvm.Cond.fieldLink own index R0 n d).before a0 Z = true ∨ (Jvm.Cond.fieldLinkNest own index R0 n d host).before a0 Z = true) (via : Via Z R0 O n d) (F : Fld Z h a O n d old) (Ex : Exa Z h a C) (Lz : (Jvm.Cond.lays C O n d).before a0 Z = true ∨ ((Jvm.Cond.laysFinal C O n d).before a0 Z = true ∧ own = O ∧ nm = "<init>")) (wi : (Jvm.Cond.instantiable C kk).before a0 Z = true) (hty : parseFieldDescriptor d = some ty) (hn : narrow ty v = v) (hf : fits ty v = true) (hza : Z.heap.size ≤ a) (hd : decode cb pc = .ok (.putfield index, 3)) (hp : pc + 3 = pc')
    (g : ∀ T' h', oSt p l e R s m args below meth c Z T' h' cells slots → Wr h h' a (Jvm.RoadKit.slotOf Z O n d) v → oGoes p e below s Z T' (mkF m pc' L S) Q cl sl) : oGoes p e below s Z T (mkF m pc L (v :: .ref a :: S)) Q cl sl := by
  obtain ⟨locs, X, eT, N, E⟩ := X
  subst hp
  obtain ⟨T', h', X', e', W, st⟩ := putF X K.1 K.2.1 K.2.2.2.2.1 w via eT F Ex (Lz.imp id fun q => ⟨q.1, q.2.1, K.2.2.2.2.2.1.trans q.2.2⟩) wi hty hn hf (g := mkF m pc L (v :: .ref a :: S)) rfl rfl (hb K.2.2.1 hd)
  exact (g T' h' ⟨_, X', e', Fr.snoc X' N hza, oExt_wr E W hza⟩ W).go st
theorem o_putfieldN (K : oCtx p s m meth c Z own cb ml nm rt yy) (X : oSt p l e R s m args below meth c Z T h cells slots) {R0 O n d C : String} {index kk : Nat} {ty : FieldType} {a : Addr} {v v' old : Value} (w : (Jvm.Cond.fieldLink own index R0 n d).before a0 Z = true) (via : Via Z R0 O n d) (F : Fld Z h a O n d old) (Ex : Exa Z h a C) (Lz : (Jvm.Cond.lays C O n d).before a0 Z = true ∨ ((Jvm.Cond.laysFinal C O n d).before a0 Z = true ∧ own = O ∧ nm = "<init>")) (wi : (Jvm.Cond.instantiable C kk).before a0 Z = true) (hty : parseFieldDescriptor d = some ty) (hn : narrow ty v = v') (hf : fits ty v' = true) (hza : Z.heap.size ≤ a) (hd : decode cb pc = .ok (.putfield index, 3)) (hp : pc + 3 = pc')
    (g : ∀ T' h', oSt p l e R s m args below meth c Z T' h' cells slots → Wr h h' a (Jvm.RoadKit.slotOf Z O n d) v' → oGoes p e below s Z T' (mkF m pc' L S) Q cl sl) : oGoes p e below s Z T (mkF m pc L (v :: .ref a :: S)) Q cl sl := by
  obtain ⟨locs, X, eT, N, E⟩ := X
  subst hp
  obtain ⟨T', h', X', e', W, st⟩ := putFN X K.1 K.2.1 K.2.2.2.2.1 w via eT F Ex (Lz.imp id fun q => ⟨q.1, q.2.1, K.2.2.2.2.2.1.trans q.2.2⟩) wi hty hn hf (g := mkF m pc L (v :: .ref a :: S)) rfl rfl (hb K.2.2.1 hd)
  exact (g T' h' ⟨_, X', e', Fr.snoc X' N hza, oExt_wr E W hza⟩ W).go st
theorem o_new (K : oCtx p s m meth c Z own cb ml nm rt yy) (X : oSt p l e R s m args below meth c Z T h cells slots) {C : String} {index n : Nat} (w : (Jvm.Cond.classLink own index C).before a0 Z = true) (wi : (Jvm.Cond.instantiable C n).before a0 Z = true) (wz : (Jvm.Cond.initialized C).before a0 Z = true) (hd : decode cb pc = .ok (.new index, 3)) (hp : pc + 3 = pc') (hc : cells + 1 ≤ R.cells) (hl : slots + n ≤ R.slots)
    (g : ∀ T' h' b, oSt p l e R s m args below meth c Z T' h' (cells + 1) (slots + n) → b = h.size → Ext h h' → Exa Z h' b C → (∀ {O nm d : String} {ty : FieldType}, Laid Z a0 C O nm d → parseFieldDescriptor d = some ty → Fld Z h' b O nm d (defaultValue ty)) → Z.heap.size ≤ b → oGoes p e below s Z T' (mkF m pc' L (.ref b :: S)) Q cl sl) : oGoes p e below s Z T (mkF m pc L S) Q cl sl := by
  obtain ⟨locs, X, eT, N, E⟩ := X
  subst hp
  obtain ⟨T', h', X', e', E', A, D, -, st⟩ := newO X K.1 K.2.1 K.2.2.2.2.1 w wi wz eT (g := mkF m pc L S) rfl (hb K.2.2.1 hd) hc hl
  exact (g T' h' h.size ⟨_, X', e', N, oExt_trans E E'⟩ rfl E' A D E.1).go st
theorem o_initObj (K : oCtx p s m meth c Z own cb ml nm rt yy) (X : oSt p l e R s m args below meth c Z T h cells slots) {index : Nat} {a : Addr} (w1 : (Jvm.Cond.methodLink own index Lib.objectInit).before a0 Z = true) (w2 : (Jvm.Cond.instanceMethod Lib.objectInit).before a0 Z = true) (w3 : (Jvm.Cond.code Lib.objectInit ⟨#[0xb1]⟩ 1 none).before a0 Z = true) (hd : decode cb pc = .ok (.invokespecial index, 3)) (hp : pc + 3 = pc') (hsz : L.size = ml) (hf : 1 ≤ R.frames) {W : Nat} (hW : (S.map fun v => v.category).sum = W) (hl : W + 12 ≤ R.locals)
    (g : ∀ T', oSt p l e R s m args below meth c Z T' h cells slots → oGoes p e below s Z T' (mkF m pc' L S) Q cl sl) : oGoes p e below s Z T (mkF m pc L (.ref a :: S)) Q cl sl := by
  obtain ⟨locs, X, eT, N, E⟩ := X
  subst hp
  obtain ⟨T', X', e', st⟩ := initO X K.1 K.2.1 K.2.2.2.2.1 w1 w2 w3 eT (g := mkF m pc L (.ref a :: S)) rfl (by show L.size = _; rw [K.2.2.2.1]; exact hsz) rfl (hb K.2.2.1 hd) hf (W := W) (by show 2 * 0 + _ ≤ _; omega) hl
  exact (g T' ⟨_, X', e', N, E⟩).go st
theorem o_static (K : oCtx p s m meth c Z own cb ml nm rt yy) (X : oSt p l e R s m args below meth c Z T h cells slots) {index : Nat} {y : MethodName} {bs : ByteArray} {mx : Nat} {rc : Option FieldType} {rm : Room} {as : Array Value} {Qc : Option Value → Heap → Prop} (w1 : (Jvm.Cond.methodLink own index y).before a0 Z = true) (w2 : (Jvm.Cond.static y).before a0 Z = true) (wz : (Jvm.Cond.initialized y.cls).before a0 Z = true) (wc : (Jvm.Cond.code y bs mx rc).before a0 Z = true) (hy : y.cls ≠ "java/lang/invoke/MethodHandle" ∧ y.cls ≠ "java/lang/invoke/VarHandle")
    (hM : oMet l Z y bs mx rc rm [] as h Qc) (hf : rm.frames + 1 ≤ R.frames) (hsz : L.size = ml) {argsL : List Value} (has : argsL.toArray = as) (hlen : ∀ sig, parseMethodDescriptor y.desc = some sig → argsL.length = sig.parameters.length) {W : Nat} (hW : (S.map fun v => v.category).sum = W) (hl : W + (mx + 11) + rm.locals ≤ R.locals) (hc : cells + rm.cells ≤ R.cells) (hs : slots + rm.slots ≤ R.slots) (hd : decode cb pc = .ok (.invokestatic index, 3)) (hp : pc + 3 = pc') (g : ∀ v T' h', oSt p l e R s m args below meth c Z T' h' (cells + rm.cells) (slots + rm.slots) → Qc v h' → oGoes p e below s Z T' (mkF m pc' L (v.toList ++ S)) Q cl sl) : oGoes p e below s Z T (mkF m pc L (argsL.reverse ++ S)) Q cl sl := by
  obtain ⟨locs, X, eT, N, E⟩ := X
  subst hp
  obtain ⟨v, _, ⟨T', L1, k1, n1⟩, -, X', ⟨Lc, hQ, l1, y1, z1⟩, st⟩ := Jvm.LawKit.callS X K.1 (y := y) K.2.2.2.2.1 (mvT K.2.1 w1) (mvT K.2.1 w2) (mvT K.2.1 wz) (mvT K.2.1 wc) hy (backOf (W := W) (Q := fun v h L => Qc v h ∧ Fr Z.heap.size L ∧ Ext Z.heap h) (hM E) K.2.1 wc wz hf hl) (g := mkF m pc L (argsL.reverse ++ S)) rfl (by show L.size = _; rw [K.2.2.2.1]; exact hsz) (argsL := argsL) (rest := S) hlen rfl (by show 2 * 0 + _ ≤ _; omega) (hb K.2.2.1 hd) (fun _ _ => ⟨has, eT, hc, hs⟩)
  dsimp only [Pt.U, Pt.locs, Pt.cells, Pt.slots] at X' l1 y1 z1 st hQ
  subst l1 y1 z1
  exact (g v T' _ ⟨_, X', rfl, Fr.app N hQ.2.1, hQ.2.2⟩ hQ.1).go st
theorem o_special (K : oCtx p s m meth c Z own cb ml nm rt yy) (X : oSt p l e R s m args below meth c Z T h cells slots) {index : Nat} {y : MethodName} {a : Addr} {bs : ByteArray} {mx : Nat} {rm : Room} {as : Array Value} {Qc : Option Value → Heap → Prop} (hy1 : y.name = "<init>") (w1 : (Jvm.Cond.methodLink own index y).before a0 Z = true) (w2 : (Jvm.Cond.instanceMethod y).before a0 Z = true) (wz : (Jvm.Cond.initialized y.cls).before a0 Z = true) (wc : (Jvm.Cond.code y bs mx none).before a0 Z = true) (hy : y.cls ≠ "java/lang/invoke/MethodHandle" ∧ y.cls ≠ "java/lang/invoke/VarHandle")
    (hM : oMet l Z y bs mx none rm [] as h Qc) (hf : rm.frames + 1 ≤ R.frames) (hsz : L.size = ml) {argsL : List Value} (has : (Value.ref a :: argsL).toArray = as) (hlen : ∀ sig, parseMethodDescriptor y.desc = some sig → argsL.length = sig.parameters.length) {W : Nat} (hW : (S.map fun v => v.category).sum = W) (hl : W + (mx + 11) + rm.locals ≤ R.locals) (hc : cells + rm.cells ≤ R.cells) (hs : slots + rm.slots ≤ R.slots) (hd : decode cb pc = .ok (.invokespecial index, 3)) (hp : pc + 3 = pc') (g : ∀ v T' h', oSt p l e R s m args below meth c Z T' h' (cells + rm.cells) (slots + rm.slots) → Qc v h' → oGoes p e below s Z T' (mkF m pc' L (v.toList ++ S)) Q cl sl) : oGoes p e below s Z T (mkF m pc L (argsL.reverse ++ .ref a :: S)) Q cl sl := by
  obtain ⟨locs, X, eT, N, E⟩ := X
  subst hp
  obtain ⟨v, _, ⟨T', L1, k1, n1⟩, -, X', ⟨Lc, hQ, l1, y1, z1⟩, st⟩ := X.specialBack K.1 (y := y) hy1 K.2.2.2.2.1 (mvT K.2.1 w1) (mvT K.2.1 w2) (mvT K.2.1 wc) hy (backOf (W := W) (Q := fun v h L => Qc v h ∧ Fr Z.heap.size L ∧ Ext Z.heap h) (hM E) K.2.1 wc wz hf hl) (g := mkF m pc L (argsL.reverse ++ .ref a :: S)) rfl (by show L.size = _; rw [K.2.2.2.1]; exact hsz) (Steps.refl _) (a := a) (argsL := argsL) (rest := S) hlen rfl (by show 2 * 0 + _ ≤ _; omega) (hb K.2.2.1 hd) (fun _ _ => ⟨has, eT, hc, hs⟩)
  dsimp only [Pt.U, Pt.locs, Pt.cells, Pt.slots] at X' l1 y1 z1 st hQ
  subst l1 y1 z1
  exact (g v T' _ ⟨_, X', rfl, Fr.app N hQ.2.1, hQ.2.2⟩ hQ.1).go fun t r => st.trans r
theorem o_virtual (K : oCtx p s m meth c Z own cb ml nm rt yy) (X : oSt p l e R s m args below meth c Z T h cells slots) {index : Nat} {y z : MethodName} {C : String} {a : Addr} {bs : ByteArray} {mx : Nat} {rc : Option FieldType} {rm : Room} {as : Array Value} {Qc : Option Value → Heap → Prop} (w1 : (Jvm.Cond.methodLink own index y).before a0 Z = true) (w2 : (Jvm.Cond.declares y).before a0 Z = true) (hnf : ∀ s' : State, Z.Warmed39 s'.vm → NotFace s' y) (w3 : (Jvm.Cond.selects C y z).before a0 Z = true) (w4 : (Jvm.Cond.instanceMethod z).before a0 Z = true) (wz : (Jvm.Cond.initialized z.cls).before a0 Z = true) (wc : (Jvm.Cond.code z bs mx rc).before a0 Z = true) (hy : y.cls ≠ "java/lang/invoke/MethodHandle" ∧ y.cls ≠ "java/lang/invoke/VarHandle") (Ex : Exa Z h a C)
    (hM : oMet l Z z bs mx rc rm [] as h Qc) (hf : rm.frames + 1 ≤ R.frames) (hsz : L.size = ml) {argsL : List Value} (has : (Value.ref a :: argsL).toArray = as) (hlen : ∀ sig, parseMethodDescriptor y.desc = some sig → argsL.length = sig.parameters.length) {W : Nat} (hW : (S.map fun v => v.category).sum = W) (hl : W + (mx + 11) + rm.locals ≤ R.locals) (hc : cells + rm.cells ≤ R.cells) (hs : slots + rm.slots ≤ R.slots) (hd : decode cb pc = .ok (.invokevirtual index, 3)) (hp : pc + 3 = pc') (g : ∀ v T' h', oSt p l e R s m args below meth c Z T' h' (cells + rm.cells) (slots + rm.slots) → Qc v h' → oGoes p e below s Z T' (mkF m pc' L (v.toList ++ S)) Q cl sl) : oGoes p e below s Z T (mkF m pc L (argsL.reverse ++ .ref a :: S)) Q cl sl := by
  obtain ⟨locs, X, eT, N, E⟩ := X
  subst hp
  obtain ⟨cq, kq, qa, qb, qc⟩ := isOf K.2.1 eT Ex
  obtain ⟨v, _, ⟨T', L1, k1, n1⟩, -, X', ⟨Lc, hQ, l1, y1, z1⟩, st⟩ := X.virtualBack K.1 (y := y) (z := z) K.2.2.2.2.1 (mvT K.2.1 w1) (mvT K.2.1 w2) (hnf _ K.2.1) (mvT K.2.1 w3) (mvT K.2.1 w4) hy (backOf (W := W) (Q := fun v h L => Qc v h ∧ Fr Z.heap.size L ∧ Ext Z.heap h) (hM E) K.2.1 wc wz hf hl) qa qc (g := mkF m pc L (argsL.reverse ++ .ref a :: S)) rfl (by show L.size = _; rw [K.2.2.2.1]; exact hsz) (Steps.refl _) (argsL := argsL) (rest := S) hlen rfl (by show 2 * 0 + _ ≤ _; omega) (hb K.2.2.1 hd) (fun _ _ => ⟨has, eT, hc, hs⟩)
  dsimp only [Pt.U, Pt.locs, Pt.cells, Pt.slots] at X' l1 y1 z1 st hQ
  subst l1 y1 z1
  exact (g v T' _ ⟨_, X', rfl, Fr.app N hQ.2.1, hQ.2.2⟩ hQ.1).go fun t r => st.trans r
theorem o_interface (K : oCtx p s m meth c Z own cb ml nm rt yy) (X : oSt p l e R s m args below meth c Z T h cells slots) {index cnt : Nat} {y z : MethodName} {C : String} {a : Addr} {bs : ByteArray} {mx : Nat} {rc : Option FieldType} {rm : Room} {as : Array Value} {Qc : Option Value → Heap → Prop} (w1 : (Jvm.Cond.methodLink own index y).before a0 Z = true) (w2 : (Jvm.Cond.declares y).before a0 Z = true) (w2' : (Jvm.Cond.interfaceMethod y.cls y.cls y.name y.desc).before a0 Z = true) (hfa : ((Jvm.Cond.interfaceMethod y.cls y.cls y.name y.desc).onTables && (Jvm.Cond.interfaceMethod y.cls y.cls y.name y.desc).keepsFace) = true) (w3 : (Jvm.Cond.selects C y z).before a0 Z = true) (w4 : (Jvm.Cond.instanceMethod z).before a0 Z = true) (w5 : (Jvm.Cond.publicMethod z).before a0 Z = true) (w6 : (Jvm.Cond.unhidden C y.name y.desc).before a0 Z = true) (w7 : (Jvm.Cond.castable C y.cls).before a0 Z = true) (wz : (Jvm.Cond.initialized z.cls).before a0 Z = true) (wc : (Jvm.Cond.code z bs mx rc).before a0 Z = true) (hy : y.cls ≠ "java/lang/invoke/MethodHandle" ∧ y.cls ≠ "java/lang/invoke/VarHandle") (Ex : Exa Z h a C)
    (hM : oMet l Z z bs mx rc rm [] as h Qc) (hf : rm.frames + 1 ≤ R.frames) (hsz : L.size = ml) {argsL : List Value} (has : (Value.ref a :: argsL).toArray = as) (hlen : ∀ sig, parseMethodDescriptor y.desc = some sig → argsL.length = sig.parameters.length) {W : Nat} (hW : (S.map fun v => v.category).sum = W) (hl : W + (mx + 11) + rm.locals ≤ R.locals) (hc : cells + rm.cells ≤ R.cells) (hs : slots + rm.slots ≤ R.slots) (hd : decode cb pc = .ok (.invokeinterface index cnt, 5)) (hp : pc + 5 = pc') (g : ∀ v T' h', oSt p l e R s m args below meth c Z T' h' (cells + rm.cells) (slots + rm.slots) → Qc v h' → oGoes p e below s Z T' (mkF m pc' L (v.toList ++ S)) Q cl sl) : oGoes p e below s Z T (mkF m pc L (argsL.reverse ++ .ref a :: S)) Q cl sl := by
  obtain ⟨locs, X, eT, N, E⟩ := X
  subst hp
  obtain ⟨cq, kq, qa, qb, qc⟩ := isOf K.2.1 eT Ex
  obtain ⟨v, _, ⟨T', L1, k1, n1⟩, -, X', ⟨Lc, hQ, l1, y1, z1⟩, st⟩ := X.interfaceBack K.1 (xi := y) (y := z) K.2.2.2.2.1 (mvT K.2.1 w1) (mvT K.2.1 w2) (mvT K.2.1 w2' (hd := hfa)) (mvT K.2.1 w3) (mvT K.2.1 w4) (mvT K.2.1 w5) (mvT K.2.1 w6) (mvT K.2.1 w7) hy (backOf (W := W) (Q := fun v h L => Qc v h ∧ Fr Z.heap.size L ∧ Ext Z.heap h) (hM E) K.2.1 wc wz hf hl) qa qb qc (g := mkF m pc L (argsL.reverse ++ .ref a :: S)) rfl (by show L.size = _; rw [K.2.2.2.1]; exact hsz) (Steps.refl _) (argsL := argsL) (rest := S) hlen rfl (by show 2 * 0 + _ ≤ _; omega) (hb K.2.2.1 hd) (fun _ _ => ⟨has, eT, hc, hs⟩)
  dsimp only [Pt.U, Pt.locs, Pt.cells, Pt.slots] at X' l1 y1 z1 st hQ
  subst l1 y1 z1
  exact (g v T' _ ⟨_, X', rfl, Fr.app N hQ.2.1, hQ.2.2⟩ hQ.1).go fun t r => st.trans r
theorem o_ldc (K : oCtx p s m meth c Z own cb ml nm rt yy) (X : oSt p l e R s m args below meth c Z T h cells slots) {index : Nat} {z : Int32} (w : (Jvm.Cond.constant own index z).before a0 Z = true) (hd : decode cb pc = .ok (.ldc index, 2)) (hp : pc + 2 = pc') (g : oGoes p e below s Z T (mkF m pc' L (.int z :: S)) Q cl sl) : oGoes p e below s Z T (mkF m pc L S) Q cl sl := by
  obtain ⟨locs, X, eT, N, E⟩ := X
  subst hp
  exact g.go (X.ldcInt K.1 K.2.2.2.2.1 (mvT K.2.1 w) (g := mkF m pc L S) rfl (hb K.2.2.1 hd))
theorem o_ldc2 (K : oCtx p s m meth c Z own cb ml nm rt yy) (X : oSt p l e R s m args below meth c Z T h cells slots) {index : Nat} {z : Int64} (w : (Jvm.Cond.constantLong own index z).before a0 Z = true) (hd : decode cb pc = .ok (.ldc2_w index, 3)) (hp : pc + 3 = pc') (g : oGoes p e below s Z T (mkF m pc' L (.long z :: S)) Q cl sl) : oGoes p e below s Z T (mkF m pc L S) Q cl sl := by
  obtain ⟨locs, X, eT, N, E⟩ := X
  subst hp
  exact g.go (X.ldc2Long K.1 K.2.2.2.2.1 (mvT K.2.1 w) (g := mkF m pc L S) rfl (hb K.2.2.1 hd))
theorem o_checkcast (K : oCtx p s m meth c Z own cb ml nm rt yy) (X : oSt p l e R s m args below meth c Z T h cells slots) {index : Nat} {C : String} {a : Addr} (w : (Jvm.Cond.classLink own index C).before a0 Z = true) (F : Ins Z h a C true) (hd : decode cb pc = .ok (.checkcast index, 3)) (hp : pc + 3 = pc') (g : ∀ T', oSt p l e R s m args below meth c Z T' h cells slots → oGoes p e below s Z T' (mkF m pc' L (.ref a :: S)) Q cl sl) : oGoes p e below s Z T (mkF m pc L (.ref a :: S)) Q cl sl := by
  obtain ⟨locs, X, eT, N, E⟩ := X
  subst hp
  obtain ⟨T', X', e', st⟩ := castY X K.1 K.2.1 K.2.2.2.2.1 w eT F (g := mkF m pc L (.ref a :: S)) rfl rfl (hb K.2.2.1 hd)
  exact (g T' ⟨_, X', e', N, E⟩).go st
theorem o_instanceof (K : oCtx p s m meth c Z own cb ml nm rt yy) (X : oSt p l e R s m args below meth c Z T h cells slots) {index : Nat} {C : String} {a : Addr} (w : (Jvm.Cond.classLink own index C).before a0 Z = true) (F : Ins Z h a C true) (hd : decode cb pc = .ok (.instanceof index, 3)) (hp : pc + 3 = pc') (g : ∀ T', oSt p l e R s m args below meth c Z T' h cells slots → oGoes p e below s Z T' (mkF m pc' L (.int 1 :: S)) Q cl sl) : oGoes p e below s Z T (mkF m pc L (.ref a :: S)) Q cl sl := by
  obtain ⟨locs, X, eT, N, E⟩ := X
  subst hp
  obtain ⟨T', X', e', st⟩ := instY X K.1 K.2.1 K.2.2.2.2.1 w eT F (g := mkF m pc L (.ref a :: S)) rfl rfl (hb K.2.2.1 hd)
  exact (g T' ⟨_, X', e', N, E⟩).go st
theorem o_instanceofNo (K : oCtx p s m meth c Z own cb ml nm rt yy) (X : oSt p l e R s m args below meth c Z T h cells slots) {index : Nat} {C D : String} {a : Addr} (w : (Jvm.Cond.classLink own index D).before a0 Z = true) (Ex : Exa Z h a C) (F : ∃ c t, Z.vm.findClass C = some c ∧ Z.vm.findClass D = some t ∧ Z.vm.assignable c t = false) (hd : decode cb pc = .ok (.instanceof index, 3)) (hp : pc + 3 = pc') (g : ∀ T', oSt p l e R s m args below meth c Z T' h cells slots → oGoes p e below s Z T' (mkF m pc' L (.int 0 :: S)) Q cl sl) : oGoes p e below s Z T (mkF m pc L (.ref a :: S)) Q cl sl := by
  obtain ⟨locs, X, eT, N, E⟩ := X
  subst hp
  obtain ⟨T', X', e', st⟩ := instNo X K.1 K.2.1 K.2.2.2.2.1 w eT Ex F (g := mkF m pc L (.ref a :: S)) rfl rfl (hb K.2.2.1 hd)
  exact (g T' ⟨_, X', e', N, E⟩).go st
def oArr (Z : State) (h : Heap) (a : Addr) (k : ClassId) (ty : FieldType) (vs : List Value) : Prop := ∃ c : Cell, Arr Z h a c ty ∧ c.cls = k ∧ c.slots = vs.toArray ∧ (∀ v ∈ vs, fits ty v = true) ∧ vs.length < 2 ^ 31
theorem oArr.lt {a : Addr} {k : ClassId} {ty : FieldType} {vs : List Value} (F : oArr Z h a k ty vs) : a < h.size := by obtain ⟨c, A, -⟩ := F; exact A.lt
theorem oArr.ext {h' : Heap} {a : Addr} {k : ClassId} {ty : FieldType} {vs : List Value} (F : oArr Z h a k ty vs) (E : Ext h h') : oArr Z h' a k ty vs := by obtain ⟨c, A, r⟩ := F; exact ⟨c, A.ext E, r⟩
theorem oArr.other {h' : Heap} {a b : Addr} {k : ClassId} {ty : FieldType} {vs : List Value} {sl : Nat} {v : Value} (F : oArr Z h b k ty vs) (W : Wr h h' a sl v) (q : b ≠ a) : oArr Z h' b k ty vs := by obtain ⟨c, A, r⟩ := F; exact ⟨c, A.other W q, r⟩
theorem oArr.keep {h' : Heap} {a : Addr} {k : ClassId} {ty : FieldType} {vs : List Value} {ws : List Addr} (F : oArr Z h a k ty vs) (Kp : Keep h h' ws) (q : a ∉ ws) : oArr Z h' a k ty vs := by obtain ⟨c, A, r⟩ := F; exact ⟨c, ⟨Kp.2.1 a c A.1 q, A.2⟩, r⟩
theorem oArr.set {h' : Heap} {a : Addr} {k : ClassId} {ty : FieldType} {vs : List Value} {j : Nat} {v : Value} (F : oArr Z h a k ty vs) (W : Wr h h' a j v) (hf : fits ty v = true) : oArr Z h' a k ty (vs.set j v) := by
  obtain ⟨c, A, q1, q2, q3, q4⟩ := F
  refine ⟨c.setSlot j v, A.same W, q1, ?_, fun u hu => ?_, by simpa using q4⟩
  · simp [Cell.setSlot, q2, List.setIfInBounds_toArray]
  · rcases List.mem_or_eq_of_mem_set hu with q | rfl
    · exact q3 _ q
    · exact hf
theorem oInb {vs : List Value} {c : Cell} {j : Int32} (q : c.slots = vs.toArray) (hj : ¬ j < 0) (hlt : j.toNatClampNeg < vs.length) : ¬ (j < 0 ∨ c.slots.size ≤ j.toNatClampNeg) := by
  rw [q]; simp only [List.size_toArray]
  rintro (h1 | h1)
  · exact hj h1
  · omega
theorem o_arraylength (K : oCtx p s m meth c Z own cb ml nm rt yy) (X : oSt p l e R s m args below meth c Z T h cells slots) {a : Addr} {k : ClassId} {ty : FieldType} {vs : List Value} {z : Int32} (F : oArr Z h a k ty vs) (hz : vs.length.toInt32 = z) (hd : decode cb pc = .ok (.arraylength, 1)) (hp : pc + 1 = pc') (g : oGoes p e below s Z T (mkF m pc' L (.int z :: S)) Q cl sl) : oGoes p e below s Z T (mkF m pc L (.ref a :: S)) Q cl sl := by
  obtain ⟨locs, X, eT, N, E⟩ := X
  obtain ⟨cc, A, q1, q2, q3, q4⟩ := F
  subst hp
  refine g.go fun t r => X.arraylength K.1 (by rw [eT]; exact A.1) (State.isArrayOf_alike K.2.1.alike A.2.1) (g := mkF m pc L (.ref a :: S)) rfl rfl (hb K.2.2.1 hd) _ ?_
  have e1 : cc.slots.size.toInt32 = z := by rw [q2]; simpa using hz
  rw [e1]; exact r
theorem o_caload (K : oCtx p s m meth c Z own cb ml nm rt yy) (X : oSt p l e R s m args below meth c Z T h cells slots) {a : Addr} {k : ClassId} {vs : List Value} {j : Int32} {v : Value} (F : oArr Z h a k .char vs) (hj : ¬ j < 0) (hv : vs[j.toNatClampNeg]? = some v) (hd : decode cb pc = .ok (.caload, 1)) (hp : pc + 1 = pc') (g : oGoes p e below s Z T (mkF m pc' L (v :: S)) Q cl sl) : oGoes p e below s Z T (mkF m pc L (.int j :: .ref a :: S)) Q cl sl := by
  obtain ⟨locs, X, eT, N, E⟩ := X
  obtain ⟨cc, A, q1, q2, q3, q4⟩ := F
  subst hp
  exact g.go fun t r => X.caload K.1 (by rw [eT]; exact A.1) (State.isArrayOf_alike K.2.1.alike A.2.1) A.2.2 (oInb q2 hj (List.getElem?_eq_some_iff.mp hv).1) (by rw [q2]; simpa using hv) (g := mkF m pc L (.int j :: .ref a :: S)) rfl rfl (hb K.2.2.1 hd) _ r
theorem o_baload (K : oCtx p s m meth c Z own cb ml nm rt yy) (X : oSt p l e R s m args below meth c Z T h cells slots) {a : Addr} {k : ClassId} {vs : List Value} {j : Int32} {v : Value} (F : oArr Z h a k .byte vs) (hj : ¬ j < 0) (hv : vs[j.toNatClampNeg]? = some v) (hd : decode cb pc = .ok (.baload, 1)) (hp : pc + 1 = pc') (g : oGoes p e below s Z T (mkF m pc' L (v :: S)) Q cl sl) : oGoes p e below s Z T (mkF m pc L (.int j :: .ref a :: S)) Q cl sl := by
  obtain ⟨locs, X, eT, N, E⟩ := X
  obtain ⟨cc, A, q1, q2, q3, q4⟩ := F
  subst hp
  exact g.go fun t r => X.baloadBytes K.1 (by rw [eT]; exact A.1) (State.isArrayOf_alike K.2.1.alike A.2.1) A.2.2 (oInb q2 hj (List.getElem?_eq_some_iff.mp hv).1) (by rw [q2]; simpa using hv) (g := mkF m pc L (.int j :: .ref a :: S)) rfl rfl (hb K.2.2.1 hd) _ r
theorem o_aaload (K : oCtx p s m meth c Z own cb ml nm rt yy) (X : oSt p l e R s m args below meth c Z T h cells slots) {a : Addr} {k : ClassId} {vs : List Value} {j : Int32} {v : Value} {ty : FieldType} (hty : ty.isReference = true) (F : oArr Z h a k ty vs) (hj : ¬ j < 0) (hv : vs[j.toNatClampNeg]? = some v) (hd : decode cb pc = .ok (.aaload, 1)) (hp : pc + 1 = pc') (g : oGoes p e below s Z T (mkF m pc' L (v :: S)) Q cl sl) : oGoes p e below s Z T (mkF m pc L (.int j :: .ref a :: S)) Q cl sl := by
  obtain ⟨locs, X, eT, N, E⟩ := X
  obtain ⟨cc, A, q1, q2, q3, q4⟩ := F
  subst hp
  exact g.go fun t r => X.aaload K.1 (by rw [eT]; exact A.1) (State.isArrayOf_alike K.2.1.alike A.2.1) hty A.2.2 (oInb q2 hj (List.getElem?_eq_some_iff.mp hv).1) (by rw [q2]; simpa using hv) (g := mkF m pc L (.int j :: .ref a :: S)) rfl rfl (hb K.2.2.1 hd) _ r
theorem o_castore (K : oCtx p s m meth c Z own cb ml nm rt yy) (X : oSt p l e R s m args below meth c Z T h cells slots) {a : Addr} {k : ClassId} {vs : List Value} {j : Int32} {x : Int32} {z : Value} (F : oArr Z h a k .char vs) (hj : ¬ j < 0) (hlt : j.toNatClampNeg < vs.length) (hza : Z.heap.size ≤ a) (hz : (.int (nar .char x) : Value) = z) (hd : decode cb pc = .ok (.castore, 1)) (hp : pc + 1 = pc')
    (g : ∀ T' h', oSt p l e R s m args below meth c Z T' h' cells slots → Wr h h' a j.toNatClampNeg z → oArr Z h' a k .char (vs.set j.toNatClampNeg z) → oGoes p e below s Z T' (mkF m pc' L S) Q cl sl) : oGoes p e below s Z T (mkF m pc L (.int x :: .int j :: .ref a :: S)) Q cl sl := by
  obtain ⟨locs, X, eT, N, E⟩ := X
  subst hp hz
  obtain ⟨cc, A, q1, q2, q3, q4⟩ := id F
  obtain ⟨T', h', X', e', W, st⟩ := stC X K.1 K.2.1 eT A (oInb q2 hj hlt) (g := mkF m pc L (.int x :: .int j :: .ref a :: S)) rfl rfl (hb K.2.2.1 hd)
  exact (g T' h' ⟨_, X', e', Fr.snoc X' N hza, oExt_wr E W hza⟩ W (F.set W (fits_nar_char x))).go st
theorem o_bastore (K : oCtx p s m meth c Z own cb ml nm rt yy) (X : oSt p l e R s m args below meth c Z T h cells slots) {a : Addr} {k : ClassId} {vs : List Value} {j : Int32} {x : Int32} {z : Value} (F : oArr Z h a k .byte vs) (hj : ¬ j < 0) (hlt : j.toNatClampNeg < vs.length) (hza : Z.heap.size ≤ a) (hz : (.int (nar .byte x) : Value) = z) (hd : decode cb pc = .ok (.bastore, 1)) (hp : pc + 1 = pc')
    (g : ∀ T' h', oSt p l e R s m args below meth c Z T' h' cells slots → Wr h h' a j.toNatClampNeg z → oArr Z h' a k .byte (vs.set j.toNatClampNeg z) → oGoes p e below s Z T' (mkF m pc' L S) Q cl sl) : oGoes p e below s Z T (mkF m pc L (.int x :: .int j :: .ref a :: S)) Q cl sl := by
  obtain ⟨locs, X, eT, N, E⟩ := X
  subst hp hz
  obtain ⟨cc, A, q1, q2, q3, q4⟩ := id F
  obtain ⟨T', h', X', e', W, st⟩ := stB X K.1 K.2.1 eT A (oInb q2 hj hlt) (g := mkF m pc L (.int x :: .int j :: .ref a :: S)) rfl rfl (hb K.2.2.1 hd)
  exact (g T' h' ⟨_, X', e', Fr.snoc X' N hza, oExt_wr E W hza⟩ W (F.set W (fits_nar_byte x))).go st
theorem o_aastore (K : oCtx p s m meth c Z own cb ml nm rt yy) (X : oSt p l e R s m args below meth c Z T h cells slots) {a : Addr} {k : ClassId} {vs : List Value} {j : Int32} {v : Value} {ty : FieldType} (hty : ty.isReference = true) (F : oArr Z h a k ty vs) (hj : ¬ j < 0) (hlt : j.toNatClampNeg < vs.length) (hza : Z.heap.size ≤ a) (hSto : Sto Z h a v) (hf : fits ty v = true) (hd : decode cb pc = .ok (.aastore, 1)) (hp : pc + 1 = pc')
    (g : ∀ T' h', oSt p l e R s m args below meth c Z T' h' cells slots → Wr h h' a j.toNatClampNeg v → oArr Z h' a k ty (vs.set j.toNatClampNeg v) → oGoes p e below s Z T' (mkF m pc' L S) Q cl sl) : oGoes p e below s Z T (mkF m pc L (v :: .int j :: .ref a :: S)) Q cl sl := by
  obtain ⟨locs, X, eT, N, E⟩ := X
  subst hp
  obtain ⟨cc, A, q1, q2, q3, q4⟩ := id F
  obtain ⟨T', h', X', e', W, st⟩ := stR X K.1 K.2.1 eT A (oInb q2 hj hlt) hty hSto (g := mkF m pc L (v :: .int j :: .ref a :: S)) rfl rfl (hb K.2.2.1 hd)
  exact (g T' h' ⟨_, X', e', Fr.snoc X' N hza, oExt_wr E W hza⟩ W (F.set W hf)).go st
theorem oArr_new {b : Addr} {k : ClassId} {ty : FieldType} {n : Int32} {c : Nat} (A : Arr Z h b (newA k ty n) ty) (hn : n.toNatClampNeg = c) (hc : c < 2 ^ 31) (hf : fits ty (defaultValue ty) = true) : oArr Z h b k ty (List.replicate c (defaultValue ty)) :=
  ⟨_, A, rfl, by simp [newA, hn], fun v hv => by rw [(List.mem_replicate.mp hv).2]; exact hf, by simpa using hc⟩
theorem o_newarray (K : oCtx p s m meth c Z own cb ml nm rt yy) (X : oSt p l e R s m args below meth c Z T h cells slots) {aty : ArrayType} {n : Int32} {ad : String} (cn : Nat) (w : (Jvm.Cond.arrayClass (newarray.typeOf aty)).before a0 Z = true) (had : "[" ++ (newarray.typeOf aty).toString = ad) (hn : ¬ n < 0) (hcn : n.toNatClampNeg = cn) (hbb : cn * 8 ≤ 536870912) (hf : fits (newarray.typeOf aty) (defaultValue (newarray.typeOf aty)) = true) (hd : decode cb pc = .ok (.newarray aty, 2)) (hp : pc + 2 = pc') (hc : cells + 1 ≤ R.cells) (hl : slots + cn ≤ R.slots)
    (g : ∀ T' h' b k, oSt p l e R s m args below meth c Z T' h' (cells + 1) (slots + cn) → b = h.size → Ext h h' → oArr Z h' b k (newarray.typeOf aty) (List.replicate cn (defaultValue (newarray.typeOf aty))) → Exa Z h' b ad → Z.heap.size ≤ b → oGoes p e below s Z T' (mkF m pc' L (.ref b :: S)) Q cl sl) : oGoes p e below s Z T (mkF m pc L (.int n :: S)) Q cl sl := by
  obtain ⟨locs, X, eT, N, E⟩ := X
  subst hp
  obtain ⟨T', h', k, X', e', E', A, Ex, st⟩ := newPE X K.1 K.2.1 w eT (g := mkF m pc L (.int n :: S)) rfl (hb K.2.2.1 hd) rfl hn (cap := cn) (Nat.le_of_eq hcn) hbb hc hl had
  exact (g T' h' h.size k ⟨_, X', e', N, oExt_trans E E'⟩ rfl E' (oArr_new A hcn (by omega) hf) Ex E.1).go st
theorem o_anewarray (K : oCtx p s m meth c Z own cb ml nm rt yy) (X : oSt p l e R s m args below meth c Z T h cells slots) {C ad : String} {index : Nat} {n : Int32} (cn : Nat) (w1 : (Jvm.Cond.classLink own index C).before a0 Z = true) (w2 : (Jvm.Cond.arrayOver (.object C)).before a0 Z = true) (had : "[" ++ (FieldType.object C).toString = ad) (hn : ¬ n < 0) (hcn : n.toNatClampNeg = cn) (hbb : cn * 8 ≤ 536870912) (hd : decode cb pc = .ok (.anewarray index, 3)) (hp : pc + 3 = pc') (hc : cells + 1 ≤ R.cells) (hl : slots + cn ≤ R.slots)
    (g : ∀ T' h' b k, oSt p l e R s m args below meth c Z T' h' (cells + 1) (slots + cn) → b = h.size → Ext h h' → oArr Z h' b k (.object C) (List.replicate cn .null) → Exa Z h' b ad → Ovr Z k C → Z.heap.size ≤ b → oGoes p e below s Z T' (mkF m pc' L (.ref b :: S)) Q cl sl) : oGoes p e below s Z T (mkF m pc L (.int n :: S)) Q cl sl := by
  obtain ⟨locs, X, eT, N, E⟩ := X
  subst hp
  obtain ⟨T', h', k, X', e', E', A, Ex, O, st⟩ := newRE X K.1 K.2.1 K.2.2.2.2.1 w1 w2 eT (g := mkF m pc L (.int n :: S)) rfl (hb K.2.2.1 hd) rfl hn (cap := cn) (Nat.le_of_eq hcn) hbb hc hl had
  exact (g T' h' h.size k ⟨_, X', e', N, oExt_trans E E'⟩ rfl E' (oArr_new A hcn (by omega) rfl) Ex O E.1).go st
theorem o_private (K : oCtx p s m meth c Z own cb ml nm rt yy) (X : oSt p l e R s m args below meth c Z T h cells slots) {index : Nat} {y : MethodName} {a : Addr} {C : String} {bs : ByteArray} {mx : Nat} {rc : Option FieldType} {rm : Room} {as : Array Value} {Qc : Option Value → Heap → Prop} (w1 : (Jvm.Cond.methodLink own index y).before a0 Z = true) (w2 : (Jvm.Cond.instanceMethod y).before a0 Z = true) (w3 : (Jvm.Cond.selects y.cls y y).before a0 Z = true) (w4 : (Jvm.Cond.privateMethod y).before a0 Z = true) (wz : (Jvm.Cond.initialized y.cls).before a0 Z = true) (wc : (Jvm.Cond.code y bs mx rc).before a0 Z = true) (hy : y.cls ≠ "java/lang/invoke/MethodHandle" ∧ y.cls ≠ "java/lang/invoke/VarHandle") (Ex : Exa Z h a C)
    (hM : oMet l Z y bs mx rc rm [] as h Qc) (hf : rm.frames + 1 ≤ R.frames) (hsz : L.size = ml) {argsL : List Value} (has : (Value.ref a :: argsL).toArray = as) (hlen : ∀ sig, parseMethodDescriptor y.desc = some sig → argsL.length = sig.parameters.length) {W : Nat} (hW : (S.map fun v => v.category).sum = W) (hl : W + (mx + 11) + rm.locals ≤ R.locals) (hc : cells + rm.cells ≤ R.cells) (hs : slots + rm.slots ≤ R.slots) (hd : decode cb pc = .ok (.invokevirtual index, 3)) (hp : pc + 3 = pc') (g : ∀ v T' h', oSt p l e R s m args below meth c Z T' h' (cells + rm.cells) (slots + rm.slots) → Qc v h' → oGoes p e below s Z T' (mkF m pc' L (v.toList ++ S)) Q cl sl) : oGoes p e below s Z T (mkF m pc L (argsL.reverse ++ .ref a :: S)) Q cl sl := by
  obtain ⟨locs, X, eT, N, E⟩ := X
  subst hp
  obtain ⟨cq, q, q'⟩ := Ex.cell
  obtain ⟨v, _, ⟨T', L1, k1, n1⟩, -, X', ⟨Lc, hQ, l1, y1, z1⟩, st⟩ := X.privateBack K.1 (y := y) K.2.2.2.2.1 (mvT K.2.1 w1) (mvT K.2.1 w2) (mvT K.2.1 w3) (Jvm.Cond.privateMethod_at (mvP K.2.1 w4 (args := #[]))) (mvT K.2.1 wc) hy (backOf (W := W) (Q := fun v h L => Qc v h ∧ Fr Z.heap.size L ∧ Ext Z.heap h) (hM E) K.2.1 wc wz hf hl) (g := mkF m pc L (argsL.reverse ++ .ref a :: S)) rfl (by show L.size = _; rw [K.2.2.2.1]; exact hsz) (Steps.refl _) (a := a) (by rw [eT]; exact q) q' (argsL := argsL) (rest := S) hlen rfl (by show 2 * 0 + _ ≤ _; omega) (hb K.2.2.1 hd) (fun _ _ => ⟨has, eT, hc, hs⟩)
  dsimp only [Pt.U, Pt.locs, Pt.cells, Pt.slots] at X' l1 y1 z1 st hQ
  subst l1 y1 z1
  exact (g v T' _ ⟨_, X', rfl, Fr.app N hQ.2.1, hQ.2.2⟩ hQ.1).go fun t r => st.trans r
theorem oNarchar {y : Int32} (hy : y.toBitVec.toNat < 65536) : nar .char y = y := by
  apply Int32.toBitVec_inj.mp
  apply BitVec.eq_of_toNat_eq
  have e1 : (nar .char y).toBitVec.toNat = y.toUInt32.toUInt16.toUInt32.toNat := rfl
  have e2 : y.toUInt32.toNat = y.toBitVec.toNat := rfl
  rw [e1, UInt16.toNat_toUInt32, UInt32.toNat_toUInt16, e2]
  exact Nat.mod_eq_of_lt hy
theorem oNarMask (x : Int32) {k : Int32} (hk : k.toBitVec.toNat < 65536) : nar .char (x &&& k) = x &&& k := by
  refine oNarchar ?_
  simp only [Int32.toBitVec_and, BitVec.toNat_and]
  exact Nat.lt_of_le_of_lt Nat.and_le_right hk
theorem oNarIdembyte (x : Int32) : nar .byte (nar .byte x) = nar .byte x := by
  simp [nar]
theorem oFitboolean {x x' : Int32} (q : nar .boolean x = x') : fits .boolean (.int x') = true := q ▸ fits_nar_bool x
theorem oFitbyte {x x' : Int32} (q : nar .byte x = x') : fits .byte (.int x') = true := q ▸ fits_nar_byte x
theorem oFitRef {ty : FieldType} {v : Value} (h1 : ty.isReference = true) (h2 : v.isRef = true) : fits ty v = true := by
  rcases ref_cases h2 with rfl | ⟨a, rfl⟩ <;> cases ty <;> first | rfl | cases h1
theorem oNarRef {ty : FieldType} {v : Value} (h1 : ty.isReference = true) (h2 : v.isRef = true) : narrow ty v = v := by
  rcases ref_cases h2 with rfl | ⟨a, rfl⟩ <;> cases ty <;> rfl
theorem oCat1 {z : Int32} : (Value.int z).category = 1 := rfl
theorem oCat2 {z : Int64} : (Value.long z).category = 2 := rfl
theorem oCat3 {a : Addr} : (Value.ref a).category = 1 := rfl
theorem oCat4 : Value.null.category = 1 := rfl
theorem oCatRef {v : Value} (h2 : v.isRef = true) : v.category = 1 := by
  rcases ref_cases h2 with rfl | ⟨a, rfl⟩ <;> rfl
theorem oSto {a y : Addr} {k : ClassId} {ty : FieldType} {vs : List Value} {C : String} (F : oArr Z h a k ty vs) (O : Ovr Z k C) (I : Ins Z h y C true) : Sto Z h a (.ref y) := by
  obtain ⟨c, A, q, -⟩ := F
  exact Sto.ofV A q O I
theorem o_tswIn (K : oCtx p s m meth c Z own cb ml nm rt yy) (X : oSt p l e R s m args below meth c Z T h cells slots) {dflt low high o : Int} {offs : Array Int} {len : Nat} {i : Int32} (hd : decode cb pc = .ok (.tableswitch dflt low high offs, len)) (hin : ¬ (i.toInt < low ∨ i.toInt > high)) (hoff : offs[(i.toInt - low).toNat]? = some o) (ho : 0 ≤ (pc : Int) + o) (hp : ((pc : Int) + o).toNat = pc') (g : oGoes p e below s Z T (mkF m pc' L S) Q cl sl) : oGoes p e below s Z T (mkF m pc L (.int i :: S)) Q cl sl := by
  obtain ⟨_, X, -⟩ := X
  exact g.go fun t r => XS.tswIn X.here K.1 rfl (pc0 := pc) rfl (hb K.2.2.1 hd) rfl hin hoff ho hp r
theorem o_tswOut (K : oCtx p s m meth c Z own cb ml nm rt yy) (X : oSt p l e R s m args below meth c Z T h cells slots) {dflt low high : Int} {offs : Array Int} {len : Nat} {i : Int32} (hd : decode cb pc = .ok (.tableswitch dflt low high offs, len)) (hout : i.toInt < low ∨ i.toInt > high) (ho : 0 ≤ (pc : Int) + dflt) (hp : ((pc : Int) + dflt).toNat = pc') (g : oGoes p e below s Z T (mkF m pc' L S) Q cl sl) : oGoes p e below s Z T (mkF m pc L (.int i :: S)) Q cl sl := by
  obtain ⟨_, X, -⟩ := X
  exact g.go fun t r => XS.tswOut X.here K.1 rfl (pc0 := pc) rfl (hb K.2.2.1 hd) rfl hout ho hp r
theorem oEqInt_v {args : Array Value} {f s : State} {o : Option Outcome} {idx : List Nat} {t : Term} {z : Int32} (q : (Jvm.Cond.eq t (Term.int z)).value args f o s idx = some true) : t.eval args f o idx s = some (.int z) := by
  have e2 : (Term.int z).eval args f o idx s = some (.int z) := rfl
  cases ht : t.eval args f o idx s with
  | none => simp [Jvm.Cond.value, ht] at q
  | some x => cases x <;> simp [Jvm.Cond.value, ht, e2] at q ⊢; exact q
theorem oArr_start {args : Array Value} {s : State} {t : Term} {ty : FieldType} {z : Int32} {n : Nat} (hf : Fit s) {a : Addr} (ht : t.eval args s none [] s = some (.ref a)) (hx : (Jvm.Cond.arrayOf t ty).value args s none s [] = some true) (hl : (Jvm.Cond.eq (Term.length t) (Term.int z)).value args s none s [] = some true) (hz : ¬ z < 0) (hn : z.toNatClampNeg = n) : ∃ k vs, oArr s s.heap a k ty vs ∧ vs.length = n := by
  obtain ⟨c, A⟩ := Arr.start ht hx
  have hA := A.fin (U := s) (Vm.Alike.refl _)
  have q := oEqInt_v hl
  have hs : c.slots.size < 2 ^ 31 ∧ c.slots.size.toInt32 = z := by
    by_cases hb : c.slots.size < 2 ^ 31
    · rw [len_f ht hA hb] at q
      exact ⟨hb, by simpa using q⟩
    · simp [Term.eval, ht, hA, hb] at q
  have hlen : c.slots.size = n := by
    have e1 := len_toInt hs.1
    rw [hs.2] at e1
    have e2 : z.toNatClampNeg = z.toInt.toNat := rfl
    omega
  refine ⟨c.cls, c.slots.toList, ⟨c, A, rfl, by simp, fun v hv => ?_, by simpa using hs.1⟩, by simpa using hlen⟩
  obtain ⟨i, hi, rfl⟩ := List.mem_iff_getElem.mp hv
  have hi' : i < c.slots.size := by simpa using hi
  obtain ⟨v', h1, h2⟩ := elem_fit hf A (j := i.toInt32) (idx_in hi' hs.1)
  have e3 : i.toInt32.toNatClampNeg = i := by
    have q1 : i.toInt32.toInt = i := len_toInt (by omega)
    show i.toInt32.toInt.toNat = i
    omega
  rw [e3, Array.getElem?_eq_getElem hi'] at h1
  cases h1
  simpa using h2
theorem oStaRef {args : Array Value} {s : State} {C n d : String} {ty : FieldType} (q : (Jvm.Cond.arrayOf (Term.static C n d) ty).value args s none s [] = some true) (hi : (Jvm.Cond.initializedFor C n d).before args s = true ∨ ((Jvm.Cond.initialized C).before args s = true ∧ (Jvm.Cond.laysStatic C n d).before args s = true)) : ∃ a, (Term.static C n d).eval args s none [] s = some (.ref a) ∧ Sta s s.heap C n d (.ref a) := by
  obtain ⟨a, ha⟩ := arr_v q
  exact ⟨a, ha, Sta.start ha hi⟩
theorem oMaskPos (x : Int32) {k : Int32} (hk : k.toBitVec.toNat < 2 ^ 31) : ¬ (x &&& k) < 0 := by
  rw [Int32.lt_iff_toInt_lt]
  have h1 : (x &&& k).toBitVec.toNat < 2 ^ 31 := by
    simp only [Int32.toBitVec_and, BitVec.toNat_and]
    exact Nat.lt_of_le_of_lt Nat.and_le_right hk
  have h2 : (x &&& k).toInt = (x &&& k).toBitVec.toNat := BitVec.toInt_eq_toNat_of_lt (by omega)
  have h3 : (0 : Int32).toInt = 0 := by decide
  omega
theorem oNat32 {i : Nat} (hi : i < 2 ^ 31) : i.toInt32.toNatClampNeg = i := by
  have q1 : i.toInt32.toInt = i := len_toInt hi
  show i.toInt32.toInt.toNat = i
  omega
theorem oMask255 (x : Int32) : ¬ (255 : Int32) < (x &&& 255) := by
  rw [Int32.lt_iff_toInt_lt]
  have h1 : (x &&& 255).toBitVec.toNat ≤ 255 := by
    simp only [Int32.toBitVec_and, BitVec.toNat_and]
    exact Nat.and_le_right
  have h2 : (x &&& 255).toInt = (x &&& 255).toBitVec.toNat := BitVec.toInt_eq_toNat_of_lt (by omega)
  have h3 : (255 : Int32).toInt = 255 := by decide
  omega
theorem oNeInt_v {args : Array Value} {s : State} {t : Term} {x z : Int32} (ht : t.eval args s none [] s = some (.int x)) (q : (Jvm.Cond.not (Jvm.Cond.eq t (Term.int z))).value args s none s [] = some true) : ¬ x = z := by
  have r := not_v q
  have e2 : (Term.int z).eval args s none [] s = some (.int z) := rfl
  simpa [Jvm.Cond.value, ht, e2] using r
theorem oSz {i : Nat} (hi : i < 2 ^ 31) : ¬ i.toInt32 < 0 := by
  rw [Int32.lt_iff_toInt_lt, len_toInt hi]
  have : (0 : Int32).toInt = 0 := by decide
  omega
theorem oArr.arv {a : Addr} {k : ClassId} {ty : FieldType} {vs : List Value} (F : oArr Z h a k ty vs) (dv : Value) : Arv Z h a k ty vs.length.toInt32 vs dv := by
  obtain ⟨c, A, q1, q2, q3, q4⟩ := F
  have e : vs.length.toInt32.toNatClampNeg = vs.length := oNat32 q4
  have sz : c.slots.size = vs.length := by rw [q2]; simp
  refine ⟨c, A, q1, by rw [sz, e], oSz q4, fun i hi => ?_, fun i hi => ?_⟩
  · have hi' : i < vs.length := by omega
    rw [q2]; simp [hi', List.getD_eq_getElem?_getD]
  · have hi' : i < vs.length := by omega
    refine q3 _ ?_
    simp [hi', List.getD_eq_getElem?_getD]
theorem oArr_of_arv {a : Addr} {k : ClassId} {ty : FieldType} {z : Int32} {vs : List Value} {dv : Value} (F : Arv Z h a k ty z vs dv) (hl : vs.length = z.toNatClampNeg) (hb : vs.length < 2 ^ 31) : oArr Z h a k ty vs := by
  obtain ⟨c, A, q1, S1, -, H, G1⟩ := F
  have sz : c.slots.size = vs.length := by omega
  refine ⟨c, A, q1, ?_, fun v hv => ?_, hb⟩
  · apply Array.ext
    · simpa using sz
    · intro i h1 h2
      have r := H i h1
      have h3 : i < vs.length := by omega
      rw [Array.getElem?_eq_getElem h1] at r
      simpa [h3, List.getD_eq_getElem?_getD] using r
  · obtain ⟨i, hi, rfl⟩ := List.mem_iff_getElem.mp hv
    have r := G1 i (by omega)
    simpa [hi, List.getD_eq_getElem?_getD] using r
theorem o_arraycopy (K : oCtx p s m meth c Z own cb ml nm rt yy) (X : oSt p l e R s m args below meth c Z T h cells slots) {index : Nat} {a b : Addr} {k k' : ClassId} {ty ty' : FieldType} {vs vd : List Value} {sp dp nn : Int32} (us ws : List Value) (w1 : (Jvm.Cond.methodLink own index Jvm.Stand.acN).before a0 Z = true) (w2 : (Jvm.Cond.native Jvm.Stand.acN).before a0 Z = true) (w3 : (Jvm.Cond.static Jvm.Stand.acN).before a0 Z = true) (w4 : (Jvm.Cond.initialized "java/lang/System").before a0 Z = true)
    (A : oArr Z h a k ty vs) (B : oArr Z h b k' ty' vd) (hty : (ty = ty' ∧ refKind ty = false) ∨ (refKind ty = true ∧ refKind ty' = true ∧ StoL Z h b us)) (h1 : ¬ sp < 0) (h2 : ¬ dp < 0) (h3 : ¬ nn < 0) (h4 : sp.toNatClampNeg + nn.toNatClampNeg ≤ vs.length) (h5 : dp.toNatClampNeg + nn.toNatClampNeg ≤ vd.length)
    (hus : us = (List.range nn.toNatClampNeg).map fun i => vs.getD (sp.toNatClampNeg + i) .null) (hws : vd.take dp.toNatClampNeg ++ us ++ vd.drop (dp.toNatClampNeg + nn.toNatClampNeg) = ws) (hwl : ws.length = vd.length) (hza : Z.heap.size ≤ b) (hd : decode cb pc = .ok (.invokestatic index, 3)) (hp : pc + 3 = pc') (hsz : L.size = ml) (hf : 1 ≤ R.frames) {W : Nat} (hW : (S.map fun v => v.category).sum = W) (hlo : W + (nativeFrameWords "java/lang/System" "arraycopy" 5 + 11) ≤ R.locals)
    (g : ∀ T' h', oSt p l e R s m args below meth c Z T' h' cells slots → Keep h h' [b] → oArr Z h' b k' ty' ws → oGoes p e below s Z T' (mkF m pc' L S) Q cl sl) : oGoes p e below s Z T (mkF m pc L (.int nn :: .int dp :: .ref b :: .int sp :: .ref a :: S)) Q cl sl := by
  obtain ⟨locs, X, eT, N, E⟩ := X
  subst hp
  have qa : vs.length < 2 ^ 31 := by obtain ⟨_, _, _, _, _, q⟩ := A; exact q
  have qb : vd.length < 2 ^ 31 := by obtain ⟨_, _, _, _, _, q⟩ := B; exact q
  have ea : vs.length.toInt32.toNatClampNeg = vs.length := oNat32 qa
  have eb : vd.length.toInt32.toNatClampNeg = vd.length := oNat32 qb
  obtain ⟨T', h', L1, X', e', N', Kp, A', st⟩ := cpA X K.1 K.2.1 K.2.2.2.2.1 w1 w2 w3 w4 eT (A.arv .null) (B.arv .null) hty h1 h2 h3 (by omega) (by omega) hus h5 N hza (g := mkF m pc L (.int nn :: .int dp :: .ref b :: .int sp :: .ref a :: S)) rfl (by show L.size = _; rw [K.2.2.2.1]; exact hsz) rfl (hb K.2.2.1 hd) hf (W := W) (by show 2 * 0 + _ ≤ _; omega) hlo
  rw [hws] at A'
  have E2 : Ext Z.heap h' := (Old.keep (n0 := Z.heap.size) ⟨rfl, E⟩ Kp (allS hza all0)).2
  exact (g T' h' ⟨_, X', e', N', E2⟩ Kp (oArr_of_arv A' (by omega) (by omega))).go st
theorem oNF {C : String} {y : MethodName} (w : (Jvm.Cond.selects C y y).before a0 Z = true) : ∀ s' : State, Z.Warmed39 s'.vm → NotFace s' y := fun _ q => notFace_of_selects (args := #[]) (mvT q w)
theorem oInstSpec {Z : State} {a0 : Array Value} {K : String} {n : Nat} (w : (Jvm.Cond.instantiable K n).before a0 Z = true) : ∃ t k, Z.vm.findClass K = some t ∧ Z.vm.classes[t]? = some k ∧ k.kind = .ordinary ∧ k.isInterface = false := by
  simp only [Cond.before, Cond.holds, Cond.value] at w
  cases hc : Z.vm.findClass K with
  | none => simp [hc] at w
  | some t =>
    cases hk : Z.vm.classes[t]? with
    | none => simp [hc, hk] at w
    | some k => simp [hc, hk] at w; exact ⟨t, k, rfl, hk, w.1.1.1, w.1.1.2.1⟩
theorem oNeArr {Z : State} {h : Heap} {a0 : Array Value} {a b : Addr} {C : String} {n : Nat} {k : ClassId} {ty : FieldType} {vs : List Value} (E : Exa Z h a C) (w : (Jvm.Cond.instantiable C n).before a0 Z = true) (F : oArr Z h b k ty vs) : b ≠ a := by
  rintro rfl
  obtain ⟨cell, k1, e1, e2, e3, -, -⟩ := E
  obtain ⟨c, ⟨A1, ⟨-, k2, g1, comp, g2⟩, -⟩, -⟩ := F
  obtain ⟨t, k3, f1, f2, f3, -⟩ := oInstSpec w
  cases A1.symm.trans e1
  cases f1.symm.trans e2
  cases f2.symm.trans g1
  rw [f3] at g2; cases g2
theorem oNSroot {Z : State} {a0 : Array Value} {O K : String} {n : Nat} (w : (Jvm.Cond.noSuperclass O).before a0 Z = true) (wk : (Jvm.Cond.instantiable K n).before a0 Z = true) (hn : O ≠ K) : NS Z O K := by
  obtain ⟨c, k, h1, h2, h3, -, -⟩ := Cond.noSuperclass_spec w
  obtain ⟨t, _, g1, -⟩ := oInstSpec wk
  have ne := ids_ne h1 g1 hn
  refine ⟨c, t, h1, g1, fun fuel => ?_⟩
  cases fuel with
  | zero => rfl
  | succ f => simp [Vm.isSubclassAux, ne, h2, h3]
theorem oNSno {Z : State} {a0 : Array Value} {C S K : String} {n : Nat} (w : (Jvm.Cond.superclass C S).before a0 Z = true) (wk : (Jvm.Cond.instantiable K n).before a0 Z = true) (q : NS Z C K) (hn : C ≠ K) : ∃ c t, Z.vm.findClass C = some c ∧ Z.vm.findClass K = some t ∧ Z.vm.assignable c t = false := by
  obtain ⟨c, t, h0, g0, n3⟩ := q
  obtain ⟨p, k, kp, h1, h2, h3, h4, h5, -, h7⟩ := Cond.superclass_spec h0 w
  obtain ⟨t', k', g1, g2, g3, g4⟩ := oInstSpec wk
  cases g0.symm.trans g1
  have ne := ids_ne h0 g0 hn
  refine ⟨c, t, h0, g0, ?_⟩
  show Z.vm.assignableAux (255 + 1) c t = false
  simp [Vm.assignableAux, ne, h2, g2, h5, g3, g4, Vm.isSubclass, n3]
theorem o_specialN (K : oCtx p s m meth c Z own cb ml nm rt yy) (X : oSt p l e R s m args below meth c Z T h cells slots) {index : Nat} {y : MethodName} {host : String} {a : Addr} {bs : ByteArray} {mx : Nat} {rm : Room} {as : Array Value} {Qc : Option Value → Heap → Prop} (hy1 : y.name = "<init>") (w1 : (Jvm.Cond.methodLinkNest own index y host).before a0 Z = true) (w2 : (Jvm.Cond.instanceMethod y).before a0 Z = true) (wz : (Jvm.Cond.initialized y.cls).before a0 Z = true) (wc : (Jvm.Cond.code y bs mx none).before a0 Z = true) (hy : y.cls ≠ "java/lang/invoke/MethodHandle" ∧ y.cls ≠ "java/lang/invoke/VarHandle")
    (hM : oMet l Z y bs mx none rm [] as h Qc) (hf : rm.frames + 1 ≤ R.frames) (hsz : L.size = ml) {argsL : List Value} (has : (Value.ref a :: argsL).toArray = as) (hlen : ∀ sig, parseMethodDescriptor y.desc = some sig → argsL.length = sig.parameters.length) {W : Nat} (hW : (S.map fun v => v.category).sum = W) (hl : W + (mx + 11) + rm.locals ≤ R.locals) (hc : cells + rm.cells ≤ R.cells) (hs : slots + rm.slots ≤ R.slots) (hd : decode cb pc = .ok (.invokespecial index, 3)) (hp : pc + 3 = pc') (g : ∀ v T' h', oSt p l e R s m args below meth c Z T' h' (cells + rm.cells) (slots + rm.slots) → Qc v h' → oGoes p e below s Z T' (mkF m pc' L (v.toList ++ S)) Q cl sl) : oGoes p e below s Z T (mkF m pc L (argsL.reverse ++ .ref a :: S)) Q cl sl := by
  obtain ⟨locs, X, eT, N, E⟩ := X
  subst hp
  obtain ⟨v, _, ⟨T', L1, k1, n1⟩, -, X', ⟨Lc, hQ, l1, y1, z1⟩, st⟩ := X.specialBackNest K.1 (y := y) (host := host) hy1 K.2.2.2.2.1 (Cond.methodLinkNest_wide K.2.1 w1 :) (mvT K.2.1 w2) (mvT K.2.1 wc) hy (backOf (W := W) (Q := fun v h L => Qc v h ∧ Fr Z.heap.size L ∧ Ext Z.heap h) (hM E) K.2.1 wc wz hf hl) (g := mkF m pc L (argsL.reverse ++ .ref a :: S)) rfl (by show L.size = _; rw [K.2.2.2.1]; exact hsz) (Steps.refl _) (a := a) (argsL := argsL) (rest := S) hlen rfl (by show 2 * 0 + _ ≤ _; omega) (hb K.2.2.1 hd) (fun _ _ => ⟨has, eT, hc, hs⟩)
  dsimp only [Pt.U, Pt.locs, Pt.cells, Pt.slots] at X' l1 y1 z1 st hQ
  subst l1 y1 z1
  exact (g v T' _ ⟨_, X', rfl, Fr.app N hQ.2.1, hQ.2.2⟩ hQ.1).go fun t r => st.trans r
def oMir (Z : State) (C : String) (mr : Addr) : Prop := ∃ (c : ClassId) (k : Class), Z.vm.findClass C = some c ∧ Z.vm.classes[c]? = some k ∧ k.mirror = some mr
theorem o_getClass (K : oCtx p s m meth c Z own cb ml nm rt yy) (X : oSt p l e R s m args below meth c Z T h cells slots) {index : Nat} {C : String} {a mr : Addr} (w1 : (Jvm.Cond.methodLink own index ⟨"java/lang/Object", "getClass", "()Ljava/lang/Class;"⟩).before a0 Z = true) (w2 : (Jvm.Cond.declares ⟨"java/lang/Object", "getClass", "()Ljava/lang/Class;"⟩).before a0 Z = true) (w3 : (Jvm.Cond.noSuperclass "java/lang/Object").before a0 Z = true) (w4 : (Jvm.Cond.selects C ⟨"java/lang/Object", "getClass", "()Ljava/lang/Class;"⟩ ⟨"java/lang/Object", "getClass", "()Ljava/lang/Class;"⟩).before a0 Z = true) (w5 : (Jvm.Cond.instanceMethod ⟨"java/lang/Object", "getClass", "()Ljava/lang/Class;"⟩).before a0 Z = true) (w6 : (Jvm.Cond.native ⟨"java/lang/Object", "getClass", "()Ljava/lang/Class;"⟩).before a0 Z = true) (Ex : Exa Z h a C) (M : oMir Z C mr)
    (hd : decode cb pc = .ok (.invokevirtual index, 3)) (hp : pc + 3 = pc') (hsz : L.size = ml) (hf : 1 ≤ R.frames) {W : Nat} (hW : (S.map fun v => v.category).sum = W) (hlo : W + (nativeFrameWords "java/lang/Object" "getClass" 1 + 11) ≤ R.locals)
    (g : ∀ T', oSt p l e R s m args below meth c Z T' h cells slots → oGoes p e below s Z T' (mkF m pc' L (.ref mr :: S)) Q cl sl) : oGoes p e below s Z T (mkF m pc L (.ref a :: S)) Q cl sl := by
  obtain ⟨locs, X, eT, N, E⟩ := X
  subst hp
  have hZ := K.2.1
  obtain ⟨cB, kB, i1, i2, i3⟩ := isOf hZ eT Ex
  obtain ⟨cc, kc, m1, m2, m3⟩ := M
  rw [hZ.alike.findClass] at i1
  cases i1.symm.trans m1
  obtain ⟨k', q, ek⟩ := hZ.alike.2.2 _ _ m2
  obtain ⟨vm', X', st⟩ := X.getClassOf K.1 K.2.2.2.2.1 (mvT hZ w1) (mvT hZ w2) (nf_top (args := #[]) (mvT hZ w3)) (mvT hZ w4) (mvT hZ w5) (mvT hZ w6) (by rw [hZ.alike.findClass]; exact m1) i3 q (by rw [ek]; exact m3) (g := mkF m pc L (.ref a :: S)) rfl (by show L.size = _; rw [K.2.2.2.1]; exact hsz) rfl (hb K.2.2.1 hd) hf (by show 2 * 0 + (S.map fun v => v.category).sum + _ ≤ _; rw [hW]; omega)
  exact (g _ ⟨_, X', eT, N, E⟩).go st
theorem o_ldcClass (K : oCtx p s m meth c Z own cb ml nm rt yy) (X : oSt p l e R s m args below meth c Z T h cells slots) {index : Nat} {C : String} {mr : Addr} (w1 : (Jvm.Cond.classLink own index C).before a0 Z = true) (M : oMir Z C mr) (hd : decode cb pc = .ok (.ldc index, 2)) (hp : pc + 2 = pc')
    (g : ∀ T', oSt p l e R s m args below meth c Z T' h cells slots → oGoes p e below s Z T' (mkF m pc' L (.ref mr :: S)) Q cl sl) : oGoes p e below s Z T (mkF m pc L S) Q cl sl := by
  obtain ⟨locs, X, eT, N, E⟩ := X
  subst hp
  obtain ⟨cc, kc, m1, m2, m3⟩ := M
  obtain ⟨k', q, ek⟩ := K.2.1.alike.2.2 _ _ m2
  have hev : (Term.mirror C).eval args s none [] s = some (.ref mr) := by
    simp only [Term.eval, Option.bind_eq_bind, Option.bind_eq_some_iff, Option.pure_def, Option.some.injEq]
    exact ⟨cc, by rw [K.2.1.alike.findClass]; exact m1, k', q, mr, by rw [ek]; exact m3, rfl⟩
  obtain ⟨vm', X', st⟩ := X.ldcMirror K.1 K.2.2.2.2.1 (mvT K.2.1 w1) hev (g := mkF m pc L S) rfl (hb K.2.2.1 hd)
  exact (g _ ⟨_, X', eT, N, E⟩).go st
end Own
set_option maxRecDepth 65536
set_option maxHeartbeats 40000000
def oCh (x : Int32) : Prop := ¬ (x < (0 : Int32)) ∧ ¬ ((255 : Int32) < x)
theorem oChE {x : Int32} (h : oCh x) : ∃ n : Fin 256, x = Int32.ofInt n.val := by
  obtain ⟨h1, h2⟩ := h
  rw [Int32.lt_iff_toInt_lt] at h1 h2
  have z1 : (0 : Int32).toInt = 0 := by decide
  have z2 : (255 : Int32).toInt = 255 := by decide
  refine ⟨⟨x.toInt.toNat, by omega⟩, ?_⟩
  have e : ((x.toInt.toNat : Nat) : Int) = x.toInt := Int.toNat_of_nonneg (by omega)
  show x = Int32.ofInt ((x.toInt.toNat : Nat) : Int)
  rw [e]; simp
theorem oChN {x : Int32} (h : oCh x) : nar .char x = x := by
  obtain ⟨n, rfl⟩ := oChE h
  have key : ∀ n : Fin 256, nar .char (Int32.ofInt n.val) = Int32.ofInt n.val := by decide +kernel
  exact key n
theorem oPre (x : Int64) : oCh ((x &&& (255 : Int64)).toInt32.toUInt32.toUInt16.toUInt32.toInt32) := by
  obtain ⟨n, e⟩ : ∃ n : Fin 256, x &&& (255 : Int64) = Int64.ofNat n.val := by
    have hb : (x &&& (255 : Int64)).toBitVec.toNat < 256 := by
      have e : (x &&& (255 : Int64)).toBitVec.toNat = x.toBitVec.toNat &&& 255 := by
        simp only [Int64.toBitVec_and, BitVec.toNat_and]; rfl
      rw [e]; exact Nat.lt_of_le_of_lt Nat.and_le_right (by decide)
    refine ⟨⟨_, hb⟩, ?_⟩
    apply Int64.toBitVec_inj.mp
    have q : ∀ k : Nat, (Int64.ofNat k).toBitVec = BitVec.ofNat 64 k := fun k => rfl
    rw [q]
    exact (BitVec.eq_of_toNat_eq (by rw [BitVec.toNat_ofNat]; exact (Nat.mod_eq_of_lt (BitVec.isLt _)).symm))
  rw [e]
  have key : ∀ n : Fin 256, ¬ (((Int64.ofNat n.val).toInt32.toUInt32.toUInt16.toUInt32.toInt32) < (0 : Int32)) ∧ ¬ ((255 : Int32) < ((Int64.ofNat n.val).toInt32.toUInt32.toUInt16.toUInt32.toInt32)) := by decide +kernel
  exact key n
def oFx (d : Int64) (k : Int32) : Int32 := (((((d.toUInt64 >>> (((8 : Int32) * k) &&& 0x3f).toInt64.toUInt64).toInt64) &&& (255 : Int64)).toInt32).toUInt32.toUInt16.toUInt32.toInt32)
theorem oFxC (d : Int64) (k : Int32) : oCh (oFx d k) := oPre _
theorem oRng {x : Int32} (n : Nat) (h0 : ¬ (x < (0 : Int32))) (h1 : x.toInt < n) (hn : n < 100) : ∃ j, j < n ∧ x = Int32.ofNat j := by
  rw [Int32.lt_iff_toInt_lt] at h0
  have z : (0 : Int32).toInt = 0 := by decide
  refine ⟨x.toInt.toNat, by omega, ?_⟩
  apply Int32.toInt_inj.mp
  rw [Int32.toInt_ofNat_of_lt (by omega)]; omega
theorem oMod {x : Int32} (k : Int32) (hx : ¬ (x < (0 : Int32))) (hk : 0 < k.toInt) : ¬ (x % k < (0 : Int32)) ∧ (x % k).toInt < k.toInt := by
  rw [Int32.lt_iff_toInt_lt] at hx ⊢
  have z : (0 : Int32).toInt = 0 := by decide
  rw [Int32.toInt_mod]
  have h1 := Int.tmod_nonneg k.toInt (show 0 ≤ x.toInt by omega)
  have h2 := Int.tmod_lt_of_pos x.toInt hk
  constructor <;> omega
theorem oPos (x : Int32) : ¬ ((x &&& (2147483647 : Int32)) < (0 : Int32)) := oMaskPos _ (by decide)
theorem oR1 (x : Int32) : (x &&& (2147483647 : Int32)) % (1 : Int32) = (0 : Int32) := by
  obtain ⟨h1, h2⟩ := oMod (1 : Int32) (oPos x) (by decide)
  obtain ⟨j, hj, e⟩ := oRng 1 h1 (by rw [show (1 : Int32).toInt = 1 from (by decide)] at h2; exact h2) (by decide)
  obtain rfl : j = 0 := by omega
  exact e
theorem oR2 (x : Int32) : (x &&& (2147483647 : Int32)) % (2 : Int32) = (0 : Int32) ∨ (x &&& (2147483647 : Int32)) % (2 : Int32) = (1 : Int32) := by
  obtain ⟨h1, h2⟩ := oMod (2 : Int32) (oPos x) (by decide)
  have z : (2 : Int32).toInt = 2 := by decide
  obtain ⟨j, hj, e⟩ := oRng 2 h1 (by omega) (by decide)
  obtain rfl | rfl : j = 0 ∨ j = 1 := by omega
  · exact Or.inl e
  · exact Or.inr e
theorem oR3 (x : Int32) : (x &&& (2147483647 : Int32)) % (3 : Int32) = (0 : Int32) ∨ (x &&& (2147483647 : Int32)) % (3 : Int32) = (1 : Int32) ∨ (x &&& (2147483647 : Int32)) % (3 : Int32) = (2 : Int32) := by
  obtain ⟨h1, h2⟩ := oMod (3 : Int32) (oPos x) (by decide)
  have z : (3 : Int32).toInt = 3 := by decide
  obtain ⟨j, hj, e⟩ := oRng 3 h1 (by omega) (by decide)
  obtain rfl | rfl | rfl : j = 0 ∨ j = 1 ∨ j = 2 := by omega
  · exact Or.inl e
  · exact Or.inr (Or.inl e)
  · exact Or.inr (Or.inr e)
theorem oChM (x : Int32) : oCh (x &&& (255 : Int32)) := ⟨oMaskPos _ (by decide), oMask255 _⟩
theorem own_exactly {args : Array Value} {s : State} {t : Term} {C : String} {idx : List Nat} (q : (Jvm.Cond.exactly t C).value args s none s idx = some true) : ∃ r, t.eval args s none idx s = some (.ref r) ∧ (Exa s s.heap r C) := by
  have h : (Jvm.Cond.exactly t C).holds args s none s idx = true := by simp [Jvm.Cond.holds, q]
  obtain ⟨r, c, cell, k, e1, e2, e3, e4, e5, e6, e7⟩ := Cond.exactly_spec h
  subst e6
  exact ⟨r, e1, cell, k, e3, e2, e4, e5, e7⟩
abbrev z0 : String := "java/lang/String"
abbrev z1 : String := "java/util/ArrayList"
abbrev z2 : String := "com/example/latticube/latticube/csv/CsvTable$Row"
abbrev z3 : String := "java/lang/Object"
abbrev z4 : String := "com/example/latticube/latticube/spacefile/DimensionTable$Column"
abbrev z5 : String := "[Ljava/lang/Object;"
abbrev z6 : String := "com/example/latticube/latticube/spacefile/DimensionTable$Row"
abbrev z7 : String := "java/util/List"
abbrev z8 : String := "java/util/ImmutableCollections$List12"
abbrev z9 : String := "java/util/ImmutableCollections$ListN"
abbrev z10 : String := "Ljava/lang/Object;"
abbrev z11 : String := "Ljava/util/List;"
abbrev z12 : String := "com/example/latticube/latticube/spacefile/RowValuePinLaw"
abbrev z13 : String := "java/util/AbstractList"
abbrev z14 : String := "elementData"
abbrev z15 : String := "(ILjava/util/List;)V"
abbrev z16 : String := "Lcom/example/latticube/latticube/csv/CsvTable$Row;"
abbrev z17 : String := "(I)Ljava/lang/Object;"
abbrev z18 : String := "java/util/ImmutableCollections"
abbrev z19 : String := "()[Ljava/lang/Object;"
abbrev z20 : String := "(Lcom/example/latticube/latticube/spacefile/DimensionTable$Column;)Ljava/lang/String;"
abbrev z21 : String := "(Lcom/example/latticube/latticube/csv/CsvTable$Row;Lcom/example/latticube/latticube/csv/CsvTable$Row;)V"
abbrev z22 : String := "DEFAULTCAPACITY_EMPTY_ELEMENTDATA"
abbrev z23 : String := "(Ljava/lang/Object;[Ljava/lang/Object;I)V"
abbrev z24 : String := "(Ljava/util/Collection;)Ljava/util/List;"
abbrev z25 : String := "java/util/ImmutableCollections$AbstractImmutableList"
abbrev z26 : String := "(Lcom/example/latticube/latticube/spacefile/DimensionTable$Column;)Lcom/example/latticube/latticube/csv/CsvTable$Row;"
abbrev z27 : String := "java/util/ImmutableCollections$AbstractImmutableCollection"
def oHw (Z : State) (a0 : Array Value) : Prop := ∀ d ∈ tables_1, d.before a0 Z = true
theorem w0 {Z : State} {a0 : Array Value} (hw : oHw Z a0) : (Jvm.Cond.constant z12 (27 : Nat) (2147483647 : Int32)).before a0 Z = true := hw _ (List.mem_of_getElem? (i := 0) rfl)
theorem w1 {Z : State} {a0 : Array Value} (hw : oHw Z a0) : (Jvm.Cond.classLink z12 (28 : Nat) z2).before a0 Z = true := hw _ (List.mem_of_getElem? (i := 1) rfl)
theorem w2 {Z : State} {a0 : Array Value} (hw : oHw Z a0) : (Jvm.Cond.instantiable z2 (2 : Nat)).before a0 Z = true := hw _ (List.mem_of_getElem? (i := 2) rfl)
theorem w3 {Z : State} {a0 : Array Value} (hw : oHw Z a0) : (Jvm.Cond.initialized z2).before a0 Z = true := hw _ (List.mem_of_getElem? (i := 3) rfl)
theorem w4 {Z : State} {a0 : Array Value} (hw : oHw Z a0) : (Jvm.Cond.methodLink z12 (30 : Nat) ({ cls := z12, name := "fields", desc := "(CIJI)Ljava/util/ArrayList;" } : Jvm.MethodName)).before a0 Z = true := hw _ (List.mem_of_getElem? (i := 4) rfl)
theorem w5 {Z : State} {a0 : Array Value} (hw : oHw Z a0) : (Jvm.Cond.static ({ cls := z12, name := "fields", desc := "(CIJI)Ljava/util/ArrayList;" } : Jvm.MethodName)).before a0 Z = true := hw _ (List.mem_of_getElem? (i := 5) rfl)
theorem w6 {Z : State} {a0 : Array Value} (hw : oHw Z a0) : (Jvm.Cond.initialized z12).before a0 Z = true := hw _ (List.mem_of_getElem? (i := 6) rfl)
theorem w7 {Z : State} {a0 : Array Value} (hw : oHw Z a0) : (Jvm.Cond.code ({ cls := z12, name := "fields", desc := "(CIJI)Ljava/util/ArrayList;" } : Jvm.MethodName) method_3_code (6 : Nat) (Option.some (Jvm.ClassFile.FieldType.object z1))).before a0 Z = true := hw _ (List.mem_of_getElem? (i := 7) rfl)
theorem w8 {Z : State} {a0 : Array Value} (hw : oHw Z a0) : (Jvm.Cond.classLink z12 (14 : Nat) z1).before a0 Z = true := hw _ (List.mem_of_getElem? (i := 8) rfl)
theorem w9 {Z : State} {a0 : Array Value} (hw : oHw Z a0) : (Jvm.Cond.instantiable z1 (3 : Nat)).before a0 Z = true := hw _ (List.mem_of_getElem? (i := 9) rfl)
theorem w10 {Z : State} {a0 : Array Value} (hw : oHw Z a0) : (Jvm.Cond.initialized z1).before a0 Z = true := hw _ (List.mem_of_getElem? (i := 10) rfl)
theorem w11 {Z : State} {a0 : Array Value} (hw : oHw Z a0) : (Jvm.Cond.methodLink z12 (16 : Nat) ({ cls := z1, name := "<init>", desc := "()V" } : Jvm.MethodName)).before a0 Z = true := hw _ (List.mem_of_getElem? (i := 11) rfl)
theorem w12 {Z : State} {a0 : Array Value} (hw : oHw Z a0) : (Jvm.Cond.instanceMethod ({ cls := z1, name := "<init>", desc := "()V" } : Jvm.MethodName)).before a0 Z = true := hw _ (List.mem_of_getElem? (i := 12) rfl)
theorem w13 {Z : State} {a0 : Array Value} (hw : oHw Z a0) : (Jvm.Cond.code ({ cls := z1, name := "<init>", desc := "()V" } : Jvm.MethodName) jdk_38_method_2_code (1 : Nat) (Option.none : Option Jvm.ClassFile.FieldType)).before a0 Z = true := hw _ (List.mem_of_getElem? (i := 13) rfl)
theorem w14 {Z : State} {a0 : Array Value} (hw : oHw Z a0) : (Jvm.Cond.methodLink z1 (1 : Nat) ({ cls := z13, name := "<init>", desc := "()V" } : Jvm.MethodName)).before a0 Z = true := hw _ (List.mem_of_getElem? (i := 14) rfl)
theorem w15 {Z : State} {a0 : Array Value} (hw : oHw Z a0) : (Jvm.Cond.instanceMethod ({ cls := z13, name := "<init>", desc := "()V" } : Jvm.MethodName)).before a0 Z = true := hw _ (List.mem_of_getElem? (i := 15) rfl)
theorem w18 {Z : State} {a0 : Array Value} (hw : oHw Z a0) : (Jvm.Cond.initialized z13).before a0 Z = true := hw _ (List.mem_of_getElem? (i := 18) rfl)
theorem w19 {Z : State} {a0 : Array Value} (hw : oHw Z a0) : (Jvm.Cond.code ({ cls := z13, name := "<init>", desc := "()V" } : Jvm.MethodName) jdk_39_method_1_code (1 : Nat) (Option.none : Option Jvm.ClassFile.FieldType)).before a0 Z = true := hw _ (List.mem_of_getElem? (i := 19) rfl)
theorem w20 {Z : State} {a0 : Array Value} (hw : oHw Z a0) : (Jvm.Cond.methodLink z13 (1 : Nat) ({ cls := "java/util/AbstractCollection", name := "<init>", desc := "()V" } : Jvm.MethodName)).before a0 Z = true := hw _ (List.mem_of_getElem? (i := 20) rfl)
theorem w21 {Z : State} {a0 : Array Value} (hw : oHw Z a0) : (Jvm.Cond.instanceMethod ({ cls := "java/util/AbstractCollection", name := "<init>", desc := "()V" } : Jvm.MethodName)).before a0 Z = true := hw _ (List.mem_of_getElem? (i := 21) rfl)
theorem w24 {Z : State} {a0 : Array Value} (hw : oHw Z a0) : (Jvm.Cond.initialized "java/util/AbstractCollection").before a0 Z = true := hw _ (List.mem_of_getElem? (i := 24) rfl)
theorem w25 {Z : State} {a0 : Array Value} (hw : oHw Z a0) : (Jvm.Cond.code ({ cls := "java/util/AbstractCollection", name := "<init>", desc := "()V" } : Jvm.MethodName) jdk_22_method_1_code (1 : Nat) (Option.none : Option Jvm.ClassFile.FieldType)).before a0 Z = true := hw _ (List.mem_of_getElem? (i := 25) rfl)
theorem w26 {Z : State} {a0 : Array Value} (hw : oHw Z a0) : (Jvm.Cond.methodLink "java/util/AbstractCollection" (1 : Nat) ({ cls := z3, name := "<init>", desc := "()V" } : Jvm.MethodName)).before a0 Z = true := hw _ (List.mem_of_getElem? (i := 26) rfl)
theorem w27 {Z : State} {a0 : Array Value} (hw : oHw Z a0) : (Jvm.Cond.instanceMethod ({ cls := z3, name := "<init>", desc := "()V" } : Jvm.MethodName)).before a0 Z = true := hw _ (List.mem_of_getElem? (i := 27) rfl)
theorem w28 {Z : State} {a0 : Array Value} (hw : oHw Z a0) : (Jvm.Cond.code ({ cls := z3, name := "<init>", desc := "()V" } : Jvm.MethodName) object_method_1_code (1 : Nat) (Option.none : Option Jvm.ClassFile.FieldType)).before a0 Z = true := hw _ (List.mem_of_getElem? (i := 28) rfl)
theorem w29 {Z : State} {a0 : Array Value} (hw : oHw Z a0) : (Jvm.Cond.fieldLink z13 (7 : Nat) z13 "modCount" "I").before a0 Z = true := hw _ (List.mem_of_getElem? (i := 29) rfl)
theorem w30 {Z : State} {a0 : Array Value} (hw : oHw Z a0) : (Jvm.Cond.lays z1 z13 "modCount" "I").before a0 Z = true := hw _ (List.mem_of_getElem? (i := 30) rfl)
theorem w31 {Z : State} {a0 : Array Value} (hw : oHw Z a0) : (Jvm.Cond.fieldLink z1 (39 : Nat) z1 z22 z5).before a0 Z = true := hw _ (List.mem_of_getElem? (i := 31) rfl)
theorem w32 {Z : State} {a0 : Array Value} (hw : oHw Z a0) : (Jvm.Cond.fieldLink z1 (9 : Nat) z1 z14 z5).before a0 Z = true := hw _ (List.mem_of_getElem? (i := 32) rfl)
theorem w33 {Z : State} {a0 : Array Value} (hw : oHw Z a0) : (Jvm.Cond.lays z1 z1 z14 z5).before a0 Z = true := hw _ (List.mem_of_getElem? (i := 33) rfl)
theorem w34 {Z : State} {a0 : Array Value} (hw : oHw Z a0) : (Jvm.Cond.methodLink z12 (17 : Nat) ({ cls := z12, name := "field", desc := "(CJI)Ljava/lang/String;" } : Jvm.MethodName)).before a0 Z = true := hw _ (List.mem_of_getElem? (i := 34) rfl)
theorem w35 {Z : State} {a0 : Array Value} (hw : oHw Z a0) : (Jvm.Cond.static ({ cls := z12, name := "field", desc := "(CJI)Ljava/lang/String;" } : Jvm.MethodName)).before a0 Z = true := hw _ (List.mem_of_getElem? (i := 35) rfl)
theorem w36 {Z : State} {a0 : Array Value} (hw : oHw Z a0) : (Jvm.Cond.code ({ cls := z12, name := "field", desc := "(CJI)Ljava/lang/String;" } : Jvm.MethodName) method_2_code (4 : Nat) (Option.some (Jvm.ClassFile.FieldType.object z0))).before a0 Z = true := hw _ (List.mem_of_getElem? (i := 36) rfl)
theorem w37 {Z : State} {a0 : Array Value} (hw : oHw Z a0) : (Jvm.Cond.classLink z12 (7 : Nat) z0).before a0 Z = true := hw _ (List.mem_of_getElem? (i := 37) rfl)
theorem w38 {Z : State} {a0 : Array Value} (hw : oHw Z a0) : (Jvm.Cond.instantiable z0 (4 : Nat)).before a0 Z = true := hw _ (List.mem_of_getElem? (i := 38) rfl)
theorem w39 {Z : State} {a0 : Array Value} (hw : oHw Z a0) : (Jvm.Cond.initialized z0).before a0 Z = true := hw _ (List.mem_of_getElem? (i := 39) rfl)
theorem w40 {Z : State} {a0 : Array Value} (hw : oHw Z a0) : (Jvm.Cond.arrayClass Jvm.ClassFile.FieldType.char).before a0 Z = true := hw _ (List.mem_of_getElem? (i := 40) rfl)
theorem w41 {Z : State} {a0 : Array Value} (hw : oHw Z a0) : (Jvm.Cond.constantLong z12 (9 : Nat) (255 : Int64)).before a0 Z = true := hw _ (List.mem_of_getElem? (i := 41) rfl)
theorem w42 {Z : State} {a0 : Array Value} (hw : oHw Z a0) : (Jvm.Cond.methodLink z12 (11 : Nat) ({ cls := z0, name := "<init>", desc := "([C)V" } : Jvm.MethodName)).before a0 Z = true := hw _ (List.mem_of_getElem? (i := 42) rfl)
theorem w43 {Z : State} {a0 : Array Value} (hw : oHw Z a0) : (Jvm.Cond.instanceMethod ({ cls := z0, name := "<init>", desc := "([C)V" } : Jvm.MethodName)).before a0 Z = true := hw _ (List.mem_of_getElem? (i := 43) rfl)
theorem w44 {Z : State} {a0 : Array Value} (hw : oHw Z a0) : (Jvm.Cond.code ({ cls := z0, name := "<init>", desc := "([C)V" } : Jvm.MethodName) jdk_42_method_3_code (2 : Nat) (Option.none : Option Jvm.ClassFile.FieldType)).before a0 Z = true := hw _ (List.mem_of_getElem? (i := 44) rfl)
theorem w45 {Z : State} {a0 : Array Value} (hw : oHw Z a0) : (Jvm.Cond.methodLink z0 (27 : Nat) ({ cls := z0, name := "<init>", desc := "([CIILjava/lang/Void;)V" } : Jvm.MethodName)).before a0 Z = true := hw _ (List.mem_of_getElem? (i := 45) rfl)
theorem w46 {Z : State} {a0 : Array Value} (hw : oHw Z a0) : (Jvm.Cond.instanceMethod ({ cls := z0, name := "<init>", desc := "([CIILjava/lang/Void;)V" } : Jvm.MethodName)).before a0 Z = true := hw _ (List.mem_of_getElem? (i := 46) rfl)
theorem w48 {Z : State} {a0 : Array Value} (hw : oHw Z a0) : (Jvm.Cond.code ({ cls := z0, name := "<init>", desc := "([CIILjava/lang/Void;)V" } : Jvm.MethodName) jdk_42_method_149_code (6 : Nat) (Option.none : Option Jvm.ClassFile.FieldType)).before a0 Z = true := hw _ (List.mem_of_getElem? (i := 48) rfl)
theorem w49 {Z : State} {a0 : Array Value} (hw : oHw Z a0) : (Jvm.Cond.methodLink z0 (1 : Nat) ({ cls := z3, name := "<init>", desc := "()V" } : Jvm.MethodName)).before a0 Z = true := hw _ (List.mem_of_getElem? (i := 49) rfl)
theorem w50 {Z : State} {a0 : Array Value} (hw : oHw Z a0) : (Jvm.Cond.fieldLink z0 (38 : Nat) z0 "COMPACT_STRINGS" "Z").before a0 Z = true := hw _ (List.mem_of_getElem? (i := 50) rfl)
theorem w51 {Z : State} {a0 : Array Value} (hw : oHw Z a0) : (Jvm.Cond.methodLink z0 (177 : Nat) ({ cls := "java/lang/StringUTF16", name := "compress", desc := "([CII)[B" } : Jvm.MethodName)).before a0 Z = true := hw _ (List.mem_of_getElem? (i := 51) rfl)
theorem w52 {Z : State} {a0 : Array Value} (hw : oHw Z a0) : (Jvm.Cond.static ({ cls := "java/lang/StringUTF16", name := "compress", desc := "([CII)[B" } : Jvm.MethodName)).before a0 Z = true := hw _ (List.mem_of_getElem? (i := 52) rfl)
theorem w53 {Z : State} {a0 : Array Value} (hw : oHw Z a0) : (Jvm.Cond.initialized "java/lang/StringUTF16").before a0 Z = true := hw _ (List.mem_of_getElem? (i := 53) rfl)
theorem w54 {Z : State} {a0 : Array Value} (hw : oHw Z a0) : (Jvm.Cond.code ({ cls := "java/lang/StringUTF16", name := "compress", desc := "([CII)[B" } : Jvm.MethodName) jdk_52_method_16_code (6 : Nat) (Option.some (Jvm.ClassFile.FieldType.array Jvm.ClassFile.FieldType.byte))).before a0 Z = true := hw _ (List.mem_of_getElem? (i := 54) rfl)
theorem w55 {Z : State} {a0 : Array Value} (hw : oHw Z a0) : (Jvm.Cond.arrayClass Jvm.ClassFile.FieldType.byte).before a0 Z = true := hw _ (List.mem_of_getElem? (i := 55) rfl)
theorem w56 {Z : State} {a0 : Array Value} (hw : oHw Z a0) : (Jvm.Cond.methodLink "java/lang/StringUTF16" (115 : Nat) ({ cls := "java/lang/StringUTF16", name := "compress", desc := "([CI[BII)I" } : Jvm.MethodName)).before a0 Z = true := hw _ (List.mem_of_getElem? (i := 56) rfl)
theorem w57 {Z : State} {a0 : Array Value} (hw : oHw Z a0) : (Jvm.Cond.static ({ cls := "java/lang/StringUTF16", name := "compress", desc := "([CI[BII)I" } : Jvm.MethodName)).before a0 Z = true := hw _ (List.mem_of_getElem? (i := 57) rfl)
theorem w58 {Z : State} {a0 : Array Value} (hw : oHw Z a0) : (Jvm.Cond.code ({ cls := "java/lang/StringUTF16", name := "compress", desc := "([CI[BII)I" } : Jvm.MethodName) jdk_52_method_21_code (7 : Nat) (Option.some Jvm.ClassFile.FieldType.int)).before a0 Z = true := hw _ (List.mem_of_getElem? (i := 58) rfl)
theorem w59 {Z : State} {a0 : Array Value} (hw : oHw Z a0) : (Jvm.Cond.methodLink z0 (47 : Nat) ({ cls := "java/lang/StringUTF16", name := "coderFromArrayLen", desc := "([BI)B" } : Jvm.MethodName)).before a0 Z = true := hw _ (List.mem_of_getElem? (i := 59) rfl)
theorem w60 {Z : State} {a0 : Array Value} (hw : oHw Z a0) : (Jvm.Cond.static ({ cls := "java/lang/StringUTF16", name := "coderFromArrayLen", desc := "([BI)B" } : Jvm.MethodName)).before a0 Z = true := hw _ (List.mem_of_getElem? (i := 60) rfl)
theorem w61 {Z : State} {a0 : Array Value} (hw : oHw Z a0) : (Jvm.Cond.code ({ cls := "java/lang/StringUTF16", name := "coderFromArrayLen", desc := "([BI)B" } : Jvm.MethodName) jdk_52_method_15_code (2 : Nat) (Option.some Jvm.ClassFile.FieldType.byte)).before a0 Z = true := hw _ (List.mem_of_getElem? (i := 61) rfl)
theorem w62 {Z : State} {a0 : Array Value} (hw : oHw Z a0) : (Jvm.Cond.fieldLink z0 (15 : Nat) z0 "coder" "B").before a0 Z = true := hw _ (List.mem_of_getElem? (i := 62) rfl)
theorem w63 {Z : State} {a0 : Array Value} (hw : oHw Z a0) : (Jvm.Cond.laysFinal z0 z0 "coder" "B").before a0 Z = true := hw _ (List.mem_of_getElem? (i := 63) rfl)
theorem w64 {Z : State} {a0 : Array Value} (hw : oHw Z a0) : (Jvm.Cond.fieldLink z0 (9 : Nat) z0 "value" "[B").before a0 Z = true := hw _ (List.mem_of_getElem? (i := 64) rfl)
theorem w65 {Z : State} {a0 : Array Value} (hw : oHw Z a0) : (Jvm.Cond.laysFinal z0 z0 "value" "[B").before a0 Z = true := hw _ (List.mem_of_getElem? (i := 65) rfl)
theorem w66 {Z : State} {a0 : Array Value} (hw : oHw Z a0) : (Jvm.Cond.methodLink z12 (23 : Nat) ({ cls := z1, name := "add", desc := "(Ljava/lang/Object;)Z" } : Jvm.MethodName)).before a0 Z = true := hw _ (List.mem_of_getElem? (i := 66) rfl)
theorem w67 {Z : State} {a0 : Array Value} (hw : oHw Z a0) : (Jvm.Cond.declares ({ cls := z1, name := "add", desc := "(Ljava/lang/Object;)Z" } : Jvm.MethodName)).before a0 Z = true := hw _ (List.mem_of_getElem? (i := 67) rfl)
theorem w68 {Z : State} {a0 : Array Value} (hw : oHw Z a0) : (Jvm.Cond.instanceMethod ({ cls := z1, name := "add", desc := "(Ljava/lang/Object;)Z" } : Jvm.MethodName)).before a0 Z = true := hw _ (List.mem_of_getElem? (i := 68) rfl)
theorem w69 {Z : State} {a0 : Array Value} (hw : oHw Z a0) : (Jvm.Cond.selects z1 ({ cls := z1, name := "add", desc := "(Ljava/lang/Object;)Z" } : Jvm.MethodName) ({ cls := z1, name := "add", desc := "(Ljava/lang/Object;)Z" } : Jvm.MethodName)).before a0 Z = true := hw _ (List.mem_of_getElem? (i := 69) rfl)
theorem w70 {Z : State} {a0 : Array Value} (hw : oHw Z a0) : (Jvm.Cond.code ({ cls := z1, name := "add", desc := "(Ljava/lang/Object;)Z" } : Jvm.MethodName) jdk_38_method_25_code (2 : Nat) (Option.some Jvm.ClassFile.FieldType.boolean)).before a0 Z = true := hw _ (List.mem_of_getElem? (i := 70) rfl)
theorem w71 {Z : State} {a0 : Array Value} (hw : oHw Z a0) : (Jvm.Cond.fieldLink z1 (63 : Nat) z1 "modCount" "I").before a0 Z = true := hw _ (List.mem_of_getElem? (i := 71) rfl)
theorem w72 {Z : State} {a0 : Array Value} (hw : oHw Z a0) : (Jvm.Cond.sameField z1 z13 "modCount" "I").before a0 Z = true := hw _ (List.mem_of_getElem? (i := 72) rfl)
theorem w73 {Z : State} {a0 : Array Value} (hw : oHw Z a0) : (Jvm.Cond.fieldLink z1 (48 : Nat) z1 "size" "I").before a0 Z = true := hw _ (List.mem_of_getElem? (i := 73) rfl)
theorem w74 {Z : State} {a0 : Array Value} (hw : oHw Z a0) : (Jvm.Cond.lays z1 z1 "size" "I").before a0 Z = true := hw _ (List.mem_of_getElem? (i := 74) rfl)
theorem w75 {Z : State} {a0 : Array Value} (hw : oHw Z a0) : (Jvm.Cond.methodLink z1 (131 : Nat) ({ cls := z1, name := "add", desc := z23 } : Jvm.MethodName)).before a0 Z = true := hw _ (List.mem_of_getElem? (i := 75) rfl)
theorem w76 {Z : State} {a0 : Array Value} (hw : oHw Z a0) : (Jvm.Cond.instanceMethod ({ cls := z1, name := "add", desc := z23 } : Jvm.MethodName)).before a0 Z = true := hw _ (List.mem_of_getElem? (i := 76) rfl)
theorem w77 {Z : State} {a0 : Array Value} (hw : oHw Z a0) : (Jvm.Cond.privateMethod ({ cls := z1, name := "add", desc := z23 } : Jvm.MethodName)).before a0 Z = true := hw _ (List.mem_of_getElem? (i := 77) rfl)
theorem w78 {Z : State} {a0 : Array Value} (hw : oHw Z a0) : (Jvm.Cond.selects z1 ({ cls := z1, name := "add", desc := z23 } : Jvm.MethodName) ({ cls := z1, name := "add", desc := z23 } : Jvm.MethodName)).before a0 Z = true := hw _ (List.mem_of_getElem? (i := 78) rfl)
theorem w79 {Z : State} {a0 : Array Value} (hw : oHw Z a0) : (Jvm.Cond.code ({ cls := z1, name := "add", desc := z23 } : Jvm.MethodName) jdk_38_method_24_code (4 : Nat) (Option.none : Option Jvm.ClassFile.FieldType)).before a0 Z = true := hw _ (List.mem_of_getElem? (i := 79) rfl)
theorem w80 {Z : State} {a0 : Array Value} (hw : oHw Z a0) : (Jvm.Cond.methodLink z1 (129 : Nat) ({ cls := z1, name := "grow", desc := z19 } : Jvm.MethodName)).before a0 Z = true := hw _ (List.mem_of_getElem? (i := 80) rfl)
theorem w81 {Z : State} {a0 : Array Value} (hw : oHw Z a0) : (Jvm.Cond.instanceMethod ({ cls := z1, name := "grow", desc := z19 } : Jvm.MethodName)).before a0 Z = true := hw _ (List.mem_of_getElem? (i := 81) rfl)
theorem w82 {Z : State} {a0 : Array Value} (hw : oHw Z a0) : (Jvm.Cond.privateMethod ({ cls := z1, name := "grow", desc := z19 } : Jvm.MethodName)).before a0 Z = true := hw _ (List.mem_of_getElem? (i := 82) rfl)
theorem w83 {Z : State} {a0 : Array Value} (hw : oHw Z a0) : (Jvm.Cond.selects z1 ({ cls := z1, name := "grow", desc := z19 } : Jvm.MethodName) ({ cls := z1, name := "grow", desc := z19 } : Jvm.MethodName)).before a0 Z = true := hw _ (List.mem_of_getElem? (i := 83) rfl)
theorem w84 {Z : State} {a0 : Array Value} (hw : oHw Z a0) : (Jvm.Cond.code ({ cls := z1, name := "grow", desc := z19 } : Jvm.MethodName) jdk_38_method_7_code (1 : Nat) (Option.some (Jvm.ClassFile.FieldType.array (Jvm.ClassFile.FieldType.object z3)))).before a0 Z = true := hw _ (List.mem_of_getElem? (i := 84) rfl)
theorem w85 {Z : State} {a0 : Array Value} (hw : oHw Z a0) : (Jvm.Cond.methodLink z1 (69 : Nat) ({ cls := z1, name := "grow", desc := "(I)[Ljava/lang/Object;" } : Jvm.MethodName)).before a0 Z = true := hw _ (List.mem_of_getElem? (i := 85) rfl)
theorem w86 {Z : State} {a0 : Array Value} (hw : oHw Z a0) : (Jvm.Cond.instanceMethod ({ cls := z1, name := "grow", desc := "(I)[Ljava/lang/Object;" } : Jvm.MethodName)).before a0 Z = true := hw _ (List.mem_of_getElem? (i := 86) rfl)
theorem w87 {Z : State} {a0 : Array Value} (hw : oHw Z a0) : (Jvm.Cond.privateMethod ({ cls := z1, name := "grow", desc := "(I)[Ljava/lang/Object;" } : Jvm.MethodName)).before a0 Z = true := hw _ (List.mem_of_getElem? (i := 87) rfl)
theorem w88 {Z : State} {a0 : Array Value} (hw : oHw Z a0) : (Jvm.Cond.selects z1 ({ cls := z1, name := "grow", desc := "(I)[Ljava/lang/Object;" } : Jvm.MethodName) ({ cls := z1, name := "grow", desc := "(I)[Ljava/lang/Object;" } : Jvm.MethodName)).before a0 Z = true := hw _ (List.mem_of_getElem? (i := 88) rfl)
theorem w89 {Z : State} {a0 : Array Value} (hw : oHw Z a0) : (Jvm.Cond.code ({ cls := z1, name := "grow", desc := "(I)[Ljava/lang/Object;" } : Jvm.MethodName) jdk_38_method_6_code (4 : Nat) (Option.some (Jvm.ClassFile.FieldType.array (Jvm.ClassFile.FieldType.object z3)))).before a0 Z = true := hw _ (List.mem_of_getElem? (i := 89) rfl)
theorem w90 {Z : State} {a0 : Array Value} (hw : oHw Z a0) : (Jvm.Cond.methodLink z1 (79 : Nat) ({ cls := "java/lang/Math", name := "max", desc := "(II)I" } : Jvm.MethodName)).before a0 Z = true := hw _ (List.mem_of_getElem? (i := 90) rfl)
theorem w91 {Z : State} {a0 : Array Value} (hw : oHw Z a0) : (Jvm.Cond.static ({ cls := "java/lang/Math", name := "max", desc := "(II)I" } : Jvm.MethodName)).before a0 Z = true := hw _ (List.mem_of_getElem? (i := 91) rfl)
theorem w92 {Z : State} {a0 : Array Value} (hw : oHw Z a0) : (Jvm.Cond.initialized "java/lang/Math").before a0 Z = true := hw _ (List.mem_of_getElem? (i := 92) rfl)
theorem w93 {Z : State} {a0 : Array Value} (hw : oHw Z a0) : (Jvm.Cond.code ({ cls := "java/lang/Math", name := "max", desc := "(II)I" } : Jvm.MethodName) jdk_29_method_65_code (2 : Nat) (Option.some Jvm.ClassFile.FieldType.int)).before a0 Z = true := hw _ (List.mem_of_getElem? (i := 93) rfl)
theorem w94 {Z : State} {a0 : Array Value} (hw : oHw Z a0) : (Jvm.Cond.classLink z1 (7 : Nat) z3).before a0 Z = true := hw _ (List.mem_of_getElem? (i := 94) rfl)
theorem w95 {Z : State} {a0 : Array Value} (hw : oHw Z a0) : (Jvm.Cond.arrayOver (Jvm.ClassFile.FieldType.object z3)).before a0 Z = true := hw _ (List.mem_of_getElem? (i := 95) rfl)
theorem w96 {Z : State} {a0 : Array Value} (hw : oHw Z a0) : (Jvm.Cond.castable z0 z3).before a0 Z = true := hw _ (List.mem_of_getElem? (i := 96) rfl)
theorem w97 {Z : State} {a0 : Array Value} (hw : oHw Z a0) : (Jvm.Cond.methodLink z12 (34 : Nat) ({ cls := z2, name := "<init>", desc := z15 } : Jvm.MethodName)).before a0 Z = true := hw _ (List.mem_of_getElem? (i := 97) rfl)
theorem w98 {Z : State} {a0 : Array Value} (hw : oHw Z a0) : (Jvm.Cond.instanceMethod ({ cls := z2, name := "<init>", desc := z15 } : Jvm.MethodName)).before a0 Z = true := hw _ (List.mem_of_getElem? (i := 98) rfl)
theorem w99 {Z : State} {a0 : Array Value} (hw : oHw Z a0) : (Jvm.Cond.code ({ cls := z2, name := "<init>", desc := z15 } : Jvm.MethodName) prog_28_method_1_code (3 : Nat) (Option.none : Option Jvm.ClassFile.FieldType)).before a0 Z = true := hw _ (List.mem_of_getElem? (i := 99) rfl)
theorem w100 {Z : State} {a0 : Array Value} (hw : oHw Z a0) : (Jvm.Cond.methodLink z2 (1 : Nat) ({ cls := "java/lang/Record", name := "<init>", desc := "()V" } : Jvm.MethodName)).before a0 Z = true := hw _ (List.mem_of_getElem? (i := 100) rfl)
theorem w101 {Z : State} {a0 : Array Value} (hw : oHw Z a0) : (Jvm.Cond.instanceMethod ({ cls := "java/lang/Record", name := "<init>", desc := "()V" } : Jvm.MethodName)).before a0 Z = true := hw _ (List.mem_of_getElem? (i := 101) rfl)
theorem w103 {Z : State} {a0 : Array Value} (hw : oHw Z a0) : (Jvm.Cond.initialized "java/lang/Record").before a0 Z = true := hw _ (List.mem_of_getElem? (i := 103) rfl)
theorem w104 {Z : State} {a0 : Array Value} (hw : oHw Z a0) : (Jvm.Cond.code ({ cls := "java/lang/Record", name := "<init>", desc := "()V" } : Jvm.MethodName) jdk_30_method_1_code (1 : Nat) (Option.none : Option Jvm.ClassFile.FieldType)).before a0 Z = true := hw _ (List.mem_of_getElem? (i := 104) rfl)
theorem w105 {Z : State} {a0 : Array Value} (hw : oHw Z a0) : (Jvm.Cond.methodLink "java/lang/Record" (1 : Nat) ({ cls := z3, name := "<init>", desc := "()V" } : Jvm.MethodName)).before a0 Z = true := hw _ (List.mem_of_getElem? (i := 105) rfl)
theorem w106 {Z : State} {a0 : Array Value} (hw : oHw Z a0) : (Jvm.Cond.methodLink z2 (7 : Nat) ({ cls := z7, name := "copyOf", desc := z24 } : Jvm.MethodName)).before a0 Z = true := hw _ (List.mem_of_getElem? (i := 106) rfl)
theorem w107 {Z : State} {a0 : Array Value} (hw : oHw Z a0) : (Jvm.Cond.static ({ cls := z7, name := "copyOf", desc := z24 } : Jvm.MethodName)).before a0 Z = true := hw _ (List.mem_of_getElem? (i := 107) rfl)
theorem w108 {Z : State} {a0 : Array Value} (hw : oHw Z a0) : (Jvm.Cond.initialized z7).before a0 Z = true := hw _ (List.mem_of_getElem? (i := 108) rfl)
theorem w109 {Z : State} {a0 : Array Value} (hw : oHw Z a0) : (Jvm.Cond.code ({ cls := z7, name := "copyOf", desc := z24 } : Jvm.MethodName) jdk_40_method_48_code (1 : Nat) (Option.some (Jvm.ClassFile.FieldType.object z7))).before a0 Z = true := hw _ (List.mem_of_getElem? (i := 109) rfl)
theorem w110 {Z : State} {a0 : Array Value} (hw : oHw Z a0) : (Jvm.Cond.methodLink z7 (112 : Nat) ({ cls := z18, name := "listCopy", desc := z24 } : Jvm.MethodName)).before a0 Z = true := hw _ (List.mem_of_getElem? (i := 110) rfl)
theorem w111 {Z : State} {a0 : Array Value} (hw : oHw Z a0) : (Jvm.Cond.static ({ cls := z18, name := "listCopy", desc := z24 } : Jvm.MethodName)).before a0 Z = true := hw _ (List.mem_of_getElem? (i := 111) rfl)
theorem w112 {Z : State} {a0 : Array Value} (hw : oHw Z a0) : (Jvm.Cond.initialized z18).before a0 Z = true := hw _ (List.mem_of_getElem? (i := 112) rfl)
theorem w113 {Z : State} {a0 : Array Value} (hw : oHw Z a0) : (Jvm.Cond.code ({ cls := z18, name := "listCopy", desc := z24 } : Jvm.MethodName) jdk_56_method_3_code (2 : Nat) (Option.some (Jvm.ClassFile.FieldType.object z7))).before a0 Z = true := hw _ (List.mem_of_getElem? (i := 113) rfl)
theorem w114 {Z : State} {a0 : Array Value} (hw : oHw Z a0) : (Jvm.Cond.classLink z18 (10 : Nat) z8).before a0 Z = true := hw _ (List.mem_of_getElem? (i := 114) rfl)
theorem w115 {Z : State} {a0 : Array Value} (hw : oHw Z a0) : (Jvm.Cond.superclass z1 z13).before a0 Z = true := hw _ (List.mem_of_getElem? (i := 115) rfl)
theorem w116 {Z : State} {a0 : Array Value} (hw : oHw Z a0) : (Jvm.Cond.superclass z13 "java/util/AbstractCollection").before a0 Z = true := hw _ (List.mem_of_getElem? (i := 116) rfl)
theorem w117 {Z : State} {a0 : Array Value} (hw : oHw Z a0) : (Jvm.Cond.superclass "java/util/AbstractCollection" z3).before a0 Z = true := hw _ (List.mem_of_getElem? (i := 117) rfl)
theorem w118 {Z : State} {a0 : Array Value} (hw : oHw Z a0) : (Jvm.Cond.noSuperclass z3).before a0 Z = true := hw _ (List.mem_of_getElem? (i := 118) rfl)
theorem w119 {Z : State} {a0 : Array Value} (hw : oHw Z a0) : (Jvm.Cond.classLink z18 (12 : Nat) z9).before a0 Z = true := hw _ (List.mem_of_getElem? (i := 119) rfl)
theorem w120 {Z : State} {a0 : Array Value} (hw : oHw Z a0) : (Jvm.Cond.methodLink z18 (20 : Nat) ({ cls := "java/util/Collection", name := "isEmpty", desc := "()Z" } : Jvm.MethodName)).before a0 Z = true := hw _ (List.mem_of_getElem? (i := 120) rfl)
theorem w121 {Z : State} {a0 : Array Value} (hw : oHw Z a0) : (Jvm.Cond.declares ({ cls := "java/util/Collection", name := "isEmpty", desc := "()Z" } : Jvm.MethodName)).before a0 Z = true := hw _ (List.mem_of_getElem? (i := 121) rfl)
theorem w122 {Z : State} {a0 : Array Value} (hw : oHw Z a0) : (Jvm.Cond.interfaceMethod "java/util/Collection" "java/util/Collection" "isEmpty" "()Z").before a0 Z = true := hw _ (List.mem_of_getElem? (i := 122) rfl)
theorem w123 {Z : State} {a0 : Array Value} (hw : oHw Z a0) : (Jvm.Cond.selects z1 ({ cls := "java/util/Collection", name := "isEmpty", desc := "()Z" } : Jvm.MethodName) ({ cls := z1, name := "isEmpty", desc := "()Z" } : Jvm.MethodName)).before a0 Z = true := hw _ (List.mem_of_getElem? (i := 123) rfl)
theorem w124 {Z : State} {a0 : Array Value} (hw : oHw Z a0) : (Jvm.Cond.instanceMethod ({ cls := z1, name := "isEmpty", desc := "()Z" } : Jvm.MethodName)).before a0 Z = true := hw _ (List.mem_of_getElem? (i := 124) rfl)
theorem w125 {Z : State} {a0 : Array Value} (hw : oHw Z a0) : (Jvm.Cond.publicMethod ({ cls := z1, name := "isEmpty", desc := "()Z" } : Jvm.MethodName)).before a0 Z = true := hw _ (List.mem_of_getElem? (i := 125) rfl)
theorem w126 {Z : State} {a0 : Array Value} (hw : oHw Z a0) : (Jvm.Cond.unhidden z1 "isEmpty" "()Z").before a0 Z = true := hw _ (List.mem_of_getElem? (i := 126) rfl)
theorem w127 {Z : State} {a0 : Array Value} (hw : oHw Z a0) : (Jvm.Cond.castable z1 "java/util/Collection").before a0 Z = true := hw _ (List.mem_of_getElem? (i := 127) rfl)
theorem w128 {Z : State} {a0 : Array Value} (hw : oHw Z a0) : (Jvm.Cond.code ({ cls := z1, name := "isEmpty", desc := "()Z" } : Jvm.MethodName) jdk_38_method_9_code (1 : Nat) (Option.some Jvm.ClassFile.FieldType.boolean)).before a0 Z = true := hw _ (List.mem_of_getElem? (i := 128) rfl)
theorem w129 {Z : State} {a0 : Array Value} (hw : oHw Z a0) : (Jvm.Cond.methodLink z18 (30 : Nat) ({ cls := "java/util/Collection", name := "toArray", desc := z19 } : Jvm.MethodName)).before a0 Z = true := hw _ (List.mem_of_getElem? (i := 129) rfl)
theorem w130 {Z : State} {a0 : Array Value} (hw : oHw Z a0) : (Jvm.Cond.declares ({ cls := "java/util/Collection", name := "toArray", desc := z19 } : Jvm.MethodName)).before a0 Z = true := hw _ (List.mem_of_getElem? (i := 130) rfl)
theorem w131 {Z : State} {a0 : Array Value} (hw : oHw Z a0) : (Jvm.Cond.interfaceMethod "java/util/Collection" "java/util/Collection" "toArray" z19).before a0 Z = true := hw _ (List.mem_of_getElem? (i := 131) rfl)
theorem w132 {Z : State} {a0 : Array Value} (hw : oHw Z a0) : (Jvm.Cond.selects z1 ({ cls := "java/util/Collection", name := "toArray", desc := z19 } : Jvm.MethodName) ({ cls := z1, name := "toArray", desc := z19 } : Jvm.MethodName)).before a0 Z = true := hw _ (List.mem_of_getElem? (i := 132) rfl)
theorem w133 {Z : State} {a0 : Array Value} (hw : oHw Z a0) : (Jvm.Cond.instanceMethod ({ cls := z1, name := "toArray", desc := z19 } : Jvm.MethodName)).before a0 Z = true := hw _ (List.mem_of_getElem? (i := 133) rfl)
theorem w134 {Z : State} {a0 : Array Value} (hw : oHw Z a0) : (Jvm.Cond.publicMethod ({ cls := z1, name := "toArray", desc := z19 } : Jvm.MethodName)).before a0 Z = true := hw _ (List.mem_of_getElem? (i := 134) rfl)
theorem w135 {Z : State} {a0 : Array Value} (hw : oHw Z a0) : (Jvm.Cond.unhidden z1 "toArray" z19).before a0 Z = true := hw _ (List.mem_of_getElem? (i := 135) rfl)
theorem w136 {Z : State} {a0 : Array Value} (hw : oHw Z a0) : (Jvm.Cond.code ({ cls := z1, name := "toArray", desc := z19 } : Jvm.MethodName) jdk_38_method_16_code (1 : Nat) (Option.some (Jvm.ClassFile.FieldType.array (Jvm.ClassFile.FieldType.object z3)))).before a0 Z = true := hw _ (List.mem_of_getElem? (i := 136) rfl)
theorem w137 {Z : State} {a0 : Array Value} (hw : oHw Z a0) : (Jvm.Cond.methodLink z1 (66 : Nat) ({ cls := "java/util/Arrays", name := "copyOf", desc := "([Ljava/lang/Object;I)[Ljava/lang/Object;" } : Jvm.MethodName)).before a0 Z = true := hw _ (List.mem_of_getElem? (i := 137) rfl)
theorem w138 {Z : State} {a0 : Array Value} (hw : oHw Z a0) : (Jvm.Cond.static ({ cls := "java/util/Arrays", name := "copyOf", desc := "([Ljava/lang/Object;I)[Ljava/lang/Object;" } : Jvm.MethodName)).before a0 Z = true := hw _ (List.mem_of_getElem? (i := 138) rfl)
theorem w139 {Z : State} {a0 : Array Value} (hw : oHw Z a0) : (Jvm.Cond.initialized "java/util/Arrays").before a0 Z = true := hw _ (List.mem_of_getElem? (i := 139) rfl)
theorem w140 {Z : State} {a0 : Array Value} (hw : oHw Z a0) : (Jvm.Cond.code ({ cls := "java/util/Arrays", name := "copyOf", desc := "([Ljava/lang/Object;I)[Ljava/lang/Object;" } : Jvm.MethodName) jdk_65_method_119_code (2 : Nat) (Option.some (Jvm.ClassFile.FieldType.array (Jvm.ClassFile.FieldType.object z3)))).before a0 Z = true := hw _ (List.mem_of_getElem? (i := 140) rfl)
theorem w141 {Z : State} {a0 : Array Value} (hw : oHw Z a0) : (Jvm.Cond.methodLink "java/util/Arrays" (86 : Nat) ({ cls := z3, name := "getClass", desc := "()Ljava/lang/Class;" } : Jvm.MethodName)).before a0 Z = true := hw _ (List.mem_of_getElem? (i := 141) rfl)
theorem w142 {Z : State} {a0 : Array Value} (hw : oHw Z a0) : (Jvm.Cond.declares ({ cls := z3, name := "getClass", desc := "()Ljava/lang/Class;" } : Jvm.MethodName)).before a0 Z = true := hw _ (List.mem_of_getElem? (i := 142) rfl)
theorem w143 {Z : State} {a0 : Array Value} (hw : oHw Z a0) : (Jvm.Cond.instanceMethod ({ cls := z3, name := "getClass", desc := "()Ljava/lang/Class;" } : Jvm.MethodName)).before a0 Z = true := hw _ (List.mem_of_getElem? (i := 143) rfl)
theorem w144 {Z : State} {a0 : Array Value} (hw : oHw Z a0) : (Jvm.Cond.selects z5 ({ cls := z3, name := "getClass", desc := "()Ljava/lang/Class;" } : Jvm.MethodName) ({ cls := z3, name := "getClass", desc := "()Ljava/lang/Class;" } : Jvm.MethodName)).before a0 Z = true := hw _ (List.mem_of_getElem? (i := 144) rfl)
theorem w145 {Z : State} {a0 : Array Value} (hw : oHw Z a0) : (Jvm.Cond.native ({ cls := z3, name := "getClass", desc := "()Ljava/lang/Class;" } : Jvm.MethodName)).before a0 Z = true := hw _ (List.mem_of_getElem? (i := 145) rfl)
theorem w147 {Z : State} {a0 : Array Value} (hw : oHw Z a0) : (Jvm.Cond.methodLink "java/util/Arrays" (300 : Nat) ({ cls := "java/util/Arrays", name := "copyOf", desc := "([Ljava/lang/Object;ILjava/lang/Class;)[Ljava/lang/Object;" } : Jvm.MethodName)).before a0 Z = true := hw _ (List.mem_of_getElem? (i := 147) rfl)
theorem w148 {Z : State} {a0 : Array Value} (hw : oHw Z a0) : (Jvm.Cond.static ({ cls := "java/util/Arrays", name := "copyOf", desc := "([Ljava/lang/Object;ILjava/lang/Class;)[Ljava/lang/Object;" } : Jvm.MethodName)).before a0 Z = true := hw _ (List.mem_of_getElem? (i := 148) rfl)
theorem w149 {Z : State} {a0 : Array Value} (hw : oHw Z a0) : (Jvm.Cond.code ({ cls := "java/util/Arrays", name := "copyOf", desc := "([Ljava/lang/Object;ILjava/lang/Class;)[Ljava/lang/Object;" } : Jvm.MethodName) jdk_65_method_120_code (4 : Nat) (Option.some (Jvm.ClassFile.FieldType.array (Jvm.ClassFile.FieldType.object z3)))).before a0 Z = true := hw _ (List.mem_of_getElem? (i := 149) rfl)
theorem w150 {Z : State} {a0 : Array Value} (hw : oHw Z a0) : (Jvm.Cond.classLink "java/util/Arrays" (110 : Nat) z5).before a0 Z = true := hw _ (List.mem_of_getElem? (i := 150) rfl)
theorem w151 {Z : State} {a0 : Array Value} (hw : oHw Z a0) : (Jvm.Cond.classLink "java/util/Arrays" (2 : Nat) z3).before a0 Z = true := hw _ (List.mem_of_getElem? (i := 151) rfl)
theorem w152 {Z : State} {a0 : Array Value} (hw : oHw Z a0) : (Jvm.Cond.methodLink "java/util/Arrays" (304 : Nat) ({ cls := "java/lang/Math", name := "min", desc := "(II)I" } : Jvm.MethodName)).before a0 Z = true := hw _ (List.mem_of_getElem? (i := 152) rfl)
theorem w153 {Z : State} {a0 : Array Value} (hw : oHw Z a0) : (Jvm.Cond.static ({ cls := "java/lang/Math", name := "min", desc := "(II)I" } : Jvm.MethodName)).before a0 Z = true := hw _ (List.mem_of_getElem? (i := 153) rfl)
theorem w154 {Z : State} {a0 : Array Value} (hw : oHw Z a0) : (Jvm.Cond.code ({ cls := "java/lang/Math", name := "min", desc := "(II)I" } : Jvm.MethodName) jdk_29_method_69_code (2 : Nat) (Option.some Jvm.ClassFile.FieldType.int)).before a0 Z = true := hw _ (List.mem_of_getElem? (i := 154) rfl)
theorem w155 {Z : State} {a0 : Array Value} (hw : oHw Z a0) : (Jvm.Cond.methodLink "java/util/Arrays" (150 : Nat) ({ cls := "java/lang/System", name := "arraycopy", desc := "(Ljava/lang/Object;ILjava/lang/Object;II)V" } : Jvm.MethodName)).before a0 Z = true := hw _ (List.mem_of_getElem? (i := 155) rfl)
theorem w156 {Z : State} {a0 : Array Value} (hw : oHw Z a0) : (Jvm.Cond.static ({ cls := "java/lang/System", name := "arraycopy", desc := "(Ljava/lang/Object;ILjava/lang/Object;II)V" } : Jvm.MethodName)).before a0 Z = true := hw _ (List.mem_of_getElem? (i := 156) rfl)
theorem w157 {Z : State} {a0 : Array Value} (hw : oHw Z a0) : (Jvm.Cond.initialized "java/lang/System").before a0 Z = true := hw _ (List.mem_of_getElem? (i := 157) rfl)
theorem w158 {Z : State} {a0 : Array Value} (hw : oHw Z a0) : (Jvm.Cond.native ({ cls := "java/lang/System", name := "arraycopy", desc := "(Ljava/lang/Object;ILjava/lang/Object;II)V" } : Jvm.MethodName)).before a0 Z = true := hw _ (List.mem_of_getElem? (i := 158) rfl)
theorem w159 {Z : State} {a0 : Array Value} (hw : oHw Z a0) : (Jvm.Cond.methodLink z18 (34 : Nat) ({ cls := z7, name := "of", desc := "([Ljava/lang/Object;)Ljava/util/List;" } : Jvm.MethodName)).before a0 Z = true := hw _ (List.mem_of_getElem? (i := 159) rfl)
theorem w160 {Z : State} {a0 : Array Value} (hw : oHw Z a0) : (Jvm.Cond.static ({ cls := z7, name := "of", desc := "([Ljava/lang/Object;)Ljava/util/List;" } : Jvm.MethodName)).before a0 Z = true := hw _ (List.mem_of_getElem? (i := 160) rfl)
theorem w161 {Z : State} {a0 : Array Value} (hw : oHw Z a0) : (Jvm.Cond.code ({ cls := z7, name := "of", desc := "([Ljava/lang/Object;)Ljava/util/List;" } : Jvm.MethodName) jdk_40_method_47_code (2 : Nat) (Option.some (Jvm.ClassFile.FieldType.object z7))).before a0 Z = true := hw _ (List.mem_of_getElem? (i := 161) rfl)
theorem w162 {Z : State} {a0 : Array Value} (hw : oHw Z a0) : (Jvm.Cond.classLink z7 (96 : Nat) z8).before a0 Z = true := hw _ (List.mem_of_getElem? (i := 162) rfl)
theorem w163 {Z : State} {a0 : Array Value} (hw : oHw Z a0) : (Jvm.Cond.instantiable z8 (2 : Nat)).before a0 Z = true := hw _ (List.mem_of_getElem? (i := 163) rfl)
theorem w164 {Z : State} {a0 : Array Value} (hw : oHw Z a0) : (Jvm.Cond.initialized z8).before a0 Z = true := hw _ (List.mem_of_getElem? (i := 164) rfl)
theorem w165 {Z : State} {a0 : Array Value} (hw : oHw Z a0) : (Jvm.Cond.methodLink z7 (98 : Nat) ({ cls := z8, name := "<init>", desc := "(Ljava/lang/Object;)V" } : Jvm.MethodName)).before a0 Z = true := hw _ (List.mem_of_getElem? (i := 165) rfl)
theorem w166 {Z : State} {a0 : Array Value} (hw : oHw Z a0) : (Jvm.Cond.instanceMethod ({ cls := z8, name := "<init>", desc := "(Ljava/lang/Object;)V" } : Jvm.MethodName)).before a0 Z = true := hw _ (List.mem_of_getElem? (i := 166) rfl)
theorem w168 {Z : State} {a0 : Array Value} (hw : oHw Z a0) : (Jvm.Cond.code ({ cls := z8, name := "<init>", desc := "(Ljava/lang/Object;)V" } : Jvm.MethodName) jdk_44_method_1_code (2 : Nat) (Option.none : Option Jvm.ClassFile.FieldType)).before a0 Z = true := hw _ (List.mem_of_getElem? (i := 168) rfl)
theorem w169 {Z : State} {a0 : Array Value} (hw : oHw Z a0) : (Jvm.Cond.methodLink z8 (1 : Nat) ({ cls := z25, name := "<init>", desc := "()V" } : Jvm.MethodName)).before a0 Z = true := hw _ (List.mem_of_getElem? (i := 169) rfl)
theorem w170 {Z : State} {a0 : Array Value} (hw : oHw Z a0) : (Jvm.Cond.instanceMethod ({ cls := z25, name := "<init>", desc := "()V" } : Jvm.MethodName)).before a0 Z = true := hw _ (List.mem_of_getElem? (i := 170) rfl)
theorem w173 {Z : State} {a0 : Array Value} (hw : oHw Z a0) : (Jvm.Cond.initialized z25).before a0 Z = true := hw _ (List.mem_of_getElem? (i := 173) rfl)
theorem w174 {Z : State} {a0 : Array Value} (hw : oHw Z a0) : (Jvm.Cond.code ({ cls := z25, name := "<init>", desc := "()V" } : Jvm.MethodName) jdk_46_method_1_code (1 : Nat) (Option.none : Option Jvm.ClassFile.FieldType)).before a0 Z = true := hw _ (List.mem_of_getElem? (i := 174) rfl)
theorem w175 {Z : State} {a0 : Array Value} (hw : oHw Z a0) : (Jvm.Cond.methodLink z25 (1 : Nat) ({ cls := z27, name := "<init>", desc := "()V" } : Jvm.MethodName)).before a0 Z = true := hw _ (List.mem_of_getElem? (i := 175) rfl)
theorem w176 {Z : State} {a0 : Array Value} (hw : oHw Z a0) : (Jvm.Cond.instanceMethod ({ cls := z27, name := "<init>", desc := "()V" } : Jvm.MethodName)).before a0 Z = true := hw _ (List.mem_of_getElem? (i := 176) rfl)
theorem w179 {Z : State} {a0 : Array Value} (hw : oHw Z a0) : (Jvm.Cond.initialized z27).before a0 Z = true := hw _ (List.mem_of_getElem? (i := 179) rfl)
theorem w180 {Z : State} {a0 : Array Value} (hw : oHw Z a0) : (Jvm.Cond.code ({ cls := z27, name := "<init>", desc := "()V" } : Jvm.MethodName) jdk_47_method_1_code (1 : Nat) (Option.none : Option Jvm.ClassFile.FieldType)).before a0 Z = true := hw _ (List.mem_of_getElem? (i := 180) rfl)
theorem w181 {Z : State} {a0 : Array Value} (hw : oHw Z a0) : (Jvm.Cond.methodLink z27 (1 : Nat) ({ cls := "java/util/AbstractCollection", name := "<init>", desc := "()V" } : Jvm.MethodName)).before a0 Z = true := hw _ (List.mem_of_getElem? (i := 181) rfl)
theorem w183 {Z : State} {a0 : Array Value} (hw : oHw Z a0) : (Jvm.Cond.methodLink z8 (7 : Nat) ({ cls := "java/util/Objects", name := "requireNonNull", desc := "(Ljava/lang/Object;)Ljava/lang/Object;" } : Jvm.MethodName)).before a0 Z = true := hw _ (List.mem_of_getElem? (i := 183) rfl)
theorem w184 {Z : State} {a0 : Array Value} (hw : oHw Z a0) : (Jvm.Cond.static ({ cls := "java/util/Objects", name := "requireNonNull", desc := "(Ljava/lang/Object;)Ljava/lang/Object;" } : Jvm.MethodName)).before a0 Z = true := hw _ (List.mem_of_getElem? (i := 184) rfl)
theorem w185 {Z : State} {a0 : Array Value} (hw : oHw Z a0) : (Jvm.Cond.initialized "java/util/Objects").before a0 Z = true := hw _ (List.mem_of_getElem? (i := 185) rfl)
theorem w186 {Z : State} {a0 : Array Value} (hw : oHw Z a0) : (Jvm.Cond.code ({ cls := "java/util/Objects", name := "requireNonNull", desc := "(Ljava/lang/Object;)Ljava/lang/Object;" } : Jvm.MethodName) jdk_31_method_10_code (1 : Nat) (Option.some (Jvm.ClassFile.FieldType.object z3))).before a0 Z = true := hw _ (List.mem_of_getElem? (i := 186) rfl)
theorem w187 {Z : State} {a0 : Array Value} (hw : oHw Z a0) : (Jvm.Cond.fieldLink z8 (13 : Nat) z8 "e0" z10).before a0 Z = true := hw _ (List.mem_of_getElem? (i := 187) rfl)
theorem w188 {Z : State} {a0 : Array Value} (hw : oHw Z a0) : (Jvm.Cond.laysFinal z8 z8 "e0" z10).before a0 Z = true := hw _ (List.mem_of_getElem? (i := 188) rfl)
theorem w189 {Z : State} {a0 : Array Value} (hw : oHw Z a0) : (Jvm.Cond.fieldLinkNest z8 (19 : Nat) z18 "EMPTY" z10 z18).before a0 Z = true := hw _ (List.mem_of_getElem? (i := 189) rfl)
theorem w190 {Z : State} {a0 : Array Value} (hw : oHw Z a0) : (Jvm.Cond.fieldLink z8 (24 : Nat) z8 "e1" z10).before a0 Z = true := hw _ (List.mem_of_getElem? (i := 190) rfl)
theorem w191 {Z : State} {a0 : Array Value} (hw : oHw Z a0) : (Jvm.Cond.laysFinal z8 z8 "e1" z10).before a0 Z = true := hw _ (List.mem_of_getElem? (i := 191) rfl)
theorem w192 {Z : State} {a0 : Array Value} (hw : oHw Z a0) : (Jvm.Cond.fieldLink z2 (13 : Nat) z2 "line" "I").before a0 Z = true := hw _ (List.mem_of_getElem? (i := 192) rfl)
theorem w193 {Z : State} {a0 : Array Value} (hw : oHw Z a0) : (Jvm.Cond.laysFinal z2 z2 "line" "I").before a0 Z = true := hw _ (List.mem_of_getElem? (i := 193) rfl)
theorem w194 {Z : State} {a0 : Array Value} (hw : oHw Z a0) : (Jvm.Cond.fieldLink z2 (19 : Nat) z2 "fields" z11).before a0 Z = true := hw _ (List.mem_of_getElem? (i := 194) rfl)
theorem w195 {Z : State} {a0 : Array Value} (hw : oHw Z a0) : (Jvm.Cond.laysFinal z2 z2 "fields" z11).before a0 Z = true := hw _ (List.mem_of_getElem? (i := 195) rfl)
theorem w196 {Z : State} {a0 : Array Value} (hw : oHw Z a0) : (Jvm.Cond.classLink z12 (37 : Nat) z4).before a0 Z = true := hw _ (List.mem_of_getElem? (i := 196) rfl)
theorem w197 {Z : State} {a0 : Array Value} (hw : oHw Z a0) : (Jvm.Cond.instantiable z4 (3 : Nat)).before a0 Z = true := hw _ (List.mem_of_getElem? (i := 197) rfl)
theorem w198 {Z : State} {a0 : Array Value} (hw : oHw Z a0) : (Jvm.Cond.initialized z4).before a0 Z = true := hw _ (List.mem_of_getElem? (i := 198) rfl)
theorem w199 {Z : State} {a0 : Array Value} (hw : oHw Z a0) : (Jvm.Cond.methodLink z12 (39 : Nat) ({ cls := z0, name := "valueOf", desc := "(C)Ljava/lang/String;" } : Jvm.MethodName)).before a0 Z = true := hw _ (List.mem_of_getElem? (i := 199) rfl)
theorem w200 {Z : State} {a0 : Array Value} (hw : oHw Z a0) : (Jvm.Cond.static ({ cls := z0, name := "valueOf", desc := "(C)Ljava/lang/String;" } : Jvm.MethodName)).before a0 Z = true := hw _ (List.mem_of_getElem? (i := 200) rfl)
theorem w201 {Z : State} {a0 : Array Value} (hw : oHw Z a0) : (Jvm.Cond.code ({ cls := z0, name := "valueOf", desc := "(C)Ljava/lang/String;" } : Jvm.MethodName) jdk_42_method_139_code (1 : Nat) (Option.some (Jvm.ClassFile.FieldType.object z0))).before a0 Z = true := hw _ (List.mem_of_getElem? (i := 201) rfl)
theorem w202 {Z : State} {a0 : Array Value} (hw : oHw Z a0) : (Jvm.Cond.methodLink z0 (1015 : Nat) ({ cls := "java/lang/StringLatin1", name := "canEncode", desc := "(C)Z" } : Jvm.MethodName)).before a0 Z = true := hw _ (List.mem_of_getElem? (i := 202) rfl)
theorem w203 {Z : State} {a0 : Array Value} (hw : oHw Z a0) : (Jvm.Cond.static ({ cls := "java/lang/StringLatin1", name := "canEncode", desc := "(C)Z" } : Jvm.MethodName)).before a0 Z = true := hw _ (List.mem_of_getElem? (i := 203) rfl)
theorem w204 {Z : State} {a0 : Array Value} (hw : oHw Z a0) : (Jvm.Cond.initialized "java/lang/StringLatin1").before a0 Z = true := hw _ (List.mem_of_getElem? (i := 204) rfl)
theorem w205 {Z : State} {a0 : Array Value} (hw : oHw Z a0) : (Jvm.Cond.code ({ cls := "java/lang/StringLatin1", name := "canEncode", desc := "(C)Z" } : Jvm.MethodName) jdk_43_method_3_code (1 : Nat) (Option.some Jvm.ClassFile.FieldType.boolean)).before a0 Z = true := hw _ (List.mem_of_getElem? (i := 205) rfl)
theorem w206 {Z : State} {a0 : Array Value} (hw : oHw Z a0) : (Jvm.Cond.classLink z0 (10 : Nat) z0).before a0 Z = true := hw _ (List.mem_of_getElem? (i := 206) rfl)
theorem w207 {Z : State} {a0 : Array Value} (hw : oHw Z a0) : (Jvm.Cond.methodLink z0 (1018 : Nat) ({ cls := "java/lang/StringLatin1", name := "toBytes", desc := "(C)[B" } : Jvm.MethodName)).before a0 Z = true := hw _ (List.mem_of_getElem? (i := 207) rfl)
theorem w208 {Z : State} {a0 : Array Value} (hw : oHw Z a0) : (Jvm.Cond.static ({ cls := "java/lang/StringLatin1", name := "toBytes", desc := "(C)[B" } : Jvm.MethodName)).before a0 Z = true := hw _ (List.mem_of_getElem? (i := 208) rfl)
theorem w209 {Z : State} {a0 : Array Value} (hw : oHw Z a0) : (Jvm.Cond.code ({ cls := "java/lang/StringLatin1", name := "toBytes", desc := "(C)[B" } : Jvm.MethodName) jdk_43_method_46_code (1 : Nat) (Option.some (Jvm.ClassFile.FieldType.array Jvm.ClassFile.FieldType.byte))).before a0 Z = true := hw _ (List.mem_of_getElem? (i := 209) rfl)
theorem w210 {Z : State} {a0 : Array Value} (hw : oHw Z a0) : (Jvm.Cond.methodLink z0 (209 : Nat) ({ cls := z0, name := "<init>", desc := "([BB)V" } : Jvm.MethodName)).before a0 Z = true := hw _ (List.mem_of_getElem? (i := 210) rfl)
theorem w211 {Z : State} {a0 : Array Value} (hw : oHw Z a0) : (Jvm.Cond.instanceMethod ({ cls := z0, name := "<init>", desc := "([BB)V" } : Jvm.MethodName)).before a0 Z = true := hw _ (List.mem_of_getElem? (i := 211) rfl)
theorem w212 {Z : State} {a0 : Array Value} (hw : oHw Z a0) : (Jvm.Cond.code ({ cls := z0, name := "<init>", desc := "([BB)V" } : Jvm.MethodName) jdk_42_method_151_code (3 : Nat) (Option.none : Option Jvm.ClassFile.FieldType)).before a0 Z = true := hw _ (List.mem_of_getElem? (i := 212) rfl)
theorem w213 {Z : State} {a0 : Array Value} (hw : oHw Z a0) : (Jvm.Cond.methodLink z12 (43 : Nat) ({ cls := z4, name := "<init>", desc := "(Ljava/lang/String;IZ)V" } : Jvm.MethodName)).before a0 Z = true := hw _ (List.mem_of_getElem? (i := 213) rfl)
theorem w214 {Z : State} {a0 : Array Value} (hw : oHw Z a0) : (Jvm.Cond.instanceMethod ({ cls := z4, name := "<init>", desc := "(Ljava/lang/String;IZ)V" } : Jvm.MethodName)).before a0 Z = true := hw _ (List.mem_of_getElem? (i := 214) rfl)
theorem w215 {Z : State} {a0 : Array Value} (hw : oHw Z a0) : (Jvm.Cond.code ({ cls := z4, name := "<init>", desc := "(Ljava/lang/String;IZ)V" } : Jvm.MethodName) prog_68_method_1_code (4 : Nat) (Option.none : Option Jvm.ClassFile.FieldType)).before a0 Z = true := hw _ (List.mem_of_getElem? (i := 215) rfl)
theorem w216 {Z : State} {a0 : Array Value} (hw : oHw Z a0) : (Jvm.Cond.methodLink z4 (1 : Nat) ({ cls := "java/lang/Record", name := "<init>", desc := "()V" } : Jvm.MethodName)).before a0 Z = true := hw _ (List.mem_of_getElem? (i := 216) rfl)
theorem w217 {Z : State} {a0 : Array Value} (hw : oHw Z a0) : (Jvm.Cond.fieldLink z4 (7 : Nat) z4 "file" "Ljava/lang/String;").before a0 Z = true := hw _ (List.mem_of_getElem? (i := 217) rfl)
theorem w218 {Z : State} {a0 : Array Value} (hw : oHw Z a0) : (Jvm.Cond.laysFinal z4 z4 "file" "Ljava/lang/String;").before a0 Z = true := hw _ (List.mem_of_getElem? (i := 218) rfl)
theorem w219 {Z : State} {a0 : Array Value} (hw : oHw Z a0) : (Jvm.Cond.fieldLink z4 (13 : Nat) z4 "index" "I").before a0 Z = true := hw _ (List.mem_of_getElem? (i := 219) rfl)
theorem w220 {Z : State} {a0 : Array Value} (hw : oHw Z a0) : (Jvm.Cond.laysFinal z4 z4 "index" "I").before a0 Z = true := hw _ (List.mem_of_getElem? (i := 220) rfl)
theorem w221 {Z : State} {a0 : Array Value} (hw : oHw Z a0) : (Jvm.Cond.fieldLink z4 (17 : Nat) z4 "inJoined" "Z").before a0 Z = true := hw _ (List.mem_of_getElem? (i := 221) rfl)
theorem w222 {Z : State} {a0 : Array Value} (hw : oHw Z a0) : (Jvm.Cond.laysFinal z4 z4 "inJoined" "Z").before a0 Z = true := hw _ (List.mem_of_getElem? (i := 222) rfl)
theorem w223 {Z : State} {a0 : Array Value} (hw : oHw Z a0) : (Jvm.Cond.classLink z12 (46 : Nat) z6).before a0 Z = true := hw _ (List.mem_of_getElem? (i := 223) rfl)
theorem w224 {Z : State} {a0 : Array Value} (hw : oHw Z a0) : (Jvm.Cond.instantiable z6 (2 : Nat)).before a0 Z = true := hw _ (List.mem_of_getElem? (i := 224) rfl)
theorem w225 {Z : State} {a0 : Array Value} (hw : oHw Z a0) : (Jvm.Cond.initialized z6).before a0 Z = true := hw _ (List.mem_of_getElem? (i := 225) rfl)
theorem w226 {Z : State} {a0 : Array Value} (hw : oHw Z a0) : (Jvm.Cond.methodLink z12 (48 : Nat) ({ cls := z6, name := "<init>", desc := z21 } : Jvm.MethodName)).before a0 Z = true := hw _ (List.mem_of_getElem? (i := 226) rfl)
theorem w227 {Z : State} {a0 : Array Value} (hw : oHw Z a0) : (Jvm.Cond.instanceMethod ({ cls := z6, name := "<init>", desc := z21 } : Jvm.MethodName)).before a0 Z = true := hw _ (List.mem_of_getElem? (i := 227) rfl)
theorem w228 {Z : State} {a0 : Array Value} (hw : oHw Z a0) : (Jvm.Cond.code ({ cls := z6, name := "<init>", desc := z21 } : Jvm.MethodName) prog_70_method_1_code (3 : Nat) (Option.none : Option Jvm.ClassFile.FieldType)).before a0 Z = true := hw _ (List.mem_of_getElem? (i := 228) rfl)
theorem w229 {Z : State} {a0 : Array Value} (hw : oHw Z a0) : (Jvm.Cond.methodLink z6 (1 : Nat) ({ cls := "java/lang/Record", name := "<init>", desc := "()V" } : Jvm.MethodName)).before a0 Z = true := hw _ (List.mem_of_getElem? (i := 229) rfl)
theorem w230 {Z : State} {a0 : Array Value} (hw : oHw Z a0) : (Jvm.Cond.fieldLink z6 (7 : Nat) z6 "row" z16).before a0 Z = true := hw _ (List.mem_of_getElem? (i := 230) rfl)
theorem w231 {Z : State} {a0 : Array Value} (hw : oHw Z a0) : (Jvm.Cond.laysFinal z6 z6 "row" z16).before a0 Z = true := hw _ (List.mem_of_getElem? (i := 231) rfl)
theorem w232 {Z : State} {a0 : Array Value} (hw : oHw Z a0) : (Jvm.Cond.fieldLink z6 (13 : Nat) z6 "match" z16).before a0 Z = true := hw _ (List.mem_of_getElem? (i := 232) rfl)
theorem w233 {Z : State} {a0 : Array Value} (hw : oHw Z a0) : (Jvm.Cond.laysFinal z6 z6 "match" z16).before a0 Z = true := hw _ (List.mem_of_getElem? (i := 233) rfl)
theorem w234 {Z : State} {a0 : Array Value} (hw : oHw Z a0) : (Jvm.Cond.methodLink z12 (51 : Nat) ({ cls := z6, name := "value", desc := z20 } : Jvm.MethodName)).before a0 Z = true := hw _ (List.mem_of_getElem? (i := 234) rfl)
theorem w235 {Z : State} {a0 : Array Value} (hw : oHw Z a0) : (Jvm.Cond.declares ({ cls := z6, name := "value", desc := z20 } : Jvm.MethodName)).before a0 Z = true := hw _ (List.mem_of_getElem? (i := 235) rfl)
theorem w236 {Z : State} {a0 : Array Value} (hw : oHw Z a0) : (Jvm.Cond.instanceMethod ({ cls := z6, name := "value", desc := z20 } : Jvm.MethodName)).before a0 Z = true := hw _ (List.mem_of_getElem? (i := 236) rfl)
theorem w237 {Z : State} {a0 : Array Value} (hw : oHw Z a0) : (Jvm.Cond.selects z6 ({ cls := z6, name := "value", desc := z20 } : Jvm.MethodName) ({ cls := z6, name := "value", desc := z20 } : Jvm.MethodName)).before a0 Z = true := hw _ (List.mem_of_getElem? (i := 237) rfl)
theorem w238 {Z : State} {a0 : Array Value} (hw : oHw Z a0) : (Jvm.Cond.code ({ cls := z6, name := "value", desc := z20 } : Jvm.MethodName) prog_70_method_2_code (2 : Nat) (Option.some (Jvm.ClassFile.FieldType.object z0))).before a0 Z = true := hw _ (List.mem_of_getElem? (i := 238) rfl)
theorem w239 {Z : State} {a0 : Array Value} (hw : oHw Z a0) : (Jvm.Cond.methodLink z6 (16 : Nat) ({ cls := z6, name := "source", desc := z26 } : Jvm.MethodName)).before a0 Z = true := hw _ (List.mem_of_getElem? (i := 239) rfl)
theorem w240 {Z : State} {a0 : Array Value} (hw : oHw Z a0) : (Jvm.Cond.declares ({ cls := z6, name := "source", desc := z26 } : Jvm.MethodName)).before a0 Z = true := hw _ (List.mem_of_getElem? (i := 240) rfl)
theorem w241 {Z : State} {a0 : Array Value} (hw : oHw Z a0) : (Jvm.Cond.instanceMethod ({ cls := z6, name := "source", desc := z26 } : Jvm.MethodName)).before a0 Z = true := hw _ (List.mem_of_getElem? (i := 241) rfl)
theorem w242 {Z : State} {a0 : Array Value} (hw : oHw Z a0) : (Jvm.Cond.selects z6 ({ cls := z6, name := "source", desc := z26 } : Jvm.MethodName) ({ cls := z6, name := "source", desc := z26 } : Jvm.MethodName)).before a0 Z = true := hw _ (List.mem_of_getElem? (i := 242) rfl)
theorem w243 {Z : State} {a0 : Array Value} (hw : oHw Z a0) : (Jvm.Cond.code ({ cls := z6, name := "source", desc := z26 } : Jvm.MethodName) prog_70_method_3_code (2 : Nat) (Option.some (Jvm.ClassFile.FieldType.object z2))).before a0 Z = true := hw _ (List.mem_of_getElem? (i := 243) rfl)
theorem w244 {Z : State} {a0 : Array Value} (hw : oHw Z a0) : (Jvm.Cond.methodLink z6 (40 : Nat) ({ cls := z4, name := "inJoined", desc := "()Z" } : Jvm.MethodName)).before a0 Z = true := hw _ (List.mem_of_getElem? (i := 244) rfl)
theorem w245 {Z : State} {a0 : Array Value} (hw : oHw Z a0) : (Jvm.Cond.declares ({ cls := z4, name := "inJoined", desc := "()Z" } : Jvm.MethodName)).before a0 Z = true := hw _ (List.mem_of_getElem? (i := 245) rfl)
theorem w246 {Z : State} {a0 : Array Value} (hw : oHw Z a0) : (Jvm.Cond.instanceMethod ({ cls := z4, name := "inJoined", desc := "()Z" } : Jvm.MethodName)).before a0 Z = true := hw _ (List.mem_of_getElem? (i := 246) rfl)
theorem w247 {Z : State} {a0 : Array Value} (hw : oHw Z a0) : (Jvm.Cond.selects z4 ({ cls := z4, name := "inJoined", desc := "()Z" } : Jvm.MethodName) ({ cls := z4, name := "inJoined", desc := "()Z" } : Jvm.MethodName)).before a0 Z = true := hw _ (List.mem_of_getElem? (i := 247) rfl)
theorem w248 {Z : State} {a0 : Array Value} (hw : oHw Z a0) : (Jvm.Cond.code ({ cls := z4, name := "inJoined", desc := "()Z" } : Jvm.MethodName) prog_68_method_7_code (1 : Nat) (Option.some Jvm.ClassFile.FieldType.boolean)).before a0 Z = true := hw _ (List.mem_of_getElem? (i := 248) rfl)
theorem w249 {Z : State} {a0 : Array Value} (hw : oHw Z a0) : (Jvm.Cond.methodLink z6 (20 : Nat) ({ cls := z2, name := "fields", desc := "()Ljava/util/List;" } : Jvm.MethodName)).before a0 Z = true := hw _ (List.mem_of_getElem? (i := 249) rfl)
theorem w250 {Z : State} {a0 : Array Value} (hw : oHw Z a0) : (Jvm.Cond.declares ({ cls := z2, name := "fields", desc := "()Ljava/util/List;" } : Jvm.MethodName)).before a0 Z = true := hw _ (List.mem_of_getElem? (i := 250) rfl)
theorem w251 {Z : State} {a0 : Array Value} (hw : oHw Z a0) : (Jvm.Cond.instanceMethod ({ cls := z2, name := "fields", desc := "()Ljava/util/List;" } : Jvm.MethodName)).before a0 Z = true := hw _ (List.mem_of_getElem? (i := 251) rfl)
theorem w252 {Z : State} {a0 : Array Value} (hw : oHw Z a0) : (Jvm.Cond.selects z2 ({ cls := z2, name := "fields", desc := "()Ljava/util/List;" } : Jvm.MethodName) ({ cls := z2, name := "fields", desc := "()Ljava/util/List;" } : Jvm.MethodName)).before a0 Z = true := hw _ (List.mem_of_getElem? (i := 252) rfl)
theorem w253 {Z : State} {a0 : Array Value} (hw : oHw Z a0) : (Jvm.Cond.code ({ cls := z2, name := "fields", desc := "()Ljava/util/List;" } : Jvm.MethodName) prog_28_method_6_code (1 : Nat) (Option.some (Jvm.ClassFile.FieldType.object z7))).before a0 Z = true := hw _ (List.mem_of_getElem? (i := 253) rfl)
theorem w254 {Z : State} {a0 : Array Value} (hw : oHw Z a0) : (Jvm.Cond.methodLink z6 (26 : Nat) ({ cls := z4, name := "index", desc := "()I" } : Jvm.MethodName)).before a0 Z = true := hw _ (List.mem_of_getElem? (i := 254) rfl)
theorem w255 {Z : State} {a0 : Array Value} (hw : oHw Z a0) : (Jvm.Cond.declares ({ cls := z4, name := "index", desc := "()I" } : Jvm.MethodName)).before a0 Z = true := hw _ (List.mem_of_getElem? (i := 255) rfl)
theorem w256 {Z : State} {a0 : Array Value} (hw : oHw Z a0) : (Jvm.Cond.instanceMethod ({ cls := z4, name := "index", desc := "()I" } : Jvm.MethodName)).before a0 Z = true := hw _ (List.mem_of_getElem? (i := 256) rfl)
theorem w257 {Z : State} {a0 : Array Value} (hw : oHw Z a0) : (Jvm.Cond.selects z4 ({ cls := z4, name := "index", desc := "()I" } : Jvm.MethodName) ({ cls := z4, name := "index", desc := "()I" } : Jvm.MethodName)).before a0 Z = true := hw _ (List.mem_of_getElem? (i := 257) rfl)
theorem w258 {Z : State} {a0 : Array Value} (hw : oHw Z a0) : (Jvm.Cond.code ({ cls := z4, name := "index", desc := "()I" } : Jvm.MethodName) prog_68_method_6_code (1 : Nat) (Option.some Jvm.ClassFile.FieldType.int)).before a0 Z = true := hw _ (List.mem_of_getElem? (i := 258) rfl)
theorem w259 {Z : State} {a0 : Array Value} (hw : oHw Z a0) : (Jvm.Cond.methodLink z6 (32 : Nat) ({ cls := z7, name := "get", desc := z17 } : Jvm.MethodName)).before a0 Z = true := hw _ (List.mem_of_getElem? (i := 259) rfl)
theorem w260 {Z : State} {a0 : Array Value} (hw : oHw Z a0) : (Jvm.Cond.declares ({ cls := z7, name := "get", desc := z17 } : Jvm.MethodName)).before a0 Z = true := hw _ (List.mem_of_getElem? (i := 260) rfl)
theorem w261 {Z : State} {a0 : Array Value} (hw : oHw Z a0) : (Jvm.Cond.interfaceMethod z7 z7 "get" z17).before a0 Z = true := hw _ (List.mem_of_getElem? (i := 261) rfl)
theorem w262 {Z : State} {a0 : Array Value} (hw : oHw Z a0) : (Jvm.Cond.selects z8 ({ cls := z7, name := "get", desc := z17 } : Jvm.MethodName) ({ cls := z8, name := "get", desc := z17 } : Jvm.MethodName)).before a0 Z = true := hw _ (List.mem_of_getElem? (i := 262) rfl)
theorem w263 {Z : State} {a0 : Array Value} (hw : oHw Z a0) : (Jvm.Cond.instanceMethod ({ cls := z8, name := "get", desc := z17 } : Jvm.MethodName)).before a0 Z = true := hw _ (List.mem_of_getElem? (i := 263) rfl)
theorem w264 {Z : State} {a0 : Array Value} (hw : oHw Z a0) : (Jvm.Cond.publicMethod ({ cls := z8, name := "get", desc := z17 } : Jvm.MethodName)).before a0 Z = true := hw _ (List.mem_of_getElem? (i := 264) rfl)
theorem w265 {Z : State} {a0 : Array Value} (hw : oHw Z a0) : (Jvm.Cond.unhidden z8 "get" z17).before a0 Z = true := hw _ (List.mem_of_getElem? (i := 265) rfl)
theorem w266 {Z : State} {a0 : Array Value} (hw : oHw Z a0) : (Jvm.Cond.castable z8 z7).before a0 Z = true := hw _ (List.mem_of_getElem? (i := 266) rfl)
theorem w267 {Z : State} {a0 : Array Value} (hw : oHw Z a0) : (Jvm.Cond.code ({ cls := z8, name := "get", desc := z17 } : Jvm.MethodName) jdk_44_method_5_code (2 : Nat) (Option.some (Jvm.ClassFile.FieldType.object z3))).before a0 Z = true := hw _ (List.mem_of_getElem? (i := 267) rfl)
theorem w268 {Z : State} {a0 : Array Value} (hw : oHw Z a0) : (Jvm.Cond.classLink z6 (38 : Nat) z0).before a0 Z = true := hw _ (List.mem_of_getElem? (i := 268) rfl)
theorem w269 {Z : State} {a0 : Array Value} (hw : oHw Z a0) : (Jvm.Cond.methodLink z12 (55 : Nat) ({ cls := z0, name := "equals", desc := "(Ljava/lang/Object;)Z" } : Jvm.MethodName)).before a0 Z = true := hw _ (List.mem_of_getElem? (i := 269) rfl)
theorem w270 {Z : State} {a0 : Array Value} (hw : oHw Z a0) : (Jvm.Cond.declares ({ cls := z0, name := "equals", desc := "(Ljava/lang/Object;)Z" } : Jvm.MethodName)).before a0 Z = true := hw _ (List.mem_of_getElem? (i := 270) rfl)
theorem w271 {Z : State} {a0 : Array Value} (hw : oHw Z a0) : (Jvm.Cond.instanceMethod ({ cls := z0, name := "equals", desc := "(Ljava/lang/Object;)Z" } : Jvm.MethodName)).before a0 Z = true := hw _ (List.mem_of_getElem? (i := 271) rfl)
theorem w272 {Z : State} {a0 : Array Value} (hw : oHw Z a0) : (Jvm.Cond.selects z0 ({ cls := z0, name := "equals", desc := "(Ljava/lang/Object;)Z" } : Jvm.MethodName) ({ cls := z0, name := "equals", desc := "(Ljava/lang/Object;)Z" } : Jvm.MethodName)).before a0 Z = true := hw _ (List.mem_of_getElem? (i := 272) rfl)
theorem w273 {Z : State} {a0 : Array Value} (hw : oHw Z a0) : (Jvm.Cond.code ({ cls := z0, name := "equals", desc := "(Ljava/lang/Object;)Z" } : Jvm.MethodName) jdk_42_method_66_code (3 : Nat) (Option.some Jvm.ClassFile.FieldType.boolean)).before a0 Z = true := hw _ (List.mem_of_getElem? (i := 273) rfl)
theorem w274 {Z : State} {a0 : Array Value} (hw : oHw Z a0) : (Jvm.Cond.methodLink z0 (541 : Nat) ({ cls := "java/lang/StringLatin1", name := "equals", desc := "([B[B)Z" } : Jvm.MethodName)).before a0 Z = true := hw _ (List.mem_of_getElem? (i := 274) rfl)
theorem w275 {Z : State} {a0 : Array Value} (hw : oHw Z a0) : (Jvm.Cond.static ({ cls := "java/lang/StringLatin1", name := "equals", desc := "([B[B)Z" } : Jvm.MethodName)).before a0 Z = true := hw _ (List.mem_of_getElem? (i := 275) rfl)
theorem w276 {Z : State} {a0 : Array Value} (hw : oHw Z a0) : (Jvm.Cond.code ({ cls := "java/lang/StringLatin1", name := "equals", desc := "([B[B)Z" } : Jvm.MethodName) jdk_43_method_13_code (3 : Nat) (Option.some Jvm.ClassFile.FieldType.boolean)).before a0 Z = true := hw _ (List.mem_of_getElem? (i := 276) rfl)
theorem w277 {Z : State} {a0 : Array Value} (hw : oHw Z a0) : (Jvm.Cond.methodLink z7 (100 : Nat) ({ cls := z8, name := "<init>", desc := "(Ljava/lang/Object;Ljava/lang/Object;)V" } : Jvm.MethodName)).before a0 Z = true := hw _ (List.mem_of_getElem? (i := 277) rfl)
theorem w278 {Z : State} {a0 : Array Value} (hw : oHw Z a0) : (Jvm.Cond.instanceMethod ({ cls := z8, name := "<init>", desc := "(Ljava/lang/Object;Ljava/lang/Object;)V" } : Jvm.MethodName)).before a0 Z = true := hw _ (List.mem_of_getElem? (i := 278) rfl)
theorem w279 {Z : State} {a0 : Array Value} (hw : oHw Z a0) : (Jvm.Cond.code ({ cls := z8, name := "<init>", desc := "(Ljava/lang/Object;Ljava/lang/Object;)V" } : Jvm.MethodName) jdk_44_method_2_code (3 : Nat) (Option.none : Option Jvm.ClassFile.FieldType)).before a0 Z = true := hw _ (List.mem_of_getElem? (i := 279) rfl)
theorem w280 {Z : State} {a0 : Array Value} (hw : oHw Z a0) : (Jvm.Cond.methodLink z7 (109 : Nat) ({ cls := z18, name := "listFromArray", desc := "([Ljava/lang/Object;)Ljava/util/List;" } : Jvm.MethodName)).before a0 Z = true := hw _ (List.mem_of_getElem? (i := 280) rfl)
theorem w281 {Z : State} {a0 : Array Value} (hw : oHw Z a0) : (Jvm.Cond.static ({ cls := z18, name := "listFromArray", desc := "([Ljava/lang/Object;)Ljava/util/List;" } : Jvm.MethodName)).before a0 Z = true := hw _ (List.mem_of_getElem? (i := 281) rfl)
theorem w282 {Z : State} {a0 : Array Value} (hw : oHw Z a0) : (Jvm.Cond.code ({ cls := z18, name := "listFromArray", desc := "([Ljava/lang/Object;)Ljava/util/List;" } : Jvm.MethodName) jdk_56_method_4_code (3 : Nat) (Option.some (Jvm.ClassFile.FieldType.object z7))).before a0 Z = true := hw _ (List.mem_of_getElem? (i := 282) rfl)
theorem w283 {Z : State} {a0 : Array Value} (hw : oHw Z a0) : (Jvm.Cond.classLink z18 (2 : Nat) z3).before a0 Z = true := hw _ (List.mem_of_getElem? (i := 283) rfl)
theorem w284 {Z : State} {a0 : Array Value} (hw : oHw Z a0) : (Jvm.Cond.methodLink z18 (37 : Nat) ({ cls := "java/util/Objects", name := "requireNonNull", desc := "(Ljava/lang/Object;)Ljava/lang/Object;" } : Jvm.MethodName)).before a0 Z = true := hw _ (List.mem_of_getElem? (i := 284) rfl)
theorem w285 {Z : State} {a0 : Array Value} (hw : oHw Z a0) : (Jvm.Cond.instantiable z9 (2 : Nat)).before a0 Z = true := hw _ (List.mem_of_getElem? (i := 285) rfl)
theorem w286 {Z : State} {a0 : Array Value} (hw : oHw Z a0) : (Jvm.Cond.initialized z9).before a0 Z = true := hw _ (List.mem_of_getElem? (i := 286) rfl)
theorem w287 {Z : State} {a0 : Array Value} (hw : oHw Z a0) : (Jvm.Cond.methodLinkNest z18 (43 : Nat) ({ cls := z9, name := "<init>", desc := "([Ljava/lang/Object;Z)V" } : Jvm.MethodName) z18).before a0 Z = true := hw _ (List.mem_of_getElem? (i := 287) rfl)
theorem w288 {Z : State} {a0 : Array Value} (hw : oHw Z a0) : (Jvm.Cond.instanceMethod ({ cls := z9, name := "<init>", desc := "([Ljava/lang/Object;Z)V" } : Jvm.MethodName)).before a0 Z = true := hw _ (List.mem_of_getElem? (i := 288) rfl)
theorem w290 {Z : State} {a0 : Array Value} (hw : oHw Z a0) : (Jvm.Cond.code ({ cls := z9, name := "<init>", desc := "([Ljava/lang/Object;Z)V" } : Jvm.MethodName) jdk_45_method_1_code (3 : Nat) (Option.none : Option Jvm.ClassFile.FieldType)).before a0 Z = true := hw _ (List.mem_of_getElem? (i := 290) rfl)
theorem w291 {Z : State} {a0 : Array Value} (hw : oHw Z a0) : (Jvm.Cond.methodLink z9 (1 : Nat) ({ cls := z25, name := "<init>", desc := "()V" } : Jvm.MethodName)).before a0 Z = true := hw _ (List.mem_of_getElem? (i := 291) rfl)
theorem w295 {Z : State} {a0 : Array Value} (hw : oHw Z a0) : (Jvm.Cond.fieldLink z9 (7 : Nat) z9 "elements" z5).before a0 Z = true := hw _ (List.mem_of_getElem? (i := 295) rfl)
theorem w296 {Z : State} {a0 : Array Value} (hw : oHw Z a0) : (Jvm.Cond.laysFinal z9 z9 "elements" z5).before a0 Z = true := hw _ (List.mem_of_getElem? (i := 296) rfl)
theorem w297 {Z : State} {a0 : Array Value} (hw : oHw Z a0) : (Jvm.Cond.fieldLink z9 (13 : Nat) z9 "allowNulls" "Z").before a0 Z = true := hw _ (List.mem_of_getElem? (i := 297) rfl)
theorem w298 {Z : State} {a0 : Array Value} (hw : oHw Z a0) : (Jvm.Cond.laysFinal z9 z9 "allowNulls" "Z").before a0 Z = true := hw _ (List.mem_of_getElem? (i := 298) rfl)
theorem w299 {Z : State} {a0 : Array Value} (hw : oHw Z a0) : (Jvm.Cond.selects z9 ({ cls := z7, name := "get", desc := z17 } : Jvm.MethodName) ({ cls := z9, name := "get", desc := z17 } : Jvm.MethodName)).before a0 Z = true := hw _ (List.mem_of_getElem? (i := 299) rfl)
theorem w300 {Z : State} {a0 : Array Value} (hw : oHw Z a0) : (Jvm.Cond.instanceMethod ({ cls := z9, name := "get", desc := z17 } : Jvm.MethodName)).before a0 Z = true := hw _ (List.mem_of_getElem? (i := 300) rfl)
theorem w301 {Z : State} {a0 : Array Value} (hw : oHw Z a0) : (Jvm.Cond.publicMethod ({ cls := z9, name := "get", desc := z17 } : Jvm.MethodName)).before a0 Z = true := hw _ (List.mem_of_getElem? (i := 301) rfl)
theorem w302 {Z : State} {a0 : Array Value} (hw : oHw Z a0) : (Jvm.Cond.unhidden z9 "get" z17).before a0 Z = true := hw _ (List.mem_of_getElem? (i := 302) rfl)
theorem w303 {Z : State} {a0 : Array Value} (hw : oHw Z a0) : (Jvm.Cond.castable z9 z7).before a0 Z = true := hw _ (List.mem_of_getElem? (i := 303) rfl)
theorem w304 {Z : State} {a0 : Array Value} (hw : oHw Z a0) : (Jvm.Cond.code ({ cls := z9, name := "get", desc := z17 } : Jvm.MethodName) jdk_45_method_4_code (2 : Nat) (Option.some (Jvm.ClassFile.FieldType.object z3))).before a0 Z = true := hw _ (List.mem_of_getElem? (i := 304) rfl)
theorem d0_0 : decode jdk_43_method_3_code 0 = .ok (.iload_n 0, 1) := by decide +kernel
theorem d0_1 : decode jdk_43_method_3_code 1 = .ok (.sipush 255, 3) := by decide +kernel
theorem d0_4 : decode jdk_43_method_3_code 4 = .ok (.if_icmp .gt 7, 3) := by decide +kernel
theorem d0_7 : decode jdk_43_method_3_code 7 = .ok (.iconst 1, 1) := by decide +kernel
theorem d0_8 : decode jdk_43_method_3_code 8 = .ok (.goto 4, 3) := by decide +kernel
theorem d0_12 : decode jdk_43_method_3_code 12 = .ok (.ireturn, 1) := by decide +kernel
def r_canenc : Room := { frames := 0, cells := 0, slots := 0, locals := 0 }
def Q_canenc (Z : State) (c : Int32) (h0 : Heap) (v : Option Value) (h : Heap) : Prop := v = some (.int 1) ∧ h0 = h
theorem rm_canenc (l : Launch) (Z : State) (a0 : Array Value) (hw : oHw Z a0) (c : Int32) (h0 : Heap) (q0 : ¬ ((255 : Int32) < c)) : oMet l Z (⟨"java/lang/StringLatin1", "canEncode", "(C)Z"⟩ : MethodName) jdk_43_method_3_code 1 (some .boolean) r_canenc [] #[.int c] h0 (Q_canenc Z c h0) := by
 refine oEnter (plainFor_of_name (by first | (simp [plainName, overriddenIn]; done) | decide +kernel)) (own := "java/lang/StringLatin1") (nm := "canEncode") rfl rfl (L := #[.val (.int c)]) (fun m => by first | (simp [entryFrame, mkF, argsToLocals, Value.category]; done) | rfl) ?_
 intro pp ee ss mm bb mtd cc T0 K X0
 have E0 := X0.ext0
 refine o_iloadN K X0 d0_0 rfl rfl ?_
 refine o_sipush K X0 d0_1 rfl (z := 255) rfl ?_
 refine o_icmp_gt_f K X0 d0_4 rfl q0 ?_
 refine o_iconst K X0 d0_7 rfl (z := 1) rfl ?_
 refine o_goto K X0 d0_8 (by decide) (pc' := 12) (by decide) ?_
 refine o_ireturnN K X0 .boolean d0_12 rfl (by simp) (z' := 1) (by decide) ?_ (by decide) (by decide)
 exact ⟨rfl, rfl⟩
theorem d1_0 : decode jdk_43_method_46_code 0 = .ok (.iconst 1, 1) := by decide +kernel
theorem d1_1 : decode jdk_43_method_46_code 1 = .ok (.newarray .byte, 2) := by decide +kernel
theorem d1_3 : decode jdk_43_method_46_code 3 = .ok (.dup, 1) := by decide +kernel
theorem d1_4 : decode jdk_43_method_46_code 4 = .ok (.iconst 0, 1) := by decide +kernel
theorem d1_5 : decode jdk_43_method_46_code 5 = .ok (.iload_n 0, 1) := by decide +kernel
theorem d1_6 : decode jdk_43_method_46_code 6 = .ok (.i2b, 1) := by decide +kernel
theorem d1_7 : decode jdk_43_method_46_code 7 = .ok (.bastore, 1) := by decide +kernel
theorem d1_8 : decode jdk_43_method_46_code 8 = .ok (.areturn, 1) := by decide +kernel
def r_tobytes : Room := { frames := 0, cells := 1, slots := 1, locals := 0 }
def Q_tobytes (Z : State) (c : Int32) (h0 : Heap) (v : Option Value) (h : Heap) : Prop := ∃ r : Addr, ∃ k : ClassId, v = some (.ref r) ∧ Keep h0 h [] ∧ h0.size ≤ r ∧ oArr Z h r k .byte [(.int (nar .byte c))]
theorem rm_tobytes (l : Launch) (Z : State) (a0 : Array Value) (hw : oHw Z a0) (c : Int32) (h0 : Heap) : oMet l Z (⟨"java/lang/StringLatin1", "toBytes", "(C)[B"⟩ : MethodName) jdk_43_method_46_code 1 (some (.array .byte)) r_tobytes [] #[.int c] h0 (Q_tobytes Z c h0) := by
 refine oEnter (plainFor_of_name (by first | (simp [plainName, overriddenIn]; done) | decide +kernel)) (own := "java/lang/StringLatin1") (nm := "toBytes") rfl rfl (L := #[.val (.int c)]) (fun m => by first | (simp [entryFrame, mkF, argsToLocals, Value.category]; done) | rfl) ?_
 intro pp ee ss mm bb mtd cc T0 K X0
 have E0 := X0.ext0
 refine o_iconst K X0 d1_0 rfl (z := 1) rfl ?_
 refine o_newarray K X0 (aty := .byte) 1 (w55 hw) (ad := "[B") (by decide +kernel) (by decide) (by decide) (by decide) rfl d1_1 rfl (by decide) (by decide) ?_
 intro T1 h1 b1 k1 X1 g1 E1 A1 B1 G1
 replace A1 : oArr Z h1 b1 k1 .byte [.int 0] := A1
 refine o_dup K X1 d1_3 rfl rfl ?_
 refine o_iconst K X1 d1_4 rfl (z := 0) rfl ?_
 refine o_iloadN K X1 d1_5 rfl rfl ?_
 refine o_i2b K X1 d1_6 rfl (z := (nar .byte c)) rfl ?_
 refine o_bastore K X1 A1 (by decide) (show (0 : Int32).toNatClampNeg < 1 from (by decide)) G1 (z := (.int (nar .byte c))) (congrArg Value.int (oNarIdembyte _)) d1_7 rfl ?_
 intro T2 h2 X2 W2 A2
 replace A2 : oArr Z h2 b1 k1 .byte [(.int (nar .byte c))] := A2
 refine o_areturn K X2 (t := (.array .byte)) d1_8 rfl rfl rfl ?_ (by decide) (by decide)
 exact ⟨b1, k1, rfl, (((Keep.refl h0 []).ext E1).wr W2 (Or.inr (oLe g1))), (oLe g1), A2⟩
theorem d2_0 : decode jdk_42_method_151_code 0 = .ok (.aload_n 0, 1) := by decide +kernel
theorem d2_1 : decode jdk_42_method_151_code 1 = .ok (.invokespecial 1, 3) := by decide +kernel
theorem d2_4 : decode jdk_42_method_151_code 4 = .ok (.aload_n 0, 1) := by decide +kernel
theorem d2_5 : decode jdk_42_method_151_code 5 = .ok (.aload_n 1, 1) := by decide +kernel
theorem d2_6 : decode jdk_42_method_151_code 6 = .ok (.putfield 9, 3) := by decide +kernel
theorem d2_9 : decode jdk_42_method_151_code 9 = .ok (.aload_n 0, 1) := by decide +kernel
theorem d2_10 : decode jdk_42_method_151_code 10 = .ok (.iload_n 2, 1) := by decide +kernel
theorem d2_11 : decode jdk_42_method_151_code 11 = .ok (.putfield 15, 3) := by decide +kernel
theorem d2_14 : decode jdk_42_method_151_code 14 = .ok (.return_, 1) := by decide +kernel
def r_strbb : Room := { frames := 1, cells := 0, slots := 0, locals := 12 }
def Q_strbb (Z : State) (a b : Addr) (h0 : Heap) (v : Option Value) (h : Heap) : Prop := v = none ∧ Keep h0 h [a] ∧ Exa Z h a z0 ∧ Fld Z h a z0 "value" "[B" (.ref b) ∧ Fld Z h a z0 "coder" "B" (.int 0)
theorem rm_strbb (l : Launch) (Z : State) (a0 : Array Value) (hw : oHw Z a0) (a b : Addr) (h0 : Heap) (q0 : Exa Z h0 a z0) (q1 : Fld Z h0 a z0 "value" "[B" .null) (q2 : Fld Z h0 a z0 "coder" "B" (.int 0)) (q3 : Z.heap.size ≤ a) : oMet l Z (⟨z0, "<init>", "([BB)V"⟩ : MethodName) jdk_42_method_151_code 3 none r_strbb [] #[.ref a, .ref b, .int 0] h0 (Q_strbb Z a b h0) := by
 refine oEnter (plainFor_of_name (by first | (simp [plainName, overriddenIn]; done) | decide +kernel)) (own := z0) (nm := "<init>") rfl rfl (L := #[.val (.ref a), .val (.ref b), .val (.int 0)]) (fun m => by first | (simp [entryFrame, mkF, argsToLocals, Value.category]; done) | rfl) ?_
 intro pp ee ss mm bb mtd cc T0 K X0
 have E0 := X0.ext0
 refine o_aloadN K X0 d2_0 rfl rfl rfl ?_
 refine o_initObj K X0 (w49 hw) (w27 hw) (w28 hw) d2_1 rfl rfl (by decide) (W := 0) rfl (by decide) ?_
 intro T1 X1
 refine o_aloadN K X1 d2_4 rfl rfl rfl ?_
 refine o_aloadN K X1 d2_5 rfl rfl rfl ?_
 refine o_putfield K X1 (host := "") (Or.inl (w64 hw)) Via.refl q1 q0 (Or.inr ⟨(w65 hw), rfl, rfl⟩) (w38 hw) (ty := (.array .byte)) (by decide) rfl rfl q3 d2_6 rfl ?_
 intro T2 h2 X2 W2
 have F2 := Fld.same W2 q1
 refine o_aloadN K X2 d2_9 rfl rfl rfl ?_
 refine o_iloadN K X2 d2_10 rfl rfl ?_
 have m4 := (Fld.other W2 q2 (Or.inr (slot_ne (Or.inr (w63 hw)) (Or.inr (w65 hw)) (by decide) (t := .byte) (t' := (.array .byte)) (by decide) (by decide))))
 have m5 := (Exa.wr W2 q0)
 refine o_putfieldN K X2 (w62 hw) Via.refl m4 m5 (Or.inr ⟨(w63 hw), rfl, rfl⟩) (w38 hw) (ty := .byte) (by decide) (v' := (.int 0)) (congrArg Value.int (by decide)) (oFitbyte (x := (0 : Int32)) (by decide)) q3 d2_11 rfl ?_
 intro T3 h3 X3 W3
 have F3 := Fld.same W3 m4
 refine o_return K X3 d2_14 rfl ?_ (by decide) (by decide)
 have m6 := (Exa.wr W3 m5)
 have m7 := (Fld.other W3 F2 (Or.inr (slot_ne (Or.inr (w65 hw)) (Or.inr (w63 hw)) (by decide) (t := (.array .byte)) (t' := .byte) (by decide) (by decide))))
 exact ⟨rfl, (((Keep.refl h0 [a]).wr W2 (Or.inl me0)).wr W3 (Or.inl me0)), m6, m7, F3⟩
theorem d3_0 : decode jdk_42_method_139_code 0 = .ok (.getstatic 38, 3) := by decide +kernel
theorem d3_3 : decode jdk_42_method_139_code 3 = .ok (.ifCond .eq 23, 3) := by decide +kernel
theorem d3_6 : decode jdk_42_method_139_code 6 = .ok (.iload_n 0, 1) := by decide +kernel
theorem d3_7 : decode jdk_42_method_139_code 7 = .ok (.invokestatic 1015, 3) := by decide +kernel
theorem d3_10 : decode jdk_42_method_139_code 10 = .ok (.ifCond .eq 16, 3) := by decide +kernel
theorem d3_13 : decode jdk_42_method_139_code 13 = .ok (.new 10, 3) := by decide +kernel
theorem d3_16 : decode jdk_42_method_139_code 16 = .ok (.dup, 1) := by decide +kernel
theorem d3_17 : decode jdk_42_method_139_code 17 = .ok (.iload_n 0, 1) := by decide +kernel
theorem d3_18 : decode jdk_42_method_139_code 18 = .ok (.invokestatic 1018, 3) := by decide +kernel
theorem d3_21 : decode jdk_42_method_139_code 21 = .ok (.iconst 0, 1) := by decide +kernel
theorem d3_22 : decode jdk_42_method_139_code 22 = .ok (.invokespecial 209, 3) := by decide +kernel
theorem d3_25 : decode jdk_42_method_139_code 25 = .ok (.areturn, 1) := by decide +kernel
theorem pd0 : parseMethodDescriptor "(C)Z" = some ⟨[.char], some .boolean⟩ := by decide +kernel
theorem pd1 : parseMethodDescriptor "(C)[B" = some ⟨[.char], some (.array .byte)⟩ := by decide +kernel
theorem pd2 : parseMethodDescriptor "([BB)V" = some ⟨[(.array .byte), .byte], none⟩ := by decide +kernel
def r_valueof : Room := { frames := 2, cells := 2, slots := 5, locals := 27 }
def Q_valueof (Z : State) (c cs : Int32) (h0 : Heap) (v : Option Value) (h : Heap) : Prop := ∃ r vb : Addr, ∃ k : ClassId, v = some (.ref r) ∧ Keep h0 h [] ∧ h0.size ≤ r ∧ Exa Z h r z0 ∧ Fld Z h r z0 "value" "[B" (.ref vb) ∧ Fld Z h r z0 "coder" "B" (.int 0) ∧ h0.size ≤ vb ∧ oArr Z h vb k .byte [(.int (nar .byte c))]
theorem rm_valueof (l : Launch) (Z : State) (a0 : Array Value) (hw : oHw Z a0) (c cs : Int32) (h0 : Heap) (q0 : ¬ ((255 : Int32) < c)) (q1 : Sta Z Z.heap z0 "COMPACT_STRINGS" "Z" (.int cs)) (q2 : ¬ (cs = (0 : Int32))) : oMet l Z (⟨z0, "valueOf", "(C)Ljava/lang/String;"⟩ : MethodName) jdk_42_method_139_code 1 (some (.object z0)) r_valueof [] #[.int c] h0 (Q_valueof Z c cs h0) := by
 refine oEnter (plainFor_of_name (by first | (simp [plainName, overriddenIn]; done) | decide +kernel)) (own := z0) (nm := "valueOf") rfl rfl (L := #[.val (.int c)]) (fun m => by first | (simp [entryFrame, mkF, argsToLocals, Value.category]; done) | rfl) ?_
 intro pp ee ss mm bb mtd cc T0 K X0
 have E0 := X0.ext0
 refine o_getstatic K X0 (host := "") (Or.inl (w50 hw)) Via.refl (q1.ext X0.ext0) d3_0 rfl ?_
 intro T1 X1
 refine o_if_eq_f K X1 d3_3 rfl q2 ?_
 refine o_iloadN K X1 d3_6 rfl rfl ?_
 refine o_static K X1  (w202 hw) (w203 hw) (w204 hw) (w205 hw) (by decide) (rm_canenc l Z a0 hw c h0 q0) (by decide) rfl (argsL := [.int c]) rfl (lenOf pd0 rfl) (W := 0) rfl (by decide) (by decide) (by decide) d3_7 rfl ?_
 intro v2 T2 h2 X2 U2
 obtain ⟨rfl, rfl⟩ := U2
 show oGoes pp ee bb ss Z T2 (mkF mm 10 _ [.int 1]) _ _ _
 refine o_if_eq_f K X2 d3_10 rfl (by decide) ?_
 refine o_new K X2 (w206 hw) (w38 hw) (w39 hw) d3_13 rfl (by decide) (by decide) ?_
 intro T3 h3 b3 X3 g3 E3 A3 D3 G3
 have F3_coder : Fld Z h3 b3 z0 "coder" "B" (.int 0) := (D3 (Or.inr (w63 hw)) (ty := .byte) (by decide))
 have F3_value : Fld Z h3 b3 z0 "value" "[B" .null := (D3 (Or.inr (w65 hw)) (ty := (.array .byte)) (by decide))
 refine o_dup K X3 d3_16 rfl rfl ?_
 refine o_iloadN K X3 d3_17 rfl rfl ?_
 refine o_static K X3  (w207 hw) (w208 hw) (w204 hw) (w209 hw) (by decide) (rm_tobytes l Z a0 hw c h3) (by decide) rfl (argsL := [.int c]) rfl (lenOf pd1 rfl) (W := 2) rfl (by decide) (by decide) (by decide) d3_18 rfl ?_
 intro v4 T4 h4 X4 U4
 obtain ⟨r_4, k_4, rfl, u4_0, u4_1, u4_2⟩ := U4
 have G4_r : Z.heap.size ≤ r_4 := Nat.le_trans X3.ext0.1 u4_1
 show oGoes pp ee bb ss Z T4 (mkF mm 21 _ [.ref r_4, .ref b3, .ref b3]) _ _ _
 refine o_iconst K X4 d3_21 rfl (z := 0) rfl ?_
 have m5 := (A3.keep u4_0)
 have m6 := (F3_value.keep u4_0 nin0)
 have m7 := (F3_coder.keep u4_0 nin0)
 refine o_special K X4 (y := (⟨z0, "<init>", "([BB)V"⟩ : MethodName)) rfl (w210 hw) (w211 hw) (w39 hw) (w212 hw) (by decide) (rm_strbb l Z a0 hw b3 r_4 h4 m5 m6 m7 G3) (by decide) rfl (argsL := [.ref r_4, .int 0]) rfl (lenOf pd2 rfl) (W := 1) rfl (by decide) (by decide) (by decide) d3_22 rfl ?_
 intro v8 T8 h8 X8 U8
 obtain ⟨rfl, u8_0, u8_1, u8_2, u8_3⟩ := U8
 show oGoes pp ee bb ss Z T8 (mkF mm 25 _ [.ref b3]) _ _ _
 refine o_areturn K X8 (t := (.object z0)) d3_25 rfl rfl rfl ?_ (by decide) (by decide)
 have n9 := oLsz A3.lt u4_1
 have m10 := (u4_2.keep u8_0 (ninS n9 nin0))
 exact ⟨b3, r_4, k_4, rfl, ((((Keep.refl h0 []).ext E3).trans u4_0 all0).trans u8_0 (allS (Or.inr (oLe g3)) all0)), (oLe g3), u8_1, u8_2, u8_3, (Nat.le_trans E3.1 u4_1), m10⟩
theorem d4_0 : decode jdk_52_method_21_code 0 = .ok (.iconst 0, 1) := by decide +kernel
theorem d4_1 : decode jdk_52_method_21_code 1 = .ok (.istore 5, 2) := by decide +kernel
theorem d4_3 : decode jdk_52_method_21_code 3 = .ok (.iload 5, 2) := by decide +kernel
theorem d4_5 : decode jdk_52_method_21_code 5 = .ok (.iload 4, 2) := by decide +kernel
theorem d4_7 : decode jdk_52_method_21_code 7 = .ok (.if_icmp .ge 37, 3) := by decide +kernel
theorem d4_10 : decode jdk_52_method_21_code 10 = .ok (.aload_n 0, 1) := by decide +kernel
theorem d4_11 : decode jdk_52_method_21_code 11 = .ok (.iload_n 1, 1) := by decide +kernel
theorem d4_12 : decode jdk_52_method_21_code 12 = .ok (.caload, 1) := by decide +kernel
theorem d4_13 : decode jdk_52_method_21_code 13 = .ok (.istore 6, 2) := by decide +kernel
theorem d4_15 : decode jdk_52_method_21_code 15 = .ok (.iload 6, 2) := by decide +kernel
theorem d4_17 : decode jdk_52_method_21_code 17 = .ok (.sipush 255, 3) := by decide +kernel
theorem d4_20 : decode jdk_52_method_21_code 20 = .ok (.if_icmp .le 6, 3) := by decide +kernel
theorem d4_26 : decode jdk_52_method_21_code 26 = .ok (.aload_n 2, 1) := by decide +kernel
theorem d4_27 : decode jdk_52_method_21_code 27 = .ok (.iload_n 3, 1) := by decide +kernel
theorem d4_28 : decode jdk_52_method_21_code 28 = .ok (.iload 6, 2) := by decide +kernel
theorem d4_30 : decode jdk_52_method_21_code 30 = .ok (.i2b, 1) := by decide +kernel
theorem d4_31 : decode jdk_52_method_21_code 31 = .ok (.bastore, 1) := by decide +kernel
theorem d4_32 : decode jdk_52_method_21_code 32 = .ok (.iinc 1 1, 3) := by decide +kernel
theorem d4_35 : decode jdk_52_method_21_code 35 = .ok (.iinc 3 1, 3) := by decide +kernel
theorem d4_38 : decode jdk_52_method_21_code 38 = .ok (.iinc 5 1, 3) := by decide +kernel
theorem d4_41 : decode jdk_52_method_21_code 41 = .ok (.goto (-38), 3) := by decide +kernel
theorem d4_44 : decode jdk_52_method_21_code 44 = .ok (.iload 4, 2) := by decide +kernel
theorem d4_46 : decode jdk_52_method_21_code 46 = .ok (.ireturn, 1) := by decide +kernel
def r_cmp5_2 : Room := { frames := 0, cells := 0, slots := 0, locals := 0 }
def Q_cmp5_2 (Z : State) (b : Addr) (kb : ClassId) (d : Addr) (kd : ClassId) (c0 c1 : Int32) (h0 : Heap) (v : Option Value) (h : Heap) : Prop := v = some (.int 2) ∧ Keep h0 h [d] ∧ oArr Z h d kd .byte [(.int (nar .byte c0)), (.int (nar .byte c1))]
theorem rm_cmp5_2 (l : Launch) (Z : State) (a0 : Array Value) (hw : oHw Z a0) (b : Addr) (kb : ClassId) (d : Addr) (kd : ClassId) (c0 c1 : Int32) (h0 : Heap) (q0 : oArr Z h0 b kb .char [.int c0, .int c1]) (q1 : oArr Z h0 d kd .byte [.int 0, .int 0]) (q2 : Z.heap.size ≤ d) (q3 : b ≠ d) (q4 : ¬ ((255 : Int32) < c0)) (q5 : ¬ ((255 : Int32) < c1)) : oMet l Z (⟨"java/lang/StringUTF16", "compress", "([CI[BII)I"⟩ : MethodName) jdk_52_method_21_code 7 (some .int) r_cmp5_2 [] #[.ref b, .int 0, .ref d, .int 0, .int 2] h0 (Q_cmp5_2 Z b kb d kd c0 c1 h0) := by
 refine oEnter (plainFor_of_name (by first | (simp [plainName, overriddenIn]; done) | decide +kernel)) (own := "java/lang/StringUTF16") (nm := "compress") rfl rfl (L := #[.val (.ref b), .val (.int 0), .val (.ref d), .val (.int 0), .val (.int 2), .unset, .unset]) (fun m => by first | (simp [entryFrame, mkF, argsToLocals, Value.category]; done) | rfl) ?_
 intro pp ee ss mm bb mtd cc T0 K X0
 have E0 := X0.ext0
 refine o_iconst K X0 d4_0 rfl (z := 0) rfl ?_
 refine o_istore K X0 d4_1 rfl (L' := #[vR b, vI 0, vR d, vI 0, vI 2, vI 0, uS]) rfl ?_
 refine o_iload K X0 d4_3 rfl rfl ?_
 refine o_iload K X0 d4_5 rfl rfl ?_
 refine o_icmp_ge_f K X0 d4_7 rfl (by decide) ?_
 refine o_aloadN K X0 d4_10 rfl rfl rfl ?_
 refine o_iloadN K X0 d4_11 rfl rfl ?_
 refine o_caload K X0 q0 (by decide) (v := (.int c0)) rfl d4_12 rfl ?_
 refine o_istore K X0 d4_13 rfl (L' := #[vR b, vI 0, vR d, vI 0, vI 2, vI 0, vI c0]) rfl ?_
 refine o_iload K X0 d4_15 rfl rfl ?_
 refine o_sipush K X0 d4_17 rfl (z := 255) rfl ?_
 refine o_icmp_le_t K X0 d4_20 (by decide) (pc' := 26) (by decide) q4 ?_
 refine o_aloadN K X0 d4_26 rfl rfl rfl ?_
 refine o_iloadN K X0 d4_27 rfl rfl ?_
 refine o_iload K X0 d4_28 rfl rfl ?_
 refine o_i2b K X0 d4_30 rfl (z := (nar .byte c0)) rfl ?_
 refine o_bastore K X0 q1 (by decide) (show (0 : Int32).toNatClampNeg < 2 from (by decide)) q2 (z := (.int (nar .byte c0))) (congrArg Value.int (oNarIdembyte _)) d4_31 rfl ?_
 intro T1 h1 X1 W1 A1
 replace A1 : oArr Z h1 d kd .byte [(.int (nar .byte c0)), .int 0] := A1
 refine o_iinc K X1 d4_32 rfl rfl (L' := #[vR b, vI 1, vR d, vI 0, vI 2, vI 0, vI c0]) (by rw [show (0 : Int32) + Int32.ofInt 1 = (1 : Int32) from (by decide)]; rfl) ?_
 refine o_iinc K X1 d4_35 rfl rfl (L' := #[vR b, vI 1, vR d, vI 1, vI 2, vI 0, vI c0]) (by rw [show (0 : Int32) + Int32.ofInt 1 = (1 : Int32) from (by decide)]; rfl) ?_
 refine o_iinc K X1 d4_38 rfl rfl (L' := #[vR b, vI 1, vR d, vI 1, vI 2, vI 1, vI c0]) (by rw [show (0 : Int32) + Int32.ofInt 1 = (1 : Int32) from (by decide)]; rfl) ?_
 refine o_goto K X1 d4_41 (by decide) (pc' := 3) (by decide) ?_
 refine o_iload K X1 d4_3 rfl rfl ?_
 refine o_iload K X1 d4_5 rfl rfl ?_
 refine o_icmp_ge_f K X1 d4_7 rfl (by decide) ?_
 refine o_aloadN K X1 d4_10 rfl rfl rfl ?_
 refine o_iloadN K X1 d4_11 rfl rfl ?_
 have m2 := (q0.other W1 q3)
 refine o_caload K X1 m2 (by decide) (v := (.int c1)) rfl d4_12 rfl ?_
 refine o_istore K X1 d4_13 rfl (L' := #[vR b, vI 1, vR d, vI 1, vI 2, vI 1, vI c1]) rfl ?_
 refine o_iload K X1 d4_15 rfl rfl ?_
 refine o_sipush K X1 d4_17 rfl (z := 255) rfl ?_
 refine o_icmp_le_t K X1 d4_20 (by decide) (pc' := 26) (by decide) q5 ?_
 refine o_aloadN K X1 d4_26 rfl rfl rfl ?_
 refine o_iloadN K X1 d4_27 rfl rfl ?_
 refine o_iload K X1 d4_28 rfl rfl ?_
 refine o_i2b K X1 d4_30 rfl (z := (nar .byte c1)) rfl ?_
 refine o_bastore K X1 A1 (by decide) (show (1 : Int32).toNatClampNeg < 2 from (by decide)) q2 (z := (.int (nar .byte c1))) (congrArg Value.int (oNarIdembyte _)) d4_31 rfl ?_
 intro T3 h3 X3 W3 A3
 replace A3 : oArr Z h3 d kd .byte [(.int (nar .byte c0)), (.int (nar .byte c1))] := A3
 refine o_iinc K X3 d4_32 rfl rfl (L' := #[vR b, vI 2, vR d, vI 1, vI 2, vI 1, vI c1]) (by rw [show (1 : Int32) + Int32.ofInt 1 = (2 : Int32) from (by decide)]; rfl) ?_
 refine o_iinc K X3 d4_35 rfl rfl (L' := #[vR b, vI 2, vR d, vI 2, vI 2, vI 1, vI c1]) (by rw [show (1 : Int32) + Int32.ofInt 1 = (2 : Int32) from (by decide)]; rfl) ?_
 refine o_iinc K X3 d4_38 rfl rfl (L' := #[vR b, vI 2, vR d, vI 2, vI 2, vI 2, vI c1]) (by rw [show (1 : Int32) + Int32.ofInt 1 = (2 : Int32) from (by decide)]; rfl) ?_
 refine o_goto K X3 d4_41 (by decide) (pc' := 3) (by decide) ?_
 refine o_iload K X3 d4_3 rfl rfl ?_
 refine o_iload K X3 d4_5 rfl rfl ?_
 refine o_icmp_ge_t K X3 d4_7 (by decide) (pc' := 44) (by decide) (by decide) ?_
 refine o_iload K X3 d4_44 rfl rfl ?_
 refine o_ireturn K X3 d4_46 rfl ?_ (by decide) (by decide)
 exact ⟨rfl, (((Keep.refl h0 [d]).wr W1 (Or.inl me0)).wr W3 (Or.inl me0)), A3⟩
theorem d5_0 : decode jdk_52_method_16_code 0 = .ok (.iload_n 2, 1) := by decide +kernel
theorem d5_1 : decode jdk_52_method_16_code 1 = .ok (.newarray .byte, 2) := by decide +kernel
theorem d5_3 : decode jdk_52_method_16_code 3 = .ok (.astore_n 3, 1) := by decide +kernel
theorem d5_4 : decode jdk_52_method_16_code 4 = .ok (.aload_n 0, 1) := by decide +kernel
theorem d5_5 : decode jdk_52_method_16_code 5 = .ok (.iload_n 1, 1) := by decide +kernel
theorem d5_6 : decode jdk_52_method_16_code 6 = .ok (.aload_n 3, 1) := by decide +kernel
theorem d5_7 : decode jdk_52_method_16_code 7 = .ok (.iconst 0, 1) := by decide +kernel
theorem d5_8 : decode jdk_52_method_16_code 8 = .ok (.iload_n 2, 1) := by decide +kernel
theorem d5_9 : decode jdk_52_method_16_code 9 = .ok (.invokestatic 115, 3) := by decide +kernel
theorem d5_12 : decode jdk_52_method_16_code 12 = .ok (.istore 4, 2) := by decide +kernel
theorem d5_14 : decode jdk_52_method_16_code 14 = .ok (.iload 4, 2) := by decide +kernel
theorem d5_16 : decode jdk_52_method_16_code 16 = .ok (.iload_n 2, 1) := by decide +kernel
theorem d5_17 : decode jdk_52_method_16_code 17 = .ok (.if_icmp .eq 40, 3) := by decide +kernel
theorem d5_57 : decode jdk_52_method_16_code 57 = .ok (.aload_n 3, 1) := by decide +kernel
theorem d5_58 : decode jdk_52_method_16_code 58 = .ok (.areturn, 1) := by decide +kernel
theorem pd3 : parseMethodDescriptor "([CI[BII)I" = some ⟨[(.array .char), .int, (.array .byte), .int, .int], some .int⟩ := by decide +kernel
def r_cmp3_2 : Room := { frames := 1, cells := 1, slots := 2, locals := 18 }
def Q_cmp3_2 (Z : State) (b : Addr) (kb : ClassId) (c0 c1 : Int32) (h0 : Heap) (v : Option Value) (h : Heap) : Prop := ∃ r : Addr, ∃ k : ClassId, v = some (.ref r) ∧ Keep h0 h [] ∧ h0.size ≤ r ∧ oArr Z h r k .byte [(.int (nar .byte c0)), (.int (nar .byte c1))]
theorem rm_cmp3_2 (l : Launch) (Z : State) (a0 : Array Value) (hw : oHw Z a0) (b : Addr) (kb : ClassId) (c0 c1 : Int32) (h0 : Heap) (q0 : oArr Z h0 b kb .char [.int c0, .int c1]) (q1 : ¬ ((255 : Int32) < c0)) (q2 : ¬ ((255 : Int32) < c1)) : oMet l Z (⟨"java/lang/StringUTF16", "compress", "([CII)[B"⟩ : MethodName) jdk_52_method_16_code 6 (some (.array .byte)) r_cmp3_2 [] #[.ref b, .int 0, .int 2] h0 (Q_cmp3_2 Z b kb c0 c1 h0) := by
 refine oEnter (plainFor_of_name (by first | (simp [plainName, overriddenIn]; done) | decide +kernel)) (own := "java/lang/StringUTF16") (nm := "compress") rfl rfl (L := #[.val (.ref b), .val (.int 0), .val (.int 2), .unset, .unset, .unset]) (fun m => by first | (simp [entryFrame, mkF, argsToLocals, Value.category]; done) | rfl) ?_
 intro pp ee ss mm bb mtd cc T0 K X0
 have E0 := X0.ext0
 refine o_iloadN K X0 d5_0 rfl rfl ?_
 refine o_newarray K X0 (aty := .byte) 2 (w55 hw) (ad := "[B") (by decide +kernel) (by decide) (by decide) (by decide) rfl d5_1 rfl (by decide) (by decide) ?_
 intro T1 h1 b1 k1 X1 g1 E1 A1 B1 G1
 replace A1 : oArr Z h1 b1 k1 .byte [.int 0, .int 0] := A1
 refine o_astoreN K X1 d5_3 rfl rfl (L' := #[vR b, vI 0, vI 2, vR b1, uS, uS]) rfl ?_
 refine o_aloadN K X1 d5_4 rfl rfl rfl ?_
 refine o_iloadN K X1 d5_5 rfl rfl ?_
 refine o_aloadN K X1 d5_6 rfl rfl rfl ?_
 refine o_iconst K X1 d5_7 rfl (z := 0) rfl ?_
 refine o_iloadN K X1 d5_8 rfl rfl ?_
 have m2 := (q0.ext E1)
 have n3 := oLz q0.lt (oLe g1)
 refine o_static K X1  (w56 hw) (w57 hw) (w53 hw) (w58 hw) (by decide) (rm_cmp5_2 l Z a0 hw b kb b1 k1 c0 c1 h1 m2 A1 G1 n3 q1 q2) (by decide) rfl (argsL := [.ref b, .int 0, .ref b1, .int 0, .int 2]) rfl (lenOf pd3 rfl) (W := 0) rfl (by decide) (by decide) (by decide) d5_9 rfl ?_
 intro v4 T4 h4 X4 U4
 obtain ⟨rfl, u4_0, u4_1⟩ := U4
 show oGoes pp ee bb ss Z T4 (mkF mm 12 _ [.int 2]) _ _ _
 refine o_istore K X4 d5_12 rfl (L' := #[vR b, vI 0, vI 2, vR b1, vI 2, uS]) rfl ?_
 refine o_iload K X4 d5_14 rfl rfl ?_
 refine o_iloadN K X4 d5_16 rfl rfl ?_
 refine o_icmp_eq_t K X4 d5_17 (by decide) (pc' := 57) (by decide) (by decide) ?_
 refine o_aloadN K X4 d5_57 rfl rfl rfl ?_
 refine o_areturn K X4 (t := (.array .byte)) d5_58 rfl rfl rfl ?_ (by decide) (by decide)
 exact ⟨b1, k1, rfl, (((Keep.refl h0 []).ext E1).trans u4_0 (allS (Or.inr (oLe g1)) all0)), (oLe g1), u4_1⟩
theorem d6_0 : decode jdk_52_method_15_code 0 = .ok (.iload_n 1, 1) := by decide +kernel
theorem d6_1 : decode jdk_52_method_15_code 1 = .ok (.aload_n 0, 1) := by decide +kernel
theorem d6_2 : decode jdk_52_method_15_code 2 = .ok (.arraylength, 1) := by decide +kernel
theorem d6_3 : decode jdk_52_method_15_code 3 = .ok (.isub, 1) := by decide +kernel
theorem d6_4 : decode jdk_52_method_15_code 4 = .ok (.bipush 31, 2) := by decide +kernel
theorem d6_6 : decode jdk_52_method_15_code 6 = .ok (.iushr, 1) := by decide +kernel
theorem d6_7 : decode jdk_52_method_15_code 7 = .ok (.i2b, 1) := by decide +kernel
theorem d6_8 : decode jdk_52_method_15_code 8 = .ok (.ireturn, 1) := by decide +kernel
def r_coder_2 : Room := { frames := 0, cells := 0, slots := 0, locals := 0 }
def Q_coder_2 (Z : State) (b : Addr) (kb : ClassId) (c0 c1 : Int32) (h0 : Heap) (v : Option Value) (h : Heap) : Prop := v = some (.int 0) ∧ h0 = h
theorem rm_coder_2 (l : Launch) (Z : State) (a0 : Array Value) (hw : oHw Z a0) (b : Addr) (kb : ClassId) (c0 c1 : Int32) (h0 : Heap) (q0 : oArr Z h0 b kb .byte [.int c0, .int c1]) : oMet l Z (⟨"java/lang/StringUTF16", "coderFromArrayLen", "([BI)B"⟩ : MethodName) jdk_52_method_15_code 2 (some .byte) r_coder_2 [] #[.ref b, .int 2] h0 (Q_coder_2 Z b kb c0 c1 h0) := by
 refine oEnter (plainFor_of_name (by first | (simp [plainName, overriddenIn]; done) | decide +kernel)) (own := "java/lang/StringUTF16") (nm := "coderFromArrayLen") rfl rfl (L := #[.val (.ref b), .val (.int 2)]) (fun m => by first | (simp [entryFrame, mkF, argsToLocals, Value.category]; done) | rfl) ?_
 intro pp ee ss mm bb mtd cc T0 K X0
 have E0 := X0.ext0
 refine o_iloadN K X0 d6_0 rfl rfl ?_
 refine o_aloadN K X0 d6_1 rfl rfl rfl ?_
 refine o_arraylength K X0 q0 (z := 2) rfl d6_2 rfl ?_
 refine o_isub K X0 d6_3 rfl (z := 0) (by decide) ?_
 refine o_bipush K X0 d6_4 rfl (z := 31) rfl ?_
 refine o_iushr K X0 d6_6 rfl (z := 0) (by decide) ?_
 refine o_i2b K X0 d6_7 rfl (z := 0) (by decide) ?_
 refine o_ireturnN K X0 .byte d6_8 rfl (by simp) (z' := 0) (by decide) ?_ (by decide) (by decide)
 exact ⟨rfl, rfl⟩
theorem d7_0 : decode jdk_42_method_149_code 0 = .ok (.aload_n 0, 1) := by decide +kernel
theorem d7_1 : decode jdk_42_method_149_code 1 = .ok (.invokespecial 1, 3) := by decide +kernel
theorem d7_4 : decode jdk_42_method_149_code 4 = .ok (.iload_n 3, 1) := by decide +kernel
theorem d7_5 : decode jdk_42_method_149_code 5 = .ok (.ifCond .ne 22, 3) := by decide +kernel
theorem d7_27 : decode jdk_42_method_149_code 27 = .ok (.getstatic 38, 3) := by decide +kernel
theorem d7_30 : decode jdk_42_method_149_code 30 = .ok (.ifCond .eq 28, 3) := by decide +kernel
theorem d7_33 : decode jdk_42_method_149_code 33 = .ok (.aload_n 1, 1) := by decide +kernel
theorem d7_34 : decode jdk_42_method_149_code 34 = .ok (.iload_n 2, 1) := by decide +kernel
theorem d7_35 : decode jdk_42_method_149_code 35 = .ok (.iload_n 3, 1) := by decide +kernel
theorem d7_36 : decode jdk_42_method_149_code 36 = .ok (.invokestatic 177, 3) := by decide +kernel
theorem d7_39 : decode jdk_42_method_149_code 39 = .ok (.astore 5, 2) := by decide +kernel
theorem d7_41 : decode jdk_42_method_149_code 41 = .ok (.aload_n 0, 1) := by decide +kernel
theorem d7_42 : decode jdk_42_method_149_code 42 = .ok (.aload 5, 2) := by decide +kernel
theorem d7_44 : decode jdk_42_method_149_code 44 = .ok (.iload_n 3, 1) := by decide +kernel
theorem d7_45 : decode jdk_42_method_149_code 45 = .ok (.invokestatic 47, 3) := by decide +kernel
theorem d7_48 : decode jdk_42_method_149_code 48 = .ok (.putfield 15, 3) := by decide +kernel
theorem d7_51 : decode jdk_42_method_149_code 51 = .ok (.aload_n 0, 1) := by decide +kernel
theorem d7_52 : decode jdk_42_method_149_code 52 = .ok (.aload 5, 2) := by decide +kernel
theorem d7_54 : decode jdk_42_method_149_code 54 = .ok (.putfield 9, 3) := by decide +kernel
theorem d7_57 : decode jdk_42_method_149_code 57 = .ok (.return_, 1) := by decide +kernel
theorem pd4 : parseMethodDescriptor "([CII)[B" = some ⟨[(.array .char), .int, .int], some (.array .byte)⟩ := by decide +kernel
theorem pd5 : parseMethodDescriptor "([BI)B" = some ⟨[(.array .byte), .int], some .byte⟩ := by decide +kernel
def r_str4_2 : Room := { frames := 2, cells := 1, slots := 2, locals := 35 }
def Q_str4_2 (Z : State) (a b : Addr) (kb : ClassId) (cs c0 c1 : Int32) (h0 : Heap) (v : Option Value) (h : Heap) : Prop := ∃ vb : Addr, ∃ k : ClassId, v = none ∧ Keep h0 h [a] ∧ Exa Z h a z0 ∧ Fld Z h a z0 "value" "[B" (.ref vb) ∧ Fld Z h a z0 "coder" "B" (.int 0) ∧ h0.size ≤ vb ∧ oArr Z h vb k .byte [(.int (nar .byte c0)), (.int (nar .byte c1))]
theorem rm_str4_2 (l : Launch) (Z : State) (a0 : Array Value) (hw : oHw Z a0) (a b : Addr) (kb : ClassId) (cs c0 c1 : Int32) (h0 : Heap) (q0 : Exa Z h0 a z0) (q1 : Fld Z h0 a z0 "value" "[B" .null) (q2 : Fld Z h0 a z0 "coder" "B" (.int 0)) (q3 : Z.heap.size ≤ a) (q4 : oArr Z h0 b kb .char [.int c0, .int c1]) (q5 : Sta Z Z.heap z0 "COMPACT_STRINGS" "Z" (.int cs)) (q6 : ¬ (cs = (0 : Int32))) (q7 : ¬ ((255 : Int32) < c0)) (q8 : ¬ ((255 : Int32) < c1)) : oMet l Z (⟨z0, "<init>", "([CIILjava/lang/Void;)V"⟩ : MethodName) jdk_42_method_149_code 6 none r_str4_2 [] #[.ref a, .ref b, .int 0, .int 2, .null] h0 (Q_str4_2 Z a b kb cs c0 c1 h0) := by
 refine oEnter (plainFor_of_name (by first | (simp [plainName, overriddenIn]; done) | decide +kernel)) (own := z0) (nm := "<init>") rfl rfl (L := #[.val (.ref a), .val (.ref b), .val (.int 0), .val (.int 2), .val .null, .unset]) (fun m => by first | (simp [entryFrame, mkF, argsToLocals, Value.category]; done) | rfl) ?_
 intro pp ee ss mm bb mtd cc T0 K X0
 have E0 := X0.ext0
 refine o_aloadN K X0 d7_0 rfl rfl rfl ?_
 refine o_initObj K X0 (w49 hw) (w27 hw) (w28 hw) d7_1 rfl rfl (by decide) (W := 0) rfl (by decide) ?_
 intro T1 X1
 refine o_iloadN K X1 d7_4 rfl rfl ?_
 refine o_if_ne_t K X1 d7_5 (by decide) (pc' := 27) (by decide) (by decide) ?_
 refine o_getstatic K X1 (host := "") (Or.inl (w50 hw)) Via.refl (q5.ext X1.ext0) d7_27 rfl ?_
 intro T2 X2
 refine o_if_eq_f K X2 d7_30 rfl q6 ?_
 refine o_aloadN K X2 d7_33 rfl rfl rfl ?_
 refine o_iloadN K X2 d7_34 rfl rfl ?_
 refine o_iloadN K X2 d7_35 rfl rfl ?_
 refine o_static K X2  (w51 hw) (w52 hw) (w53 hw) (w54 hw) (by decide) (rm_cmp3_2 l Z a0 hw b kb c0 c1 h0 q4 q7 q8) (by decide) rfl (argsL := [.ref b, .int 0, .int 2]) rfl (lenOf pd4 rfl) (W := 0) rfl (by decide) (by decide) (by decide) d7_36 rfl ?_
 intro v3 T3 h3 X3 U3
 obtain ⟨r_3, k_3, rfl, u3_0, u3_1, u3_2⟩ := U3
 have G3_r : Z.heap.size ≤ r_3 := Nat.le_trans X2.ext0.1 u3_1
 show oGoes pp ee bb ss Z T3 (mkF mm 39 _ [.ref r_3]) _ _ _
 refine o_astore K X3 d7_39 rfl rfl (L' := #[vR a, vR b, vI 0, vI 2, vN, vR r_3]) rfl ?_
 refine o_aloadN K X3 d7_41 rfl rfl rfl ?_
 refine o_aload K X3 d7_42 rfl rfl rfl ?_
 refine o_iloadN K X3 d7_44 rfl rfl ?_
 refine o_static K X3  (w59 hw) (w60 hw) (w53 hw) (w61 hw) (by decide) (rm_coder_2 l Z a0 hw r_3 k_3 (nar .byte c0) (nar .byte c1) h3 u3_2) (by decide) rfl (argsL := [.ref r_3, .int 2]) rfl (lenOf pd5 rfl) (W := 1) rfl (by decide) (by decide) (by decide) d7_45 rfl ?_
 intro v4 T4 h4 X4 U4
 obtain ⟨rfl, rfl⟩ := U4
 show oGoes pp ee bb ss Z T4 (mkF mm 48 _ [.int 0, .ref a]) _ _ _
 have m6 := (q2.keep u3_0 nin0)
 have m7 := (q0.keep u3_0)
 refine o_putfieldN K X4 (w62 hw) Via.refl m6 m7 (Or.inr ⟨(w63 hw), rfl, rfl⟩) (w38 hw) (ty := .byte) (by decide) (v' := (.int 0)) (congrArg Value.int (by decide)) (oFitbyte (x := (0 : Int32)) (by decide)) q3 d7_48 rfl ?_
 intro T5 h5 X5 W5
 have F5 := Fld.same W5 m6
 refine o_aloadN K X5 d7_51 rfl rfl rfl ?_
 refine o_aload K X5 d7_52 rfl rfl rfl ?_
 have m9 := (Fld.other W5 (q1.keep u3_0 nin0) (Or.inr (slot_ne (Or.inr (w65 hw)) (Or.inr (w63 hw)) (by decide) (t := (.array .byte)) (t' := .byte) (by decide) (by decide))))
 have m10 := (Exa.wr W5 m7)
 refine o_putfield K X5 (host := "") (Or.inl (w64 hw)) Via.refl m9 m10 (Or.inr ⟨(w65 hw), rfl, rfl⟩) (w38 hw) (ty := (.array .byte)) (by decide) rfl rfl q3 d7_54 rfl ?_
 intro T8 h8 X8 W8
 have F8 := Fld.same W8 m9
 refine o_return K X8 d7_57 rfl ?_ (by decide) (by decide)
 have m11 := (Exa.wr W8 m10)
 have m12 := (Fld.other W8 F5 (Or.inr (slot_ne (Or.inr (w63 hw)) (Or.inr (w65 hw)) (by decide) (t := .byte) (t' := (.array .byte)) (by decide) (by decide))))
 have n13 := oLsz q0.lt u3_1
 have m14 := ((u3_2.other W5 n13).other W8 n13)
 exact ⟨r_3, k_3, rfl, ((((Keep.refl h0 [a]).trans u3_0 all0).wr W5 (Or.inl me0)).wr W8 (Or.inl me0)), m11, F8, m12, u3_1, m14⟩
theorem d8_0 : decode jdk_42_method_3_code 0 = .ok (.aload_n 0, 1) := by decide +kernel
theorem d8_1 : decode jdk_42_method_3_code 1 = .ok (.aload_n 1, 1) := by decide +kernel
theorem d8_2 : decode jdk_42_method_3_code 2 = .ok (.iconst 0, 1) := by decide +kernel
theorem d8_3 : decode jdk_42_method_3_code 3 = .ok (.aload_n 1, 1) := by decide +kernel
theorem d8_4 : decode jdk_42_method_3_code 4 = .ok (.arraylength, 1) := by decide +kernel
theorem d8_5 : decode jdk_42_method_3_code 5 = .ok (.aconst_null, 1) := by decide +kernel
theorem d8_6 : decode jdk_42_method_3_code 6 = .ok (.invokespecial 27, 3) := by decide +kernel
theorem d8_9 : decode jdk_42_method_3_code 9 = .ok (.return_, 1) := by decide +kernel
theorem pd6 : parseMethodDescriptor "([CIILjava/lang/Void;)V" = some ⟨[(.array .char), .int, .int, (.object "java/lang/Void")], none⟩ := by decide +kernel
def r_str_2 : Room := { frames := 3, cells := 1, slots := 2, locals := 52 }
def Q_str_2 (Z : State) (a b : Addr) (kb : ClassId) (cs c0 c1 : Int32) (h0 : Heap) (v : Option Value) (h : Heap) : Prop := ∃ vb : Addr, ∃ k : ClassId, v = none ∧ Keep h0 h [a] ∧ Exa Z h a z0 ∧ Fld Z h a z0 "value" "[B" (.ref vb) ∧ Fld Z h a z0 "coder" "B" (.int 0) ∧ h0.size ≤ vb ∧ oArr Z h vb k .byte [(.int (nar .byte c0)), (.int (nar .byte c1))]
theorem rm_str_2 (l : Launch) (Z : State) (a0 : Array Value) (hw : oHw Z a0) (a b : Addr) (kb : ClassId) (cs c0 c1 : Int32) (h0 : Heap) (q0 : Exa Z h0 a z0) (q1 : Fld Z h0 a z0 "value" "[B" .null) (q2 : Fld Z h0 a z0 "coder" "B" (.int 0)) (q3 : Z.heap.size ≤ a) (q4 : oArr Z h0 b kb .char [.int c0, .int c1]) (q5 : Sta Z Z.heap z0 "COMPACT_STRINGS" "Z" (.int cs)) (q6 : ¬ (cs = (0 : Int32))) (q7 : ¬ ((255 : Int32) < c0)) (q8 : ¬ ((255 : Int32) < c1)) : oMet l Z (⟨z0, "<init>", "([C)V"⟩ : MethodName) jdk_42_method_3_code 2 none r_str_2 [] #[.ref a, .ref b] h0 (Q_str_2 Z a b kb cs c0 c1 h0) := by
 refine oEnter (plainFor_of_name (by first | (simp [plainName, overriddenIn]; done) | decide +kernel)) (own := z0) (nm := "<init>") rfl rfl (L := #[.val (.ref a), .val (.ref b)]) (fun m => by first | (simp [entryFrame, mkF, argsToLocals, Value.category]; done) | rfl) ?_
 intro pp ee ss mm bb mtd cc T0 K X0
 have E0 := X0.ext0
 refine o_aloadN K X0 d8_0 rfl rfl rfl ?_
 refine o_aloadN K X0 d8_1 rfl rfl rfl ?_
 refine o_iconst K X0 d8_2 rfl (z := 0) rfl ?_
 refine o_aloadN K X0 d8_3 rfl rfl rfl ?_
 refine o_arraylength K X0 q4 (z := 2) rfl d8_4 rfl ?_
 refine o_aconst_null K X0 d8_5 rfl ?_
 refine o_special K X0 (y := (⟨z0, "<init>", "([CIILjava/lang/Void;)V"⟩ : MethodName)) rfl (w45 hw) (w46 hw) (w39 hw) (w48 hw) (by decide) (rm_str4_2 l Z a0 hw a b kb cs c0 c1 h0 q0 q1 q2 q3 q4 q5 q6 q7 q8) (by decide) rfl (argsL := [.ref b, .int 0, .int 2, .null]) rfl (lenOf pd6 rfl) (W := 0) rfl (by decide) (by decide) (by decide) d8_6 rfl ?_
 intro v1 T1 h1 X1 U1
 obtain ⟨vb_1, k_1, rfl, u1_0, u1_1, u1_2, u1_3, u1_4, u1_5⟩ := U1
 have G1_vb : Z.heap.size ≤ vb_1 := Nat.le_trans X0.ext0.1 u1_4
 show oGoes pp ee bb ss Z T1 (mkF mm 9 _ []) _ _ _
 refine o_return K X1 d8_9 rfl ?_ (by decide) (by decide)
 exact ⟨vb_1, k_1, rfl, ((Keep.refl h0 [a]).trans u1_0 (allS (Or.inl me0) all0)), u1_1, u1_2, u1_3, u1_4, u1_5⟩
theorem d9_0 : decode jdk_30_method_1_code 0 = .ok (.aload_n 0, 1) := by decide +kernel
theorem d9_1 : decode jdk_30_method_1_code 1 = .ok (.invokespecial 1, 3) := by decide +kernel
theorem d9_4 : decode jdk_30_method_1_code 4 = .ok (.return_, 1) := by decide +kernel
def r_rec : Room := { frames := 1, cells := 0, slots := 0, locals := 12 }
def Q_rec (Z : State) (a : Addr) (h0 : Heap) (v : Option Value) (h : Heap) : Prop := v = none ∧ h0 = h
theorem rm_rec (l : Launch) (Z : State) (a0 : Array Value) (hw : oHw Z a0) (a : Addr) (h0 : Heap) : oMet l Z (⟨"java/lang/Record", "<init>", "()V"⟩ : MethodName) jdk_30_method_1_code 1 none r_rec [] #[.ref a] h0 (Q_rec Z a h0) := by
 refine oEnter (plainFor_of_name (by first | (simp [plainName, overriddenIn]; done) | decide +kernel)) (own := "java/lang/Record") (nm := "<init>") rfl rfl (L := #[.val (.ref a)]) (fun m => by first | (simp [entryFrame, mkF, argsToLocals, Value.category]; done) | rfl) ?_
 intro pp ee ss mm bb mtd cc T0 K X0
 have E0 := X0.ext0
 refine o_aloadN K X0 d9_0 rfl rfl rfl ?_
 refine o_initObj K X0 (w105 hw) (w27 hw) (w28 hw) d9_1 rfl rfl (by decide) (W := 0) rfl (by decide) ?_
 intro T1 X1
 refine o_return K X1 d9_4 rfl ?_ (by decide) (by decide)
 exact ⟨rfl, rfl⟩
theorem d10_0 : decode jdk_22_method_1_code 0 = .ok (.aload_n 0, 1) := by decide +kernel
theorem d10_1 : decode jdk_22_method_1_code 1 = .ok (.invokespecial 1, 3) := by decide +kernel
theorem d10_4 : decode jdk_22_method_1_code 4 = .ok (.return_, 1) := by decide +kernel
def r_abc : Room := { frames := 1, cells := 0, slots := 0, locals := 12 }
def Q_abc (Z : State) (a : Addr) (h0 : Heap) (v : Option Value) (h : Heap) : Prop := v = none ∧ h0 = h
theorem rm_abc (l : Launch) (Z : State) (a0 : Array Value) (hw : oHw Z a0) (a : Addr) (h0 : Heap) : oMet l Z (⟨"java/util/AbstractCollection", "<init>", "()V"⟩ : MethodName) jdk_22_method_1_code 1 none r_abc [] #[.ref a] h0 (Q_abc Z a h0) := by
 refine oEnter (plainFor_of_name (by first | (simp [plainName, overriddenIn]; done) | decide +kernel)) (own := "java/util/AbstractCollection") (nm := "<init>") rfl rfl (L := #[.val (.ref a)]) (fun m => by first | (simp [entryFrame, mkF, argsToLocals, Value.category]; done) | rfl) ?_
 intro pp ee ss mm bb mtd cc T0 K X0
 have E0 := X0.ext0
 refine o_aloadN K X0 d10_0 rfl rfl rfl ?_
 refine o_initObj K X0 (w26 hw) (w27 hw) (w28 hw) d10_1 rfl rfl (by decide) (W := 0) rfl (by decide) ?_
 intro T1 X1
 refine o_return K X1 d10_4 rfl ?_ (by decide) (by decide)
 exact ⟨rfl, rfl⟩
theorem d11_0 : decode jdk_39_method_1_code 0 = .ok (.aload_n 0, 1) := by decide +kernel
theorem d11_1 : decode jdk_39_method_1_code 1 = .ok (.invokespecial 1, 3) := by decide +kernel
theorem d11_4 : decode jdk_39_method_1_code 4 = .ok (.aload_n 0, 1) := by decide +kernel
theorem d11_5 : decode jdk_39_method_1_code 5 = .ok (.iconst 0, 1) := by decide +kernel
theorem d11_6 : decode jdk_39_method_1_code 6 = .ok (.putfield 7, 3) := by decide +kernel
theorem d11_9 : decode jdk_39_method_1_code 9 = .ok (.return_, 1) := by decide +kernel
theorem pd7 : parseMethodDescriptor "()V" = some ⟨[], none⟩ := by decide +kernel
def r_abl : Room := { frames := 2, cells := 0, slots := 0, locals := 24 }
def Q_abl (Z : State) (a : Addr) (h0 : Heap) (v : Option Value) (h : Heap) : Prop := v = none ∧ Keep h0 h [a] ∧ Exa Z h a z1 ∧ Fld Z h a z13 "modCount" "I" (.int 0) ∧ Fld Z h a z1 z14 z5 .null ∧ Fld Z h a z1 "size" "I" (.int 0)
theorem rm_abl (l : Launch) (Z : State) (a0 : Array Value) (hw : oHw Z a0) (a : Addr) (h0 : Heap) (q0 : Exa Z h0 a z1) (q1 : Fld Z h0 a z13 "modCount" "I" (.int 0)) (q2 : Fld Z h0 a z1 z14 z5 .null) (q3 : Z.heap.size ≤ a) (q4 : Fld Z h0 a z1 "size" "I" (.int 0)) : oMet l Z (⟨z13, "<init>", "()V"⟩ : MethodName) jdk_39_method_1_code 1 none r_abl [] #[.ref a] h0 (Q_abl Z a h0) := by
 refine oEnter (plainFor_of_name (by first | (simp [plainName, overriddenIn]; done) | decide +kernel)) (own := z13) (nm := "<init>") rfl rfl (L := #[.val (.ref a)]) (fun m => by first | (simp [entryFrame, mkF, argsToLocals, Value.category]; done) | rfl) ?_
 intro pp ee ss mm bb mtd cc T0 K X0
 have E0 := X0.ext0
 refine o_aloadN K X0 d11_0 rfl rfl rfl ?_
 refine o_special K X0 (y := (⟨"java/util/AbstractCollection", "<init>", "()V"⟩ : MethodName)) rfl (w20 hw) (w21 hw) (w24 hw) (w25 hw) (by decide) (rm_abc l Z a0 hw a h0) (by decide) rfl (argsL := []) rfl (lenOf pd7 rfl) (W := 0) rfl (by decide) (by decide) (by decide) d11_1 rfl ?_
 intro v1 T1 h1 X1 U1
 obtain ⟨rfl, rfl⟩ := U1
 show oGoes pp ee bb ss Z T1 (mkF mm 4 _ []) _ _ _
 refine o_aloadN K X1 d11_4 rfl rfl rfl ?_
 refine o_iconst K X1 d11_5 rfl (z := 0) rfl ?_
 refine o_putfield K X1 (host := "") (Or.inl (w29 hw)) Via.refl q1 q0 (Or.inl (w30 hw)) (w9 hw) (ty := .int) (by decide) rfl rfl q3 d11_6 rfl ?_
 intro T2 h2 X2 W2
 have F2 := Fld.same W2 q1
 refine o_return K X2 d11_9 rfl ?_ (by decide) (by decide)
 have m3 := (Exa.wr W2 q0)
 have m4 := (Fld.other W2 q2 (Or.inr (slot_ne (Or.inl (w33 hw)) (Or.inl (w30 hw)) (by decide) (t := (.array (.object z3))) (t' := .int) (by decide) (by decide))))
 have m5 := (Fld.other W2 q4 (Or.inr (slot_ne (Or.inl (w74 hw)) (Or.inl (w30 hw)) (by decide) (t := .int) (t' := .int) (by decide) (by decide))))
 exact ⟨rfl, ((Keep.refl h0 [a]).wr W2 (Or.inl me0)), m3, F2, m4, m5⟩
theorem d12_0 : decode jdk_38_method_2_code 0 = .ok (.aload_n 0, 1) := by decide +kernel
theorem d12_1 : decode jdk_38_method_2_code 1 = .ok (.invokespecial 1, 3) := by decide +kernel
theorem d12_4 : decode jdk_38_method_2_code 4 = .ok (.aload_n 0, 1) := by decide +kernel
theorem d12_5 : decode jdk_38_method_2_code 5 = .ok (.getstatic 39, 3) := by decide +kernel
theorem d12_8 : decode jdk_38_method_2_code 8 = .ok (.putfield 9, 3) := by decide +kernel
theorem d12_11 : decode jdk_38_method_2_code 11 = .ok (.return_, 1) := by decide +kernel
def r_al : Room := { frames := 3, cells := 0, slots := 0, locals := 36 }
def Q_al (Z : State) (a dce : Addr) (h0 : Heap) (v : Option Value) (h : Heap) : Prop := v = none ∧ Keep h0 h [a] ∧ Exa Z h a z1 ∧ Fld Z h a z13 "modCount" "I" (.int 0) ∧ Fld Z h a z1 z14 z5 (.ref dce) ∧ Fld Z h a z1 "size" "I" (.int 0)
theorem rm_al (l : Launch) (Z : State) (a0 : Array Value) (hw : oHw Z a0) (a dce : Addr) (h0 : Heap) (q0 : Exa Z h0 a z1) (q1 : Fld Z h0 a z13 "modCount" "I" (.int 0)) (q2 : Fld Z h0 a z1 z14 z5 .null) (q3 : Z.heap.size ≤ a) (q4 : Fld Z h0 a z1 "size" "I" (.int 0)) (q5 : Sta Z Z.heap z1 z22 z5 (.ref dce)) : oMet l Z (⟨z1, "<init>", "()V"⟩ : MethodName) jdk_38_method_2_code 1 none r_al [] #[.ref a] h0 (Q_al Z a dce h0) := by
 refine oEnter (plainFor_of_name (by first | (simp [plainName, overriddenIn]; done) | decide +kernel)) (own := z1) (nm := "<init>") rfl rfl (L := #[.val (.ref a)]) (fun m => by first | (simp [entryFrame, mkF, argsToLocals, Value.category]; done) | rfl) ?_
 intro pp ee ss mm bb mtd cc T0 K X0
 have E0 := X0.ext0
 refine o_aloadN K X0 d12_0 rfl rfl rfl ?_
 refine o_special K X0 (y := (⟨z13, "<init>", "()V"⟩ : MethodName)) rfl (w14 hw) (w15 hw) (w18 hw) (w19 hw) (by decide) (rm_abl l Z a0 hw a h0 q0 q1 q2 q3 q4) (by decide) rfl (argsL := []) rfl (lenOf pd7 rfl) (W := 0) rfl (by decide) (by decide) (by decide) d12_1 rfl ?_
 intro v1 T1 h1 X1 U1
 obtain ⟨rfl, u1_0, u1_1, u1_2, u1_3, u1_4⟩ := U1
 show oGoes pp ee bb ss Z T1 (mkF mm 4 _ []) _ _ _
 refine o_aloadN K X1 d12_4 rfl rfl rfl ?_
 refine o_getstatic K X1 (host := "") (Or.inl (w31 hw)) Via.refl (q5.ext X1.ext0) d12_5 rfl ?_
 intro T2 X2
 refine o_putfield K X2 (host := "") (Or.inl (w32 hw)) Via.refl u1_3 u1_1 (Or.inl (w33 hw)) (w9 hw) (ty := (.array (.object z3))) (by decide) rfl rfl q3 d12_8 rfl ?_
 intro T3 h3 X3 W3
 have F3 := Fld.same W3 u1_3
 refine o_return K X3 d12_11 rfl ?_ (by decide) (by decide)
 have m4 := (Exa.wr W3 u1_1)
 have m5 := (Fld.other W3 u1_2 (Or.inr (slot_ne (Or.inl (w30 hw)) (Or.inl (w33 hw)) (by decide) (t := .int) (t' := (.array (.object z3))) (by decide) (by decide))))
 have m6 := (Fld.other W3 u1_4 (Or.inr (slot_ne (Or.inl (w74 hw)) (Or.inl (w33 hw)) (by decide) (t := .int) (t' := (.array (.object z3))) (by decide) (by decide))))
 exact ⟨rfl, (((Keep.refl h0 [a]).trans u1_0 (allS (Or.inl me0) all0)).wr W3 (Or.inl me0)), m4, m5, F3, m6⟩
theorem d13_0 : decode jdk_29_method_65_code 0 = .ok (.iload_n 0, 1) := by decide +kernel
theorem d13_1 : decode jdk_29_method_65_code 1 = .ok (.iload_n 1, 1) := by decide +kernel
theorem d13_2 : decode jdk_29_method_65_code 2 = .ok (.if_icmp .lt 7, 3) := by decide +kernel
theorem d13_5 : decode jdk_29_method_65_code 5 = .ok (.iload_n 0, 1) := by decide +kernel
theorem d13_6 : decode jdk_29_method_65_code 6 = .ok (.goto 4, 3) := by decide +kernel
theorem d13_10 : decode jdk_29_method_65_code 10 = .ok (.ireturn, 1) := by decide +kernel
def r_max10 : Room := { frames := 0, cells := 0, slots := 0, locals := 0 }
def Q_max10 (Z : State) (h0 : Heap) (v : Option Value) (h : Heap) : Prop := v = some (.int 10) ∧ h0 = h
theorem rm_max10 (l : Launch) (Z : State) (a0 : Array Value) (hw : oHw Z a0) (h0 : Heap) : oMet l Z (⟨"java/lang/Math", "max", "(II)I"⟩ : MethodName) jdk_29_method_65_code 2 (some .int) r_max10 [] #[.int 10, .int 1] h0 (Q_max10 Z h0) := by
 refine oEnter (Jvm.Free.JP.mathPlain rfl (by decide +kernel)) (own := "java/lang/Math") (nm := "max") rfl rfl (L := #[.val (.int 10), .val (.int 1)]) (fun m => by first | (simp [entryFrame, mkF, argsToLocals, Value.category]; done) | rfl) ?_
 intro pp ee ss mm bb mtd cc T0 K X0
 have E0 := X0.ext0
 refine o_iloadN K X0 d13_0 rfl rfl ?_
 refine o_iloadN K X0 d13_1 rfl rfl ?_
 refine o_icmp_lt_f K X0 d13_2 rfl (by decide) ?_
 refine o_iloadN K X0 d13_5 rfl rfl ?_
 refine o_goto K X0 d13_6 (by decide) (pc' := 10) (by decide) ?_
 refine o_ireturn K X0 d13_10 rfl ?_ (by decide) (by decide)
 exact ⟨rfl, rfl⟩
theorem d14_0 : decode jdk_38_method_6_code 0 = .ok (.aload_n 0, 1) := by decide +kernel
theorem d14_1 : decode jdk_38_method_6_code 1 = .ok (.getfield 9, 3) := by decide +kernel
theorem d14_4 : decode jdk_38_method_6_code 4 = .ok (.arraylength, 1) := by decide +kernel
theorem d14_5 : decode jdk_38_method_6_code 5 = .ok (.istore_n 2, 1) := by decide +kernel
theorem d14_6 : decode jdk_38_method_6_code 6 = .ok (.iload_n 2, 1) := by decide +kernel
theorem d14_7 : decode jdk_38_method_6_code 7 = .ok (.ifCond .gt 13, 3) := by decide +kernel
theorem d14_10 : decode jdk_38_method_6_code 10 = .ok (.aload_n 0, 1) := by decide +kernel
theorem d14_11 : decode jdk_38_method_6_code 11 = .ok (.getfield 9, 3) := by decide +kernel
theorem d14_14 : decode jdk_38_method_6_code 14 = .ok (.getstatic 39, 3) := by decide +kernel
theorem d14_17 : decode jdk_38_method_6_code 17 = .ok (.if_acmp .eq 28, 3) := by decide +kernel
theorem d14_45 : decode jdk_38_method_6_code 45 = .ok (.aload_n 0, 1) := by decide +kernel
theorem d14_46 : decode jdk_38_method_6_code 46 = .ok (.bipush 10, 2) := by decide +kernel
theorem d14_48 : decode jdk_38_method_6_code 48 = .ok (.iload_n 1, 1) := by decide +kernel
theorem d14_49 : decode jdk_38_method_6_code 49 = .ok (.invokestatic 79, 3) := by decide +kernel
theorem d14_52 : decode jdk_38_method_6_code 52 = .ok (.anewarray 7, 3) := by decide +kernel
theorem d14_55 : decode jdk_38_method_6_code 55 = .ok (.dup_x1, 1) := by decide +kernel
theorem d14_56 : decode jdk_38_method_6_code 56 = .ok (.putfield 9, 3) := by decide +kernel
theorem d14_59 : decode jdk_38_method_6_code 59 = .ok (.areturn, 1) := by decide +kernel
theorem pd8 : parseMethodDescriptor "(II)I" = some ⟨[.int, .int], some .int⟩ := by decide +kernel
def r_grow1 : Room := { frames := 1, cells := 1, slots := 10, locals := 14 }
def Q_grow1 (Z : State) (a : Addr) (mc : Int32) (dce : Addr) (kd : ClassId) (h0 : Heap) (v : Option Value) (h : Heap) : Prop := ∃ r : Addr, ∃ k : ClassId, v = some (.ref r) ∧ Keep h0 h [a] ∧ h0.size ≤ r ∧ oArr Z h r k (.object z3) [.null, .null, .null, .null, .null, .null, .null, .null, .null, .null] ∧ Ovr Z k z3 ∧ Exa Z h r z5 ∧ Exa Z h a z1 ∧ Fld Z h a z13 "modCount" "I" (.int mc) ∧ Fld Z h a z1 z14 z5 (.ref r) ∧ Fld Z h a z1 "size" "I" (.int 0)
theorem rm_grow1 (l : Launch) (Z : State) (a0 : Array Value) (hw : oHw Z a0) (a : Addr) (mc : Int32) (dce : Addr) (kd : ClassId) (h0 : Heap) (q0 : Exa Z h0 a z1) (q1 : Fld Z h0 a z13 "modCount" "I" (.int mc)) (q2 : Fld Z h0 a z1 z14 z5 (.ref dce)) (q3 : Fld Z h0 a z1 "size" "I" (.int 0)) (q4 : Z.heap.size ≤ a) (q5 : Sta Z Z.heap z1 z22 z5 (.ref dce)) (q6 : oArr Z Z.heap dce kd (.object z3) []) : oMet l Z (⟨z1, "grow", "(I)[Ljava/lang/Object;"⟩ : MethodName) jdk_38_method_6_code 4 (some (.array (.object z3))) r_grow1 [] #[.ref a, .int 1] h0 (Q_grow1 Z a mc dce kd h0) := by
 refine oEnter (plainFor_of_name (by first | (simp [plainName, overriddenIn]; done) | decide +kernel)) (own := z1) (nm := "grow") rfl rfl (L := #[.val (.ref a), .val (.int 1), .unset, .unset]) (fun m => by first | (simp [entryFrame, mkF, argsToLocals, Value.category]; done) | rfl) ?_
 intro pp ee ss mm bb mtd cc T0 K X0
 have E0 := X0.ext0
 refine o_aloadN K X0 d14_0 rfl rfl rfl ?_
 refine o_getfield K X0 (host := "") (Or.inl (w32 hw)) Via.refl q2 d14_1 rfl ?_
 intro T1 X1
 refine o_arraylength K X1 (q6.ext X1.ext0) (z := 0) rfl d14_4 rfl ?_
 refine o_istoreN K X1 d14_5 rfl (L' := #[vR a, vI 1, vI 0, uS]) rfl ?_
 refine o_iloadN K X1 d14_6 rfl rfl ?_
 refine o_if_gt_f K X1 d14_7 rfl (by decide) ?_
 refine o_aloadN K X1 d14_10 rfl rfl rfl ?_
 refine o_getfield K X1 (host := "") (Or.inl (w32 hw)) Via.refl q2 d14_11 rfl ?_
 intro T2 X2
 refine o_getstatic K X2 (host := "") (Or.inl (w31 hw)) Via.refl (q5.ext X2.ext0) d14_14 rfl ?_
 intro T3 X3
 refine o_acmp K X3 true d14_17 (by decide) rfl rfl (decide_eq_true rfl) (pc' := 45) (by decide) ?_
 refine o_aloadN K X3 d14_45 rfl rfl rfl ?_
 refine o_bipush K X3 d14_46 rfl (z := 10) rfl ?_
 refine o_iloadN K X3 d14_48 rfl rfl ?_
 refine o_static K X3  (w90 hw) (w91 hw) (w92 hw) (w93 hw) (by decide) (rm_max10 l Z a0 hw  h0) (by decide) rfl (argsL := [.int 10, .int 1]) rfl (lenOf pd8 rfl) (W := 1) rfl (by decide) (by decide) (by decide) d14_49 rfl ?_
 intro v4 T4 h4 X4 U4
 obtain ⟨rfl, rfl⟩ := U4
 show oGoes pp ee bb ss Z T4 (mkF mm 52 _ [.int 10, .ref a]) _ _ _
 refine o_anewarray K X4 10 (w94 hw) (w95 hw) (ad := z5) (by decide +kernel) (by decide) (by decide) (by decide) d14_52 rfl (by decide) (by decide) ?_
 intro T5 h5 b5 k5 X5 g5 E5 A5 B5 O5 G5
 replace A5 : oArr Z h5 b5 k5 (.object z3) [.null, .null, .null, .null, .null, .null, .null, .null, .null, .null] := A5
 refine o_dup_x1 K X5 d14_55 rfl rfl rfl ?_
 have m7 := (q2.ext E5)
 have m8 := (q0.ext E5)
 refine o_putfield K X5 (host := "") (Or.inl (w32 hw)) Via.refl m7 m8 (Or.inl (w33 hw)) (w9 hw) (ty := (.array (.object z3))) (by decide) rfl rfl q4 d14_56 rfl ?_
 intro T6 h6 X6 W6
 have F6 := Fld.same W6 m7
 refine o_areturn K X6 (t := (.array (.object z3))) d14_59 rfl rfl rfl ?_ (by decide) (by decide)
 have n9 := oLsz q0.lt (oLe g5)
 have m10 := (A5.other W6 n9)
 have m11 := (Exa.wr W6 B5)
 have m12 := (Exa.wr W6 m8)
 have m13 := (Fld.other W6 (q1.ext E5) (Or.inr (slot_ne (Or.inl (w30 hw)) (Or.inl (w33 hw)) (by decide) (t := .int) (t' := (.array (.object z3))) (by decide) (by decide))))
 have m14 := (Fld.other W6 (q3.ext E5) (Or.inr (slot_ne (Or.inl (w74 hw)) (Or.inl (w33 hw)) (by decide) (t := .int) (t' := (.array (.object z3))) (by decide) (by decide))))
 exact ⟨b5, k5, rfl, (((Keep.refl h0 [a]).ext E5).wr W6 (Or.inl me0)), (oLe g5), m10, O5, m11, m12, m13, F6, m14⟩
theorem d15_0 : decode jdk_38_method_7_code 0 = .ok (.aload_n 0, 1) := by decide +kernel
theorem d15_1 : decode jdk_38_method_7_code 1 = .ok (.aload_n 0, 1) := by decide +kernel
theorem d15_2 : decode jdk_38_method_7_code 2 = .ok (.getfield 48, 3) := by decide +kernel
theorem d15_5 : decode jdk_38_method_7_code 5 = .ok (.iconst 1, 1) := by decide +kernel
theorem d15_6 : decode jdk_38_method_7_code 6 = .ok (.iadd, 1) := by decide +kernel
theorem d15_7 : decode jdk_38_method_7_code 7 = .ok (.invokevirtual 69, 3) := by decide +kernel
theorem d15_10 : decode jdk_38_method_7_code 10 = .ok (.areturn, 1) := by decide +kernel
theorem pd9 : parseMethodDescriptor "(I)[Ljava/lang/Object;" = some ⟨[.int], some (.array (.object z3))⟩ := by decide +kernel
def r_grow0 : Room := { frames := 2, cells := 1, slots := 10, locals := 29 }
def Q_grow0 (Z : State) (a : Addr) (mc : Int32) (dce : Addr) (kd : ClassId) (h0 : Heap) (v : Option Value) (h : Heap) : Prop := ∃ r : Addr, ∃ k : ClassId, v = some (.ref r) ∧ Keep h0 h [a] ∧ h0.size ≤ r ∧ oArr Z h r k (.object z3) [.null, .null, .null, .null, .null, .null, .null, .null, .null, .null] ∧ Ovr Z k z3 ∧ Exa Z h r z5 ∧ Exa Z h a z1 ∧ Fld Z h a z13 "modCount" "I" (.int mc) ∧ Fld Z h a z1 z14 z5 (.ref r) ∧ Fld Z h a z1 "size" "I" (.int 0)
theorem rm_grow0 (l : Launch) (Z : State) (a0 : Array Value) (hw : oHw Z a0) (a : Addr) (mc : Int32) (dce : Addr) (kd : ClassId) (h0 : Heap) (q0 : Exa Z h0 a z1) (q1 : Fld Z h0 a z13 "modCount" "I" (.int mc)) (q2 : Fld Z h0 a z1 z14 z5 (.ref dce)) (q3 : Fld Z h0 a z1 "size" "I" (.int 0)) (q4 : Z.heap.size ≤ a) (q5 : Sta Z Z.heap z1 z22 z5 (.ref dce)) (q6 : oArr Z Z.heap dce kd (.object z3) []) : oMet l Z (⟨z1, "grow", z19⟩ : MethodName) jdk_38_method_7_code 1 (some (.array (.object z3))) r_grow0 [] #[.ref a] h0 (Q_grow0 Z a mc dce kd h0) := by
 refine oEnter (plainFor_of_name (by first | (simp [plainName, overriddenIn]; done) | decide +kernel)) (own := z1) (nm := "grow") rfl rfl (L := #[.val (.ref a)]) (fun m => by first | (simp [entryFrame, mkF, argsToLocals, Value.category]; done) | rfl) ?_
 intro pp ee ss mm bb mtd cc T0 K X0
 have E0 := X0.ext0
 refine o_aloadN K X0 d15_0 rfl rfl rfl ?_
 refine o_aloadN K X0 d15_1 rfl rfl rfl ?_
 refine o_getfield K X0 (host := "") (Or.inl (w73 hw)) Via.refl q3 d15_2 rfl ?_
 intro T1 X1
 refine o_iconst K X1 d15_5 rfl (z := 1) rfl ?_
 refine o_iadd K X1 d15_6 rfl (z := 1) (by decide) ?_
 refine o_private K X1 (y := (⟨z1, "grow", "(I)[Ljava/lang/Object;"⟩ : MethodName)) (w85 hw) (w86 hw) (w88 hw) (w87 hw) (w10 hw) (w89 hw) (by decide) q0 (rm_grow1 l Z a0 hw a mc dce kd h0 q0 q1 q2 q3 q4 q5 q6) (by decide) rfl (argsL := [.int 1]) rfl (lenOf pd9 rfl) (W := 0) rfl (by decide) (by decide) (by decide) d15_7 rfl ?_
 intro v2 T2 h2 X2 U2
 obtain ⟨r_2, k_2, rfl, u2_0, u2_1, u2_2, u2_3, u2_4, u2_5, u2_6, u2_7, u2_8⟩ := U2
 have G2_r : Z.heap.size ≤ r_2 := Nat.le_trans X1.ext0.1 u2_1
 show oGoes pp ee bb ss Z T2 (mkF mm 10 _ [.ref r_2]) _ _ _
 refine o_areturn K X2 (t := (.array (.object z3))) d15_10 rfl rfl rfl ?_ (by decide) (by decide)
 exact ⟨r_2, k_2, rfl, ((Keep.refl h0 [a]).trans u2_0 (allS (Or.inl me0) all0)), u2_1, u2_2, u2_3, u2_4, u2_5, u2_6, u2_7, u2_8⟩
theorem d16_0 : decode jdk_38_method_24_code 0 = .ok (.iload_n 3, 1) := by decide +kernel
theorem d16_1 : decode jdk_38_method_24_code 1 = .ok (.aload_n 2, 1) := by decide +kernel
theorem d16_2 : decode jdk_38_method_24_code 2 = .ok (.arraylength, 1) := by decide +kernel
theorem d16_3 : decode jdk_38_method_24_code 3 = .ok (.if_icmp .ne 8, 3) := by decide +kernel
theorem d16_6 : decode jdk_38_method_24_code 6 = .ok (.aload_n 0, 1) := by decide +kernel
theorem d16_7 : decode jdk_38_method_24_code 7 = .ok (.invokevirtual 129, 3) := by decide +kernel
theorem d16_10 : decode jdk_38_method_24_code 10 = .ok (.astore_n 2, 1) := by decide +kernel
theorem d16_11 : decode jdk_38_method_24_code 11 = .ok (.aload_n 2, 1) := by decide +kernel
theorem d16_12 : decode jdk_38_method_24_code 12 = .ok (.iload_n 3, 1) := by decide +kernel
theorem d16_13 : decode jdk_38_method_24_code 13 = .ok (.aload_n 1, 1) := by decide +kernel
theorem d16_14 : decode jdk_38_method_24_code 14 = .ok (.aastore, 1) := by decide +kernel
theorem d16_15 : decode jdk_38_method_24_code 15 = .ok (.aload_n 0, 1) := by decide +kernel
theorem d16_16 : decode jdk_38_method_24_code 16 = .ok (.iload_n 3, 1) := by decide +kernel
theorem d16_17 : decode jdk_38_method_24_code 17 = .ok (.iconst 1, 1) := by decide +kernel
theorem d16_18 : decode jdk_38_method_24_code 18 = .ok (.iadd, 1) := by decide +kernel
theorem d16_19 : decode jdk_38_method_24_code 19 = .ok (.putfield 48, 3) := by decide +kernel
theorem d16_22 : decode jdk_38_method_24_code 22 = .ok (.return_, 1) := by decide +kernel
theorem pd10 : parseMethodDescriptor z19 = some ⟨[], some (.array (.object z3))⟩ := by decide +kernel
def r_add3 : Room := { frames := 3, cells := 1, slots := 10, locals := 41 }
def Q_add3 (Z : State) (a : Addr) (mc : Int32) (o dce : Addr) (kd : ClassId) (h0 : Heap) (v : Option Value) (h : Heap) : Prop := ∃ r : Addr, ∃ k : ClassId, v = none ∧ Keep h0 h [a] ∧ h0.size ≤ r ∧ oArr Z h r k (.object z3) [.ref o, .null, .null, .null, .null, .null, .null, .null, .null, .null] ∧ Ovr Z k z3 ∧ Exa Z h r z5 ∧ Exa Z h a z1 ∧ Fld Z h a z13 "modCount" "I" (.int mc) ∧ Fld Z h a z1 z14 z5 (.ref r) ∧ Fld Z h a z1 "size" "I" (.int 1)
theorem rm_add3 (l : Launch) (Z : State) (a0 : Array Value) (hw : oHw Z a0) (a : Addr) (mc : Int32) (o dce : Addr) (kd : ClassId) (h0 : Heap) (q0 : Exa Z h0 a z1) (q1 : Fld Z h0 a z13 "modCount" "I" (.int mc)) (q2 : Fld Z h0 a z1 z14 z5 (.ref dce)) (q3 : Fld Z h0 a z1 "size" "I" (.int 0)) (q4 : Z.heap.size ≤ a) (q5 : Sta Z Z.heap z1 z22 z5 (.ref dce)) (q6 : oArr Z Z.heap dce kd (.object z3) []) (q7 : Exa Z h0 o z0) : oMet l Z (⟨z1, "add", z23⟩ : MethodName) jdk_38_method_24_code 4 none r_add3 [] #[.ref a, .ref o, .ref dce, .int 0] h0 (Q_add3 Z a mc o dce kd h0) := by
 refine oEnter (plainFor_of_name (by first | (simp [plainName, overriddenIn]; done) | decide +kernel)) (own := z1) (nm := "add") rfl rfl (L := #[.val (.ref a), .val (.ref o), .val (.ref dce), .val (.int 0)]) (fun m => by first | (simp [entryFrame, mkF, argsToLocals, Value.category]; done) | rfl) ?_
 intro pp ee ss mm bb mtd cc T0 K X0
 have E0 := X0.ext0
 refine o_iloadN K X0 d16_0 rfl rfl ?_
 refine o_aloadN K X0 d16_1 rfl rfl rfl ?_
 refine o_arraylength K X0 (q6.ext X0.ext0) (z := 0) rfl d16_2 rfl ?_
 refine o_icmp_ne_f K X0 d16_3 rfl (by decide) ?_
 refine o_aloadN K X0 d16_6 rfl rfl rfl ?_
 refine o_private K X0 (y := (⟨z1, "grow", z19⟩ : MethodName)) (w80 hw) (w81 hw) (w83 hw) (w82 hw) (w10 hw) (w84 hw) (by decide) q0 (rm_grow0 l Z a0 hw a mc dce kd h0 q0 q1 q2 q3 q4 q5 q6) (by decide) rfl (argsL := []) rfl (lenOf pd10 rfl) (W := 0) rfl (by decide) (by decide) (by decide) d16_7 rfl ?_
 intro v1 T1 h1 X1 U1
 obtain ⟨r_1, k_1, rfl, u1_0, u1_1, u1_2, u1_3, u1_4, u1_5, u1_6, u1_7, u1_8⟩ := U1
 have G1_r : Z.heap.size ≤ r_1 := Nat.le_trans X0.ext0.1 u1_1
 show oGoes pp ee bb ss Z T1 (mkF mm 10 _ [.ref r_1]) _ _ _
 refine o_astoreN K X1 d16_10 rfl rfl (L' := #[vR a, vR o, vR r_1, vI 0]) rfl ?_
 refine o_aloadN K X1 d16_11 rfl rfl rfl ?_
 refine o_iloadN K X1 d16_12 rfl rfl ?_
 refine o_aloadN K X1 d16_13 rfl rfl rfl ?_
 have m3 := (q7.keep u1_0)
 refine o_aastore K X1 rfl u1_2 (by decide) (show (0 : Int32).toNatClampNeg < 10 from (by decide)) G1_r (oSto u1_2 u1_3 (Ins.of_exa m3 (w96 hw))) rfl d16_14 rfl ?_
 intro T2 h2 X2 W2 A2
 replace A2 : oArr Z h2 r_1 k_1 (.object z3) [.ref o, .null, .null, .null, .null, .null, .null, .null, .null, .null] := A2
 refine o_aloadN K X2 d16_15 rfl rfl rfl ?_
 refine o_iloadN K X2 d16_16 rfl rfl ?_
 refine o_iconst K X2 d16_17 rfl (z := 1) rfl ?_
 refine o_iadd K X2 d16_18 rfl (z := 1) (by decide) ?_
 have n5 := oLz q0.lt u1_1
 have m6 := (Fld.other W2 u1_8 (Or.inl n5))
 have m7 := (Exa.wr W2 u1_5)
 refine o_putfield K X2 (host := "") (Or.inl (w73 hw)) Via.refl m6 m7 (Or.inl (w74 hw)) (w9 hw) (ty := .int) (by decide) rfl rfl q4 d16_19 rfl ?_
 intro T4 h4 X4 W4
 have F4 := Fld.same W4 m6
 refine o_return K X4 d16_22 rfl ?_ (by decide) (by decide)
 have m8 := (A2.other W4 (Ne.symm n5))
 have m9 := (Exa.wr W4 (Exa.wr W2 u1_4))
 have m10 := (Exa.wr W4 m7)
 have m11 := (Fld.other W4 (Fld.other W2 u1_6 (Or.inl n5)) (Or.inr (slot_ne (Or.inl (w30 hw)) (Or.inl (w74 hw)) (by decide) (t := .int) (t' := .int) (by decide) (by decide))))
 have m12 := (Fld.other W4 (Fld.other W2 u1_7 (Or.inl n5)) (Or.inr (slot_ne (Or.inl (w33 hw)) (Or.inl (w74 hw)) (by decide) (t := (.array (.object z3))) (t' := .int) (by decide) (by decide))))
 exact ⟨r_1, k_1, rfl, ((((Keep.refl h0 [a]).trans u1_0 (allS (Or.inl me0) all0)).wr W2 (Or.inr u1_1)).wr W4 (Or.inl me0)), u1_1, m8, u1_3, m9, m10, m11, m12, F4⟩
theorem d17_0 : decode jdk_38_method_25_code 0 = .ok (.aload_n 0, 1) := by decide +kernel
theorem d17_1 : decode jdk_38_method_25_code 1 = .ok (.dup, 1) := by decide +kernel
theorem d17_2 : decode jdk_38_method_25_code 2 = .ok (.getfield 63, 3) := by decide +kernel
theorem d17_5 : decode jdk_38_method_25_code 5 = .ok (.iconst 1, 1) := by decide +kernel
theorem d17_6 : decode jdk_38_method_25_code 6 = .ok (.iadd, 1) := by decide +kernel
theorem d17_7 : decode jdk_38_method_25_code 7 = .ok (.putfield 63, 3) := by decide +kernel
theorem d17_10 : decode jdk_38_method_25_code 10 = .ok (.aload_n 0, 1) := by decide +kernel
theorem d17_11 : decode jdk_38_method_25_code 11 = .ok (.aload_n 1, 1) := by decide +kernel
theorem d17_12 : decode jdk_38_method_25_code 12 = .ok (.aload_n 0, 1) := by decide +kernel
theorem d17_13 : decode jdk_38_method_25_code 13 = .ok (.getfield 9, 3) := by decide +kernel
theorem d17_16 : decode jdk_38_method_25_code 16 = .ok (.aload_n 0, 1) := by decide +kernel
theorem d17_17 : decode jdk_38_method_25_code 17 = .ok (.getfield 48, 3) := by decide +kernel
theorem d17_20 : decode jdk_38_method_25_code 20 = .ok (.invokevirtual 131, 3) := by decide +kernel
theorem d17_23 : decode jdk_38_method_25_code 23 = .ok (.iconst 1, 1) := by decide +kernel
theorem d17_24 : decode jdk_38_method_25_code 24 = .ok (.ireturn, 1) := by decide +kernel
theorem pd11 : parseMethodDescriptor z23 = some ⟨[(.object z3), (.array (.object z3)), .int], none⟩ := by decide +kernel
def r_add1 : Room := { frames := 4, cells := 1, slots := 10, locals := 56 }
def Q_add1 (Z : State) (a : Addr) (mc : Int32) (o dce : Addr) (kd : ClassId) (h0 : Heap) (v : Option Value) (h : Heap) : Prop := ∃ r : Addr, ∃ k : ClassId, v = some (.int 1) ∧ Keep h0 h [a] ∧ h0.size ≤ r ∧ oArr Z h r k (.object z3) [.ref o, .null, .null, .null, .null, .null, .null, .null, .null, .null] ∧ Ovr Z k z3 ∧ Exa Z h r z5 ∧ Exa Z h a z1 ∧ Fld Z h a z13 "modCount" "I" (.int (mc + (1 : Int32))) ∧ Fld Z h a z1 z14 z5 (.ref r) ∧ Fld Z h a z1 "size" "I" (.int 1)
theorem rm_add1 (l : Launch) (Z : State) (a0 : Array Value) (hw : oHw Z a0) (a : Addr) (mc : Int32) (o dce : Addr) (kd : ClassId) (h0 : Heap) (q0 : Exa Z h0 a z1) (q1 : Fld Z h0 a z13 "modCount" "I" (.int mc)) (q2 : Fld Z h0 a z1 z14 z5 (.ref dce)) (q3 : Fld Z h0 a z1 "size" "I" (.int 0)) (q4 : Z.heap.size ≤ a) (q5 : Sta Z Z.heap z1 z22 z5 (.ref dce)) (q6 : oArr Z Z.heap dce kd (.object z3) []) (q7 : Exa Z h0 o z0) : oMet l Z (⟨z1, "add", "(Ljava/lang/Object;)Z"⟩ : MethodName) jdk_38_method_25_code 2 (some .boolean) r_add1 [] #[.ref a, .ref o] h0 (Q_add1 Z a mc o dce kd h0) := by
 refine oEnter (plainFor_of_name (by first | (simp [plainName, overriddenIn]; done) | decide +kernel)) (own := z1) (nm := "add") rfl rfl (L := #[.val (.ref a), .val (.ref o)]) (fun m => by first | (simp [entryFrame, mkF, argsToLocals, Value.category]; done) | rfl) ?_
 intro pp ee ss mm bb mtd cc T0 K X0
 have E0 := X0.ext0
 refine o_aloadN K X0 d17_0 rfl rfl rfl ?_
 refine o_dup K X0 d17_1 rfl rfl ?_
 refine o_getfield K X0 (host := "") (Or.inl (w71 hw)) (Via.of (w72 hw)) q1 d17_2 rfl ?_
 intro T1 X1
 refine o_iconst K X1 d17_5 rfl (z := 1) rfl ?_
 refine o_iadd K X1 d17_6 rfl (z := (mc + (1 : Int32))) rfl ?_
 refine o_putfield K X1 (host := "") (Or.inl (w71 hw)) (Via.of (w72 hw)) q1 q0 (Or.inl (w30 hw)) (w9 hw) (ty := .int) (by decide) rfl rfl q4 d17_7 rfl ?_
 intro T2 h2 X2 W2
 have F2 := Fld.same W2 q1
 refine o_aloadN K X2 d17_10 rfl rfl rfl ?_
 refine o_aloadN K X2 d17_11 rfl rfl rfl ?_
 refine o_aloadN K X2 d17_12 rfl rfl rfl ?_
 have m4 := (Fld.other W2 q2 (Or.inr (slot_ne (Or.inl (w33 hw)) (Or.inl (w30 hw)) (by decide) (t := (.array (.object z3))) (t' := .int) (by decide) (by decide))))
 refine o_getfield K X2 (host := "") (Or.inl (w32 hw)) Via.refl m4 d17_13 rfl ?_
 intro T3 X3
 refine o_aloadN K X3 d17_16 rfl rfl rfl ?_
 have m6 := (Fld.other W2 q3 (Or.inr (slot_ne (Or.inl (w74 hw)) (Or.inl (w30 hw)) (by decide) (t := .int) (t' := .int) (by decide) (by decide))))
 refine o_getfield K X3 (host := "") (Or.inl (w73 hw)) Via.refl m6 d17_17 rfl ?_
 intro T5 X5
 have m7 := (Exa.wr W2 q0)
 have m8 := (Exa.wr W2 q7)
 refine o_private K X5 (y := (⟨z1, "add", z23⟩ : MethodName)) (w75 hw) (w76 hw) (w78 hw) (w77 hw) (w10 hw) (w79 hw) (by decide) m7 (rm_add3 l Z a0 hw a (mc + (1 : Int32)) o dce kd h2 m7 F2 m4 m6 q4 q5 q6 m8) (by decide) rfl (argsL := [.ref o, .ref dce, .int 0]) rfl (lenOf pd11 rfl) (W := 0) rfl (by decide) (by decide) (by decide) d17_20 rfl ?_
 intro v9 T9 h9 X9 U9
 obtain ⟨r_9, k_9, rfl, u9_0, u9_1, u9_2, u9_3, u9_4, u9_5, u9_6, u9_7, u9_8⟩ := U9
 have G9_r : Z.heap.size ≤ r_9 := Nat.le_trans X5.ext0.1 u9_1
 show oGoes pp ee bb ss Z T9 (mkF mm 23 _ []) _ _ _
 refine o_iconst K X9 d17_23 rfl (z := 1) rfl ?_
 refine o_ireturnN K X9 .boolean d17_24 rfl (by simp) (z' := 1) (by decide) ?_ (by decide) (by decide)
 exact ⟨r_9, k_9, rfl, (((Keep.refl h0 [a]).wr W2 (Or.inl me0)).trans u9_0 (allS (Or.inl me0) all0)), (Nat.le_trans (Keep.of_wr W2).1 u9_1), u9_2, u9_3, u9_4, u9_5, u9_6, u9_7, u9_8⟩
theorem d18_0 : decode method_2_code 0 = .ok (.new 7, 3) := by decide +kernel
theorem d18_3 : decode method_2_code 3 = .ok (.dup, 1) := by decide +kernel
theorem d18_4 : decode method_2_code 4 = .ok (.iconst 2, 1) := by decide +kernel
theorem d18_5 : decode method_2_code 5 = .ok (.newarray .char, 2) := by decide +kernel
theorem d18_7 : decode method_2_code 7 = .ok (.dup, 1) := by decide +kernel
theorem d18_8 : decode method_2_code 8 = .ok (.iconst 0, 1) := by decide +kernel
theorem d18_9 : decode method_2_code 9 = .ok (.iload_n 0, 1) := by decide +kernel
theorem d18_10 : decode method_2_code 10 = .ok (.castore, 1) := by decide +kernel
theorem d18_11 : decode method_2_code 11 = .ok (.dup, 1) := by decide +kernel
theorem d18_12 : decode method_2_code 12 = .ok (.iconst 1, 1) := by decide +kernel
theorem d18_13 : decode method_2_code 13 = .ok (.lload_n 1, 1) := by decide +kernel
theorem d18_14 : decode method_2_code 14 = .ok (.bipush 8, 2) := by decide +kernel
theorem d18_16 : decode method_2_code 16 = .ok (.iload_n 3, 1) := by decide +kernel
theorem d18_17 : decode method_2_code 17 = .ok (.imul, 1) := by decide +kernel
theorem d18_18 : decode method_2_code 18 = .ok (.lushr, 1) := by decide +kernel
theorem d18_19 : decode method_2_code 19 = .ok (.ldc2_w 9, 3) := by decide +kernel
theorem d18_22 : decode method_2_code 22 = .ok (.land, 1) := by decide +kernel
theorem d18_23 : decode method_2_code 23 = .ok (.l2i, 1) := by decide +kernel
theorem d18_24 : decode method_2_code 24 = .ok (.i2c, 1) := by decide +kernel
theorem d18_25 : decode method_2_code 25 = .ok (.castore, 1) := by decide +kernel
theorem d18_26 : decode method_2_code 26 = .ok (.invokespecial 11, 3) := by decide +kernel
theorem d18_29 : decode method_2_code 29 = .ok (.areturn, 1) := by decide +kernel
theorem pd12 : parseMethodDescriptor "([C)V" = some ⟨[(.array .char)], none⟩ := by decide +kernel
def r_field : Room := { frames := 4, cells := 3, slots := 8, locals := 66 }
def Q_field (Z : State) (c : Int32) (d : Int64) (k cs : Int32) (h0 : Heap) (v : Option Value) (h : Heap) : Prop := ∃ s sv : Addr, ∃ kv : ClassId, v = some (.ref s) ∧ Keep h0 h [] ∧ h0.size ≤ s ∧ h0.size ≤ sv ∧ Exa Z h s z0 ∧ Fld Z h s z0 "value" "[B" (.ref sv) ∧ Fld Z h s z0 "coder" "B" (.int 0) ∧ oArr Z h sv kv .byte [(.int (nar .byte c)), (.int (nar .byte (oFx d k)))]
theorem rm_field (l : Launch) (Z : State) (a0 : Array Value) (hw : oHw Z a0) (c : Int32) (d : Int64) (k cs : Int32) (h0 : Heap) (q0 : ¬ ((255 : Int32) < c)) (q1 : nar .char c = c) (q2 : Sta Z Z.heap z0 "COMPACT_STRINGS" "Z" (.int cs)) (q3 : ¬ (cs = (0 : Int32))) : oMet l Z (⟨z12, "field", "(CJI)Ljava/lang/String;"⟩ : MethodName) method_2_code 4 (some (.object z0)) r_field [] #[.int c, (.long d), .int k] h0 (Q_field Z c d k cs h0) := by
 refine oEnter (plainFor_of_name (by first | (simp [plainName, overriddenIn]; done) | decide +kernel)) (own := z12) (nm := "field") rfl rfl (L := #[.val (.int c), .val (.long d), .second, .val (.int k)]) (fun m => by first | (simp [entryFrame, mkF, argsToLocals, Value.category]; done) | rfl) ?_
 intro pp ee ss mm bb mtd cc T0 K X0
 have E0 := X0.ext0
 refine o_new K X0 (w37 hw) (w38 hw) (w39 hw) d18_0 rfl (by decide) (by decide) ?_
 intro T1 h1 b1 X1 g1 E1 A1 D1 G1
 have F1_coder : Fld Z h1 b1 z0 "coder" "B" (.int 0) := (D1 (Or.inr (w63 hw)) (ty := .byte) (by decide))
 have F1_value : Fld Z h1 b1 z0 "value" "[B" .null := (D1 (Or.inr (w65 hw)) (ty := (.array .byte)) (by decide))
 refine o_dup K X1 d18_3 rfl rfl ?_
 refine o_iconst K X1 d18_4 rfl (z := 2) rfl ?_
 refine o_newarray K X1 (aty := .char) 2 (w40 hw) (ad := "[C") (by decide +kernel) (by decide) (by decide) (by decide) rfl d18_5 rfl (by decide) (by decide) ?_
 intro T2 h2 b2 k2 X2 g2 E2 A2 B2 G2
 replace A2 : oArr Z h2 b2 k2 .char [.int 0, .int 0] := A2
 refine o_dup K X2 d18_7 rfl rfl ?_
 refine o_iconst K X2 d18_8 rfl (z := 0) rfl ?_
 refine o_iloadN K X2 d18_9 rfl rfl ?_
 refine o_castore K X2 A2 (by decide) (show (0 : Int32).toNatClampNeg < 2 from (by decide)) G2 (z := (.int c)) (congrArg Value.int q1) d18_10 rfl ?_
 intro T3 h3 X3 W3 A3
 replace A3 : oArr Z h3 b2 k2 .char [.int c, .int 0] := A3
 refine o_dup K X3 d18_11 rfl rfl ?_
 refine o_iconst K X3 d18_12 rfl (z := 1) rfl ?_
 refine o_lloadN K X3 d18_13 rfl rfl ?_
 refine o_bipush K X3 d18_14 rfl (z := 8) rfl ?_
 refine o_iloadN K X3 d18_16 rfl rfl ?_
 refine o_imul K X3 d18_17 rfl (z := ((8 : Int32) * k)) rfl ?_
 refine o_lushr K X3 d18_18 rfl (z := ((d.toUInt64 >>> (((8 : Int32) * k) &&& 0x3f).toInt64.toUInt64).toInt64)) rfl ?_
 refine o_ldc2 K X3 (w41 hw) d18_19 rfl ?_
 refine o_land K X3 d18_22 rfl (z := (((d.toUInt64 >>> (((8 : Int32) * k) &&& 0x3f).toInt64.toUInt64).toInt64) &&& (255 : Int64))) rfl ?_
 refine o_l2i K X3 d18_23 rfl (z := ((((d.toUInt64 >>> (((8 : Int32) * k) &&& 0x3f).toInt64.toUInt64).toInt64) &&& (255 : Int64)).toInt32)) rfl ?_
 refine o_i2c K X3 d18_24 rfl (z := (oFx d k)) rfl ?_
 refine o_castore K X3 A3 (by decide) (show (1 : Int32).toNatClampNeg < 2 from (by decide)) G2 (z := (.int (oFx d k))) (congrArg Value.int (oChN (oFxC d k))) d18_25 rfl ?_
 intro T4 h4 X4 W4 A4
 replace A4 : oArr Z h4 b2 k2 .char [.int c, (.int (oFx d k))] := A4
 have m5 := (Exa.wr W4 (Exa.wr W3 (A1.ext E2)))
 have n6 := oLz A1.lt (oLe g2)
 have m7 := (Fld.other W4 (Fld.other W3 (F1_value.ext E2) (Or.inl n6)) (Or.inl n6))
 have m8 := (Fld.other W4 (Fld.other W3 (F1_coder.ext E2) (Or.inl n6)) (Or.inl n6))
 refine o_special K X4 (y := (⟨z0, "<init>", "([C)V"⟩ : MethodName)) rfl (w42 hw) (w43 hw) (w39 hw) (w44 hw) (by decide) (rm_str_2 l Z a0 hw b1 b2 k2 cs c (oFx d k) h4 m5 m7 m8 G1 A4 q2 q3 q0 (oFxC d k).2) (by decide) rfl (argsL := [.ref b2]) rfl (lenOf pd12 rfl) (W := 1) rfl (by decide) (by decide) (by decide) d18_26 rfl ?_
 intro v9 T9 h9 X9 U9
 obtain ⟨vb_9, k_9, rfl, u9_0, u9_1, u9_2, u9_3, u9_4, u9_5⟩ := U9
 have G9_vb : Z.heap.size ≤ vb_9 := Nat.le_trans X4.ext0.1 u9_4
 show oGoes pp ee bb ss Z T9 (mkF mm 29 _ [.ref b1]) _ _ _
 refine o_areturn K X9 (t := (.object z0)) d18_29 rfl rfl rfl ?_ (by decide) (by decide)
 have y0_4 := Nat.le_trans (Nat.le_trans (Nat.le_trans E1.1 E2.1) (Keep.of_wr W3).1) (Keep.of_wr W4).1
 exact ⟨b1, vb_9, k_9, rfl, ((((((Keep.refl h0 []).ext E1).ext E2).wr W3 (Or.inr (Nat.le_trans E1.1 (oLe g2)))).wr W4 (Or.inr (Nat.le_trans E1.1 (oLe g2)))).trans u9_0 (allS (Or.inr (oLe g1)) all0)), (oLe g1), (Nat.le_trans y0_4 u9_4), u9_1, u9_2, u9_3, u9_5⟩
def r_addj3_1 : Room := { frames := 0, cells := 0, slots := 0, locals := 0 }
def Q_addj3_1 (Z : State) (a : Addr) (mc : Int32) (r : Addr) (k : ClassId) (o o0 : Addr) (h0 : Heap) (v : Option Value) (h : Heap) : Prop := v = none ∧ Keep h0 h [a, r] ∧ oArr Z h r k (.object z3) [.ref o0, .ref o, .null, .null, .null, .null, .null, .null, .null, .null] ∧ Exa Z h a z1 ∧ Fld Z h a z13 "modCount" "I" (.int mc) ∧ Fld Z h a z1 z14 z5 (.ref r) ∧ Fld Z h a z1 "size" "I" (.int 2)
theorem rm_addj3_1 (l : Launch) (Z : State) (a0 : Array Value) (hw : oHw Z a0) (a : Addr) (mc : Int32) (r : Addr) (k : ClassId) (o o0 : Addr) (h0 : Heap) (q0 : Exa Z h0 a z1) (q1 : Fld Z h0 a z13 "modCount" "I" (.int mc)) (q2 : Fld Z h0 a z1 z14 z5 (.ref r)) (q3 : Fld Z h0 a z1 "size" "I" (.int 1)) (q4 : Z.heap.size ≤ a) (q5 : oArr Z h0 r k (.object z3) [.ref o0, .null, .null, .null, .null, .null, .null, .null, .null, .null]) (q6 : Z.heap.size ≤ r) (q7 : Ovr Z k z3) (q8 : r ≠ a) (q9 : Exa Z h0 o z0) : oMet l Z (⟨z1, "add", z23⟩ : MethodName) jdk_38_method_24_code 4 none r_addj3_1 [] #[.ref a, .ref o, .ref r, .int 1] h0 (Q_addj3_1 Z a mc r k o o0 h0) := by
 refine oEnter (plainFor_of_name (by first | (simp [plainName, overriddenIn]; done) | decide +kernel)) (own := z1) (nm := "add") rfl rfl (L := #[.val (.ref a), .val (.ref o), .val (.ref r), .val (.int 1)]) (fun m => by first | (simp [entryFrame, mkF, argsToLocals, Value.category]; done) | rfl) ?_
 intro pp ee ss mm bb mtd cc T0 K X0
 have E0 := X0.ext0
 refine o_iloadN K X0 d16_0 rfl rfl ?_
 refine o_aloadN K X0 d16_1 rfl rfl rfl ?_
 refine o_arraylength K X0 q5 (z := 10) rfl d16_2 rfl ?_
 refine o_icmp_ne_t K X0 d16_3 (by decide) (pc' := 11) (by decide) (by decide) ?_
 refine o_aloadN K X0 d16_11 rfl rfl rfl ?_
 refine o_iloadN K X0 d16_12 rfl rfl ?_
 refine o_aloadN K X0 d16_13 rfl rfl rfl ?_
 refine o_aastore K X0 rfl q5 (by decide) (show (1 : Int32).toNatClampNeg < 10 from (by decide)) q6 (oSto q5 q7 (Ins.of_exa q9 (w96 hw))) rfl d16_14 rfl ?_
 intro T1 h1 X1 W1 A1
 replace A1 : oArr Z h1 r k (.object z3) [.ref o0, .ref o, .null, .null, .null, .null, .null, .null, .null, .null] := A1
 refine o_aloadN K X1 d16_15 rfl rfl rfl ?_
 refine o_iloadN K X1 d16_16 rfl rfl ?_
 refine o_iconst K X1 d16_17 rfl (z := 1) rfl ?_
 refine o_iadd K X1 d16_18 rfl (z := 2) (by decide) ?_
 have m3 := (Fld.other W1 q3 (Or.inl (Ne.symm q8)))
 have m4 := (Exa.wr W1 q0)
 refine o_putfield K X1 (host := "") (Or.inl (w73 hw)) Via.refl m3 m4 (Or.inl (w74 hw)) (w9 hw) (ty := .int) (by decide) rfl rfl q4 d16_19 rfl ?_
 intro T2 h2 X2 W2
 have F2 := Fld.same W2 m3
 refine o_return K X2 d16_22 rfl ?_ (by decide) (by decide)
 have m5 := (A1.other W2 q8)
 have m6 := (Exa.wr W2 m4)
 have m7 := (Fld.other W2 (Fld.other W1 q1 (Or.inl (Ne.symm q8))) (Or.inr (slot_ne (Or.inl (w30 hw)) (Or.inl (w74 hw)) (by decide) (t := .int) (t' := .int) (by decide) (by decide))))
 have m8 := (Fld.other W2 (Fld.other W1 q2 (Or.inl (Ne.symm q8))) (Or.inr (slot_ne (Or.inl (w33 hw)) (Or.inl (w74 hw)) (by decide) (t := (.array (.object z3))) (t' := .int) (by decide) (by decide))))
 exact ⟨rfl, (((Keep.refl h0 [a, r]).wr W1 (Or.inl me1)).wr W2 (Or.inl me0)), m5, m6, m7, m8, F2⟩
def r_addj1_1 : Room := { frames := 1, cells := 0, slots := 0, locals := 15 }
def Q_addj1_1 (Z : State) (a : Addr) (mc : Int32) (r : Addr) (k : ClassId) (o o0 : Addr) (h0 : Heap) (v : Option Value) (h : Heap) : Prop := v = some (.int 1) ∧ Keep h0 h [a, r] ∧ oArr Z h r k (.object z3) [.ref o0, .ref o, .null, .null, .null, .null, .null, .null, .null, .null] ∧ Exa Z h a z1 ∧ Fld Z h a z13 "modCount" "I" (.int (mc + (1 : Int32))) ∧ Fld Z h a z1 z14 z5 (.ref r) ∧ Fld Z h a z1 "size" "I" (.int 2)
theorem rm_addj1_1 (l : Launch) (Z : State) (a0 : Array Value) (hw : oHw Z a0) (a : Addr) (mc : Int32) (r : Addr) (k : ClassId) (o o0 : Addr) (h0 : Heap) (q0 : Exa Z h0 a z1) (q1 : Fld Z h0 a z13 "modCount" "I" (.int mc)) (q2 : Fld Z h0 a z1 z14 z5 (.ref r)) (q3 : Fld Z h0 a z1 "size" "I" (.int 1)) (q4 : Z.heap.size ≤ a) (q5 : oArr Z h0 r k (.object z3) [.ref o0, .null, .null, .null, .null, .null, .null, .null, .null, .null]) (q6 : Z.heap.size ≤ r) (q7 : Ovr Z k z3) (q8 : r ≠ a) (q9 : Exa Z h0 o z0) : oMet l Z (⟨z1, "add", "(Ljava/lang/Object;)Z"⟩ : MethodName) jdk_38_method_25_code 2 (some .boolean) r_addj1_1 [] #[.ref a, .ref o] h0 (Q_addj1_1 Z a mc r k o o0 h0) := by
 refine oEnter (plainFor_of_name (by first | (simp [plainName, overriddenIn]; done) | decide +kernel)) (own := z1) (nm := "add") rfl rfl (L := #[.val (.ref a), .val (.ref o)]) (fun m => by first | (simp [entryFrame, mkF, argsToLocals, Value.category]; done) | rfl) ?_
 intro pp ee ss mm bb mtd cc T0 K X0
 have E0 := X0.ext0
 refine o_aloadN K X0 d17_0 rfl rfl rfl ?_
 refine o_dup K X0 d17_1 rfl rfl ?_
 refine o_getfield K X0 (host := "") (Or.inl (w71 hw)) (Via.of (w72 hw)) q1 d17_2 rfl ?_
 intro T1 X1
 refine o_iconst K X1 d17_5 rfl (z := 1) rfl ?_
 refine o_iadd K X1 d17_6 rfl (z := (mc + (1 : Int32))) rfl ?_
 refine o_putfield K X1 (host := "") (Or.inl (w71 hw)) (Via.of (w72 hw)) q1 q0 (Or.inl (w30 hw)) (w9 hw) (ty := .int) (by decide) rfl rfl q4 d17_7 rfl ?_
 intro T2 h2 X2 W2
 have F2 := Fld.same W2 q1
 refine o_aloadN K X2 d17_10 rfl rfl rfl ?_
 refine o_aloadN K X2 d17_11 rfl rfl rfl ?_
 refine o_aloadN K X2 d17_12 rfl rfl rfl ?_
 have m4 := (Fld.other W2 q2 (Or.inr (slot_ne (Or.inl (w33 hw)) (Or.inl (w30 hw)) (by decide) (t := (.array (.object z3))) (t' := .int) (by decide) (by decide))))
 refine o_getfield K X2 (host := "") (Or.inl (w32 hw)) Via.refl m4 d17_13 rfl ?_
 intro T3 X3
 refine o_aloadN K X3 d17_16 rfl rfl rfl ?_
 have m6 := (Fld.other W2 q3 (Or.inr (slot_ne (Or.inl (w74 hw)) (Or.inl (w30 hw)) (by decide) (t := .int) (t' := .int) (by decide) (by decide))))
 refine o_getfield K X3 (host := "") (Or.inl (w73 hw)) Via.refl m6 d17_17 rfl ?_
 intro T5 X5
 have m7 := (Exa.wr W2 q0)
 have m8 := (q5.other W2 q8)
 have m9 := (Exa.wr W2 q9)
 refine o_private K X5 (y := (⟨z1, "add", z23⟩ : MethodName)) (w75 hw) (w76 hw) (w78 hw) (w77 hw) (w10 hw) (w79 hw) (by decide) m7 (rm_addj3_1 l Z a0 hw a (mc + (1 : Int32)) r k o o0 h2 m7 F2 m4 m6 q4 m8 q6 q7 q8 m9) (by decide) rfl (argsL := [.ref o, .ref r, .int 1]) rfl (lenOf pd11 rfl) (W := 0) rfl (by decide) (by decide) (by decide) d17_20 rfl ?_
 intro v10 T10 h10 X10 U10
 obtain ⟨rfl, u10_0, u10_1, u10_2, u10_3, u10_4, u10_5⟩ := U10
 show oGoes pp ee bb ss Z T10 (mkF mm 23 _ []) _ _ _
 refine o_iconst K X10 d17_23 rfl (z := 1) rfl ?_
 refine o_ireturnN K X10 .boolean d17_24 rfl (by simp) (z' := 1) (by decide) ?_ (by decide) (by decide)
 exact ⟨rfl, (((Keep.refl h0 [a, r]).wr W2 (Or.inl me0)).trans u10_0 (allS (Or.inl me0) (allS (Or.inl me1) all0))), u10_1, u10_2, u10_3, u10_4, u10_5⟩
def r_addj3_2 : Room := { frames := 0, cells := 0, slots := 0, locals := 0 }
def Q_addj3_2 (Z : State) (a : Addr) (mc : Int32) (r : Addr) (k : ClassId) (o o0 o1 : Addr) (h0 : Heap) (v : Option Value) (h : Heap) : Prop := v = none ∧ Keep h0 h [a, r] ∧ oArr Z h r k (.object z3) [.ref o0, .ref o1, .ref o, .null, .null, .null, .null, .null, .null, .null] ∧ Exa Z h a z1 ∧ Fld Z h a z13 "modCount" "I" (.int mc) ∧ Fld Z h a z1 z14 z5 (.ref r) ∧ Fld Z h a z1 "size" "I" (.int 3)
theorem rm_addj3_2 (l : Launch) (Z : State) (a0 : Array Value) (hw : oHw Z a0) (a : Addr) (mc : Int32) (r : Addr) (k : ClassId) (o o0 o1 : Addr) (h0 : Heap) (q0 : Exa Z h0 a z1) (q1 : Fld Z h0 a z13 "modCount" "I" (.int mc)) (q2 : Fld Z h0 a z1 z14 z5 (.ref r)) (q3 : Fld Z h0 a z1 "size" "I" (.int 2)) (q4 : Z.heap.size ≤ a) (q5 : oArr Z h0 r k (.object z3) [.ref o0, .ref o1, .null, .null, .null, .null, .null, .null, .null, .null]) (q6 : Z.heap.size ≤ r) (q7 : Ovr Z k z3) (q8 : r ≠ a) (q9 : Exa Z h0 o z0) : oMet l Z (⟨z1, "add", z23⟩ : MethodName) jdk_38_method_24_code 4 none r_addj3_2 [] #[.ref a, .ref o, .ref r, .int 2] h0 (Q_addj3_2 Z a mc r k o o0 o1 h0) := by
 refine oEnter (plainFor_of_name (by first | (simp [plainName, overriddenIn]; done) | decide +kernel)) (own := z1) (nm := "add") rfl rfl (L := #[.val (.ref a), .val (.ref o), .val (.ref r), .val (.int 2)]) (fun m => by first | (simp [entryFrame, mkF, argsToLocals, Value.category]; done) | rfl) ?_
 intro pp ee ss mm bb mtd cc T0 K X0
 have E0 := X0.ext0
 refine o_iloadN K X0 d16_0 rfl rfl ?_
 refine o_aloadN K X0 d16_1 rfl rfl rfl ?_
 refine o_arraylength K X0 q5 (z := 10) rfl d16_2 rfl ?_
 refine o_icmp_ne_t K X0 d16_3 (by decide) (pc' := 11) (by decide) (by decide) ?_
 refine o_aloadN K X0 d16_11 rfl rfl rfl ?_
 refine o_iloadN K X0 d16_12 rfl rfl ?_
 refine o_aloadN K X0 d16_13 rfl rfl rfl ?_
 refine o_aastore K X0 rfl q5 (by decide) (show (2 : Int32).toNatClampNeg < 10 from (by decide)) q6 (oSto q5 q7 (Ins.of_exa q9 (w96 hw))) rfl d16_14 rfl ?_
 intro T1 h1 X1 W1 A1
 replace A1 : oArr Z h1 r k (.object z3) [.ref o0, .ref o1, .ref o, .null, .null, .null, .null, .null, .null, .null] := A1
 refine o_aloadN K X1 d16_15 rfl rfl rfl ?_
 refine o_iloadN K X1 d16_16 rfl rfl ?_
 refine o_iconst K X1 d16_17 rfl (z := 1) rfl ?_
 refine o_iadd K X1 d16_18 rfl (z := 3) (by decide) ?_
 have m3 := (Fld.other W1 q3 (Or.inl (Ne.symm q8)))
 have m4 := (Exa.wr W1 q0)
 refine o_putfield K X1 (host := "") (Or.inl (w73 hw)) Via.refl m3 m4 (Or.inl (w74 hw)) (w9 hw) (ty := .int) (by decide) rfl rfl q4 d16_19 rfl ?_
 intro T2 h2 X2 W2
 have F2 := Fld.same W2 m3
 refine o_return K X2 d16_22 rfl ?_ (by decide) (by decide)
 have m5 := (A1.other W2 q8)
 have m6 := (Exa.wr W2 m4)
 have m7 := (Fld.other W2 (Fld.other W1 q1 (Or.inl (Ne.symm q8))) (Or.inr (slot_ne (Or.inl (w30 hw)) (Or.inl (w74 hw)) (by decide) (t := .int) (t' := .int) (by decide) (by decide))))
 have m8 := (Fld.other W2 (Fld.other W1 q2 (Or.inl (Ne.symm q8))) (Or.inr (slot_ne (Or.inl (w33 hw)) (Or.inl (w74 hw)) (by decide) (t := (.array (.object z3))) (t' := .int) (by decide) (by decide))))
 exact ⟨rfl, (((Keep.refl h0 [a, r]).wr W1 (Or.inl me1)).wr W2 (Or.inl me0)), m5, m6, m7, m8, F2⟩
def r_addj1_2 : Room := { frames := 1, cells := 0, slots := 0, locals := 15 }
def Q_addj1_2 (Z : State) (a : Addr) (mc : Int32) (r : Addr) (k : ClassId) (o o0 o1 : Addr) (h0 : Heap) (v : Option Value) (h : Heap) : Prop := v = some (.int 1) ∧ Keep h0 h [a, r] ∧ oArr Z h r k (.object z3) [.ref o0, .ref o1, .ref o, .null, .null, .null, .null, .null, .null, .null] ∧ Exa Z h a z1 ∧ Fld Z h a z13 "modCount" "I" (.int (mc + (1 : Int32))) ∧ Fld Z h a z1 z14 z5 (.ref r) ∧ Fld Z h a z1 "size" "I" (.int 3)
theorem rm_addj1_2 (l : Launch) (Z : State) (a0 : Array Value) (hw : oHw Z a0) (a : Addr) (mc : Int32) (r : Addr) (k : ClassId) (o o0 o1 : Addr) (h0 : Heap) (q0 : Exa Z h0 a z1) (q1 : Fld Z h0 a z13 "modCount" "I" (.int mc)) (q2 : Fld Z h0 a z1 z14 z5 (.ref r)) (q3 : Fld Z h0 a z1 "size" "I" (.int 2)) (q4 : Z.heap.size ≤ a) (q5 : oArr Z h0 r k (.object z3) [.ref o0, .ref o1, .null, .null, .null, .null, .null, .null, .null, .null]) (q6 : Z.heap.size ≤ r) (q7 : Ovr Z k z3) (q8 : r ≠ a) (q9 : Exa Z h0 o z0) : oMet l Z (⟨z1, "add", "(Ljava/lang/Object;)Z"⟩ : MethodName) jdk_38_method_25_code 2 (some .boolean) r_addj1_2 [] #[.ref a, .ref o] h0 (Q_addj1_2 Z a mc r k o o0 o1 h0) := by
 refine oEnter (plainFor_of_name (by first | (simp [plainName, overriddenIn]; done) | decide +kernel)) (own := z1) (nm := "add") rfl rfl (L := #[.val (.ref a), .val (.ref o)]) (fun m => by first | (simp [entryFrame, mkF, argsToLocals, Value.category]; done) | rfl) ?_
 intro pp ee ss mm bb mtd cc T0 K X0
 have E0 := X0.ext0
 refine o_aloadN K X0 d17_0 rfl rfl rfl ?_
 refine o_dup K X0 d17_1 rfl rfl ?_
 refine o_getfield K X0 (host := "") (Or.inl (w71 hw)) (Via.of (w72 hw)) q1 d17_2 rfl ?_
 intro T1 X1
 refine o_iconst K X1 d17_5 rfl (z := 1) rfl ?_
 refine o_iadd K X1 d17_6 rfl (z := (mc + (1 : Int32))) rfl ?_
 refine o_putfield K X1 (host := "") (Or.inl (w71 hw)) (Via.of (w72 hw)) q1 q0 (Or.inl (w30 hw)) (w9 hw) (ty := .int) (by decide) rfl rfl q4 d17_7 rfl ?_
 intro T2 h2 X2 W2
 have F2 := Fld.same W2 q1
 refine o_aloadN K X2 d17_10 rfl rfl rfl ?_
 refine o_aloadN K X2 d17_11 rfl rfl rfl ?_
 refine o_aloadN K X2 d17_12 rfl rfl rfl ?_
 have m4 := (Fld.other W2 q2 (Or.inr (slot_ne (Or.inl (w33 hw)) (Or.inl (w30 hw)) (by decide) (t := (.array (.object z3))) (t' := .int) (by decide) (by decide))))
 refine o_getfield K X2 (host := "") (Or.inl (w32 hw)) Via.refl m4 d17_13 rfl ?_
 intro T3 X3
 refine o_aloadN K X3 d17_16 rfl rfl rfl ?_
 have m6 := (Fld.other W2 q3 (Or.inr (slot_ne (Or.inl (w74 hw)) (Or.inl (w30 hw)) (by decide) (t := .int) (t' := .int) (by decide) (by decide))))
 refine o_getfield K X3 (host := "") (Or.inl (w73 hw)) Via.refl m6 d17_17 rfl ?_
 intro T5 X5
 have m7 := (Exa.wr W2 q0)
 have m8 := (q5.other W2 q8)
 have m9 := (Exa.wr W2 q9)
 refine o_private K X5 (y := (⟨z1, "add", z23⟩ : MethodName)) (w75 hw) (w76 hw) (w78 hw) (w77 hw) (w10 hw) (w79 hw) (by decide) m7 (rm_addj3_2 l Z a0 hw a (mc + (1 : Int32)) r k o o0 o1 h2 m7 F2 m4 m6 q4 m8 q6 q7 q8 m9) (by decide) rfl (argsL := [.ref o, .ref r, .int 2]) rfl (lenOf pd11 rfl) (W := 0) rfl (by decide) (by decide) (by decide) d17_20 rfl ?_
 intro v10 T10 h10 X10 U10
 obtain ⟨rfl, u10_0, u10_1, u10_2, u10_3, u10_4, u10_5⟩ := U10
 show oGoes pp ee bb ss Z T10 (mkF mm 23 _ []) _ _ _
 refine o_iconst K X10 d17_23 rfl (z := 1) rfl ?_
 refine o_ireturnN K X10 .boolean d17_24 rfl (by simp) (z' := 1) (by decide) ?_ (by decide) (by decide)
 exact ⟨rfl, (((Keep.refl h0 [a, r]).wr W2 (Or.inl me0)).trans u10_0 (allS (Or.inl me0) (allS (Or.inl me1) all0))), u10_1, u10_2, u10_3, u10_4, u10_5⟩
theorem d19_0 : decode method_3_code 0 = .ok (.new 14, 3) := by decide +kernel
theorem d19_3 : decode method_3_code 3 = .ok (.dup, 1) := by decide +kernel
theorem d19_4 : decode method_3_code 4 = .ok (.invokespecial 16, 3) := by decide +kernel
theorem d19_7 : decode method_3_code 7 = .ok (.astore 5, 2) := by decide +kernel
theorem d19_9 : decode method_3_code 9 = .ok (.aload 5, 2) := by decide +kernel
theorem d19_11 : decode method_3_code 11 = .ok (.iload_n 0, 1) := by decide +kernel
theorem d19_12 : decode method_3_code 12 = .ok (.lload_n 2, 1) := by decide +kernel
theorem d19_13 : decode method_3_code 13 = .ok (.iload 4, 2) := by decide +kernel
theorem d19_15 : decode method_3_code 15 = .ok (.invokestatic 17, 3) := by decide +kernel
theorem d19_18 : decode method_3_code 18 = .ok (.invokevirtual 23, 3) := by decide +kernel
theorem d19_21 : decode method_3_code 21 = .ok (.pop, 1) := by decide +kernel
theorem d19_22 : decode method_3_code 22 = .ok (.iload_n 1, 1) := by decide +kernel
theorem d19_23 : decode method_3_code 23 = .ok (.iconst 1, 1) := by decide +kernel
theorem d19_24 : decode method_3_code 24 = .ok (.if_icmp .le 21, 3) := by decide +kernel
theorem d19_45 : decode method_3_code 45 = .ok (.iload_n 1, 1) := by decide +kernel
theorem d19_46 : decode method_3_code 46 = .ok (.iconst 2, 1) := by decide +kernel
theorem d19_47 : decode method_3_code 47 = .ok (.if_icmp .le 21, 3) := by decide +kernel
theorem d19_68 : decode method_3_code 68 = .ok (.aload 5, 2) := by decide +kernel
theorem d19_70 : decode method_3_code 70 = .ok (.areturn, 1) := by decide +kernel
theorem pd13 : parseMethodDescriptor "(CJI)Ljava/lang/String;" = some ⟨[.char, .long, .int], some (.object z0)⟩ := by decide +kernel
theorem pd14 : parseMethodDescriptor "(Ljava/lang/Object;)Z" = some ⟨[(.object z3)], some .boolean⟩ := by decide +kernel
def r_fields97_1 : Room := { frames := 5, cells := 5, slots := 21, locals := 82 }
def Q_fields97_1 (Z : State) (d : Int64) (cs : Int32) (dce : Addr) (kd : ClassId) (h0 : Heap) (v : Option Value) (h : Heap) : Prop := ∃ l r : Addr, ∃ kr : ClassId, ∃ m : Int32, ∃ s0 vz0 : Addr, ∃ kz0 : ClassId, v = some (.ref l) ∧ Keep h0 h [] ∧ h0.size ≤ l ∧ Exa Z h l z1 ∧ Fld Z h l z1 z14 z5 (.ref r) ∧ Fld Z h l z1 "size" "I" (.int 1) ∧ Fld Z h l z13 "modCount" "I" (.int m) ∧ h0.size ≤ r ∧ oArr Z h r kr (.object z3) [.ref s0, .null, .null, .null, .null, .null, .null, .null, .null, .null] ∧ Exa Z h r z5 ∧ Ovr Z kr z3 ∧ h0.size ≤ s0 ∧ Exa Z h s0 z0 ∧ Fld Z h s0 z0 "value" "[B" (.ref vz0) ∧ Fld Z h s0 z0 "coder" "B" (.int 0) ∧ oArr Z h vz0 kz0 .byte [(.int (nar .byte (97 : Int32))), (.int (nar .byte (oFx d (0 : Int32))))]
theorem rm_fields97_1 (l : Launch) (Z : State) (a0 : Array Value) (hw : oHw Z a0) (d : Int64) (cs : Int32) (dce : Addr) (kd : ClassId) (h0 : Heap) (q0 : Sta Z Z.heap z0 "COMPACT_STRINGS" "Z" (.int cs)) (q1 : ¬ (cs = (0 : Int32))) (q2 : Sta Z Z.heap z1 z22 z5 (.ref dce)) (q3 : oArr Z Z.heap dce kd (.object z3) []) : oMet l Z (⟨z12, "fields", "(CIJI)Ljava/util/ArrayList;"⟩ : MethodName) method_3_code 6 (some (.object z1)) r_fields97_1 [] #[.int 97, .int 1, (.long d), .int 0] h0 (Q_fields97_1 Z d cs dce kd h0) := by
 refine oEnter (plainFor_of_name (by first | (simp [plainName, overriddenIn]; done) | decide +kernel)) (own := z12) (nm := "fields") rfl rfl (L := #[.val (.int 97), .val (.int 1), .val (.long d), .second, .val (.int 0), .unset]) (fun m => by first | (simp [entryFrame, mkF, argsToLocals, Value.category]; done) | rfl) ?_
 intro pp ee ss mm bb mtd cc T0 K X0
 have E0 := X0.ext0
 refine o_new K X0 (w8 hw) (w9 hw) (w10 hw) d19_0 rfl (by decide) (by decide) ?_
 intro T1 h1 b1 X1 g1 E1 A1 D1 G1
 have F1_modCount : Fld Z h1 b1 z13 "modCount" "I" (.int 0) := (D1 (Or.inl (w30 hw)) (ty := .int) (by decide))
 have F1_elementData : Fld Z h1 b1 z1 z14 z5 .null := (D1 (Or.inl (w33 hw)) (ty := (.array (.object z3))) (by decide))
 have F1_size : Fld Z h1 b1 z1 "size" "I" (.int 0) := (D1 (Or.inl (w74 hw)) (ty := .int) (by decide))
 refine o_dup K X1 d19_3 rfl rfl ?_
 refine o_special K X1 (y := (⟨z1, "<init>", "()V"⟩ : MethodName)) rfl (w11 hw) (w12 hw) (w10 hw) (w13 hw) (by decide) (rm_al l Z a0 hw b1 dce h1 A1 F1_modCount F1_elementData G1 F1_size q2) (by decide) rfl (argsL := []) rfl (lenOf pd7 rfl) (W := 1) rfl (by decide) (by decide) (by decide) d19_4 rfl ?_
 intro v2 T2 h2 X2 U2
 obtain ⟨rfl, u2_0, u2_1, u2_2, u2_3, u2_4⟩ := U2
 show oGoes pp ee bb ss Z T2 (mkF mm 7 _ [.ref b1]) _ _ _
 refine o_astore K X2 d19_7 rfl rfl (L' := #[vI 97, vI 1, vJ d, sS, vI 0, vR b1]) rfl ?_
 refine o_aload K X2 d19_9 rfl rfl rfl ?_
 refine o_iloadN K X2 d19_11 rfl rfl ?_
 refine o_lloadN K X2 d19_12 rfl rfl ?_
 refine o_iload K X2 d19_13 rfl rfl ?_
 refine o_static K X2  (w34 hw) (w35 hw) (w6 hw) (w36 hw) (by decide) (rm_field l Z a0 hw 97 d 0 cs h2 (by decide) (by decide) q0 q1) (by decide) rfl (argsL := [.int 97, (.long d), .int 0]) rfl (lenOf pd13 rfl) (W := 1) rfl (by decide) (by decide) (by decide) d19_15 rfl ?_
 intro v3 T3 h3 X3 U3
 obtain ⟨s_3, sv_3, kv_3, rfl, u3_0, u3_1, u3_2, u3_3, u3_4, u3_5, u3_6⟩ := U3
 have G3_s : Z.heap.size ≤ s_3 := Nat.le_trans X2.ext0.1 u3_1
 have G3_sv : Z.heap.size ≤ sv_3 := Nat.le_trans X2.ext0.1 u3_2
 show oGoes pp ee bb ss Z T3 (mkF mm 18 _ [.ref s_3, .ref b1]) _ _ _
 have m4 := (u2_1.keep u3_0)
 have m5 := (u2_2.keep u3_0 nin0)
 have m6 := (u2_3.keep u3_0 nin0)
 have m7 := (u2_4.keep u3_0 nin0)
 refine o_virtual K X3   (w66 hw) (w67 hw) (oNF (w69 hw)) (w69 hw) (w68 hw) (w10 hw) (w70 hw) (by decide) m4 (rm_add1 l Z a0 hw b1 0 s_3 dce kd h3 m4 m5 m6 m7 G1 q2 q3 u3_3) (by decide) rfl (argsL := [.ref s_3]) rfl (lenOf pd14 rfl) (W := 0) rfl (by decide) (by decide) (by decide) d19_18 rfl ?_
 intro v8 T8 h8 X8 U8
 obtain ⟨r_8, k_8, rfl, u8_0, u8_1, u8_2, u8_3, u8_4, u8_5, u8_6, u8_7, u8_8⟩ := U8
 have G8_r : Z.heap.size ≤ r_8 := Nat.le_trans X3.ext0.1 u8_1
 show oGoes pp ee bb ss Z T8 (mkF mm 21 _ [.int 1]) _ _ _
 refine o_pop K X8 d19_21 rfl rfl ?_
 refine o_iloadN K X8 d19_22 rfl rfl ?_
 refine o_iconst K X8 d19_23 rfl (z := 1) rfl ?_
 refine o_icmp_le_t K X8 d19_24 (by decide) (pc' := 45) (by decide) (by decide) ?_
 refine o_iloadN K X8 d19_45 rfl rfl ?_
 refine o_iconst K X8 d19_46 rfl (z := 2) rfl ?_
 refine o_icmp_le_t K X8 d19_47 (by decide) (pc' := 68) (by decide) (by decide) ?_
 refine o_aload K X8 d19_68 rfl rfl rfl ?_
 refine o_areturn K X8 (t := (.object z1)) d19_70 rfl rfl rfl ?_ (by decide) (by decide)
 have y0_3 := Nat.le_trans (Nat.le_trans E1.1 u2_0.1) u3_0.1
 have m9 := (u3_3.keep u8_0)
 have n10 := oLsn A1.lt u2_0.1 u3_1
 have m11 := (u3_4.keep u8_0 (ninS n10 nin0))
 have m12 := (u3_5.keep u8_0 (ninS n10 nin0))
 have n13 := oLsn A1.lt u2_0.1 u3_2
 have m14 := (u3_6.keep u8_0 (ninS n13 nin0))
 exact ⟨b1, r_8, k_8, ((0 : Int32) + (1 : Int32)), s_3, sv_3, kv_3, rfl, (((((Keep.refl h0 []).ext E1).trans u2_0 (allS (Or.inr (oLe g1)) all0)).trans u3_0 all0).trans u8_0 (allS (Or.inr (oLe g1)) all0)), (oLe g1), u8_5, u8_7, u8_8, u8_6, (Nat.le_trans y0_3 u8_1), u8_2, u8_4, u8_3, (Nat.le_trans (Nat.le_trans E1.1 u2_0.1) u3_1), m9, m11, m12, m14⟩
theorem d19_27 : decode method_3_code 27 = .ok (.aload 5, 2) := by decide +kernel
theorem d19_29 : decode method_3_code 29 = .ok (.iload_n 0, 1) := by decide +kernel
theorem d19_30 : decode method_3_code 30 = .ok (.iconst 1, 1) := by decide +kernel
theorem d19_31 : decode method_3_code 31 = .ok (.iadd, 1) := by decide +kernel
theorem d19_32 : decode method_3_code 32 = .ok (.i2c, 1) := by decide +kernel
theorem d19_33 : decode method_3_code 33 = .ok (.lload_n 2, 1) := by decide +kernel
theorem d19_34 : decode method_3_code 34 = .ok (.iload 4, 2) := by decide +kernel
theorem d19_36 : decode method_3_code 36 = .ok (.iconst 1, 1) := by decide +kernel
theorem d19_37 : decode method_3_code 37 = .ok (.iadd, 1) := by decide +kernel
theorem d19_38 : decode method_3_code 38 = .ok (.invokestatic 17, 3) := by decide +kernel
theorem d19_41 : decode method_3_code 41 = .ok (.invokevirtual 23, 3) := by decide +kernel
theorem d19_44 : decode method_3_code 44 = .ok (.pop, 1) := by decide +kernel
def r_fields97_2 : Room := { frames := 5, cells := 8, slots := 29, locals := 82 }
def Q_fields97_2 (Z : State) (d : Int64) (cs : Int32) (dce : Addr) (kd : ClassId) (h0 : Heap) (v : Option Value) (h : Heap) : Prop := ∃ l r : Addr, ∃ kr : ClassId, ∃ m : Int32, ∃ s0 vz0 : Addr, ∃ kz0 : ClassId, ∃ s1 vz1 : Addr, ∃ kz1 : ClassId, v = some (.ref l) ∧ Keep h0 h [] ∧ h0.size ≤ l ∧ Exa Z h l z1 ∧ Fld Z h l z1 z14 z5 (.ref r) ∧ Fld Z h l z1 "size" "I" (.int 2) ∧ Fld Z h l z13 "modCount" "I" (.int m) ∧ h0.size ≤ r ∧ oArr Z h r kr (.object z3) [.ref s0, .ref s1, .null, .null, .null, .null, .null, .null, .null, .null] ∧ Exa Z h r z5 ∧ Ovr Z kr z3 ∧ h0.size ≤ s0 ∧ h0.size ≤ s1 ∧ Exa Z h s0 z0 ∧ Fld Z h s0 z0 "value" "[B" (.ref vz0) ∧ Fld Z h s0 z0 "coder" "B" (.int 0) ∧ oArr Z h vz0 kz0 .byte [(.int (nar .byte (97 : Int32))), (.int (nar .byte (oFx d (0 : Int32))))] ∧ Exa Z h s1 z0 ∧ Fld Z h s1 z0 "value" "[B" (.ref vz1) ∧ Fld Z h s1 z0 "coder" "B" (.int 0) ∧ oArr Z h vz1 kz1 .byte [(.int (nar .byte (98 : Int32))), (.int (nar .byte (oFx d (1 : Int32))))]
theorem rm_fields97_2 (l : Launch) (Z : State) (a0 : Array Value) (hw : oHw Z a0) (d : Int64) (cs : Int32) (dce : Addr) (kd : ClassId) (h0 : Heap) (q0 : Sta Z Z.heap z0 "COMPACT_STRINGS" "Z" (.int cs)) (q1 : ¬ (cs = (0 : Int32))) (q2 : Sta Z Z.heap z1 z22 z5 (.ref dce)) (q3 : oArr Z Z.heap dce kd (.object z3) []) : oMet l Z (⟨z12, "fields", "(CIJI)Ljava/util/ArrayList;"⟩ : MethodName) method_3_code 6 (some (.object z1)) r_fields97_2 [] #[.int 97, .int 2, (.long d), .int 0] h0 (Q_fields97_2 Z d cs dce kd h0) := by
 refine oEnter (plainFor_of_name (by first | (simp [plainName, overriddenIn]; done) | decide +kernel)) (own := z12) (nm := "fields") rfl rfl (L := #[.val (.int 97), .val (.int 2), .val (.long d), .second, .val (.int 0), .unset]) (fun m => by first | (simp [entryFrame, mkF, argsToLocals, Value.category]; done) | rfl) ?_
 intro pp ee ss mm bb mtd cc T0 K X0
 have E0 := X0.ext0
 refine o_new K X0 (w8 hw) (w9 hw) (w10 hw) d19_0 rfl (by decide) (by decide) ?_
 intro T1 h1 b1 X1 g1 E1 A1 D1 G1
 have F1_modCount : Fld Z h1 b1 z13 "modCount" "I" (.int 0) := (D1 (Or.inl (w30 hw)) (ty := .int) (by decide))
 have F1_elementData : Fld Z h1 b1 z1 z14 z5 .null := (D1 (Or.inl (w33 hw)) (ty := (.array (.object z3))) (by decide))
 have F1_size : Fld Z h1 b1 z1 "size" "I" (.int 0) := (D1 (Or.inl (w74 hw)) (ty := .int) (by decide))
 refine o_dup K X1 d19_3 rfl rfl ?_
 refine o_special K X1 (y := (⟨z1, "<init>", "()V"⟩ : MethodName)) rfl (w11 hw) (w12 hw) (w10 hw) (w13 hw) (by decide) (rm_al l Z a0 hw b1 dce h1 A1 F1_modCount F1_elementData G1 F1_size q2) (by decide) rfl (argsL := []) rfl (lenOf pd7 rfl) (W := 1) rfl (by decide) (by decide) (by decide) d19_4 rfl ?_
 intro v2 T2 h2 X2 U2
 obtain ⟨rfl, u2_0, u2_1, u2_2, u2_3, u2_4⟩ := U2
 show oGoes pp ee bb ss Z T2 (mkF mm 7 _ [.ref b1]) _ _ _
 refine o_astore K X2 d19_7 rfl rfl (L' := #[vI 97, vI 2, vJ d, sS, vI 0, vR b1]) rfl ?_
 refine o_aload K X2 d19_9 rfl rfl rfl ?_
 refine o_iloadN K X2 d19_11 rfl rfl ?_
 refine o_lloadN K X2 d19_12 rfl rfl ?_
 refine o_iload K X2 d19_13 rfl rfl ?_
 refine o_static K X2  (w34 hw) (w35 hw) (w6 hw) (w36 hw) (by decide) (rm_field l Z a0 hw 97 d 0 cs h2 (by decide) (by decide) q0 q1) (by decide) rfl (argsL := [.int 97, (.long d), .int 0]) rfl (lenOf pd13 rfl) (W := 1) rfl (by decide) (by decide) (by decide) d19_15 rfl ?_
 intro v3 T3 h3 X3 U3
 obtain ⟨s_3, sv_3, kv_3, rfl, u3_0, u3_1, u3_2, u3_3, u3_4, u3_5, u3_6⟩ := U3
 have G3_s : Z.heap.size ≤ s_3 := Nat.le_trans X2.ext0.1 u3_1
 have G3_sv : Z.heap.size ≤ sv_3 := Nat.le_trans X2.ext0.1 u3_2
 show oGoes pp ee bb ss Z T3 (mkF mm 18 _ [.ref s_3, .ref b1]) _ _ _
 have m4 := (u2_1.keep u3_0)
 have m5 := (u2_2.keep u3_0 nin0)
 have m6 := (u2_3.keep u3_0 nin0)
 have m7 := (u2_4.keep u3_0 nin0)
 refine o_virtual K X3   (w66 hw) (w67 hw) (oNF (w69 hw)) (w69 hw) (w68 hw) (w10 hw) (w70 hw) (by decide) m4 (rm_add1 l Z a0 hw b1 0 s_3 dce kd h3 m4 m5 m6 m7 G1 q2 q3 u3_3) (by decide) rfl (argsL := [.ref s_3]) rfl (lenOf pd14 rfl) (W := 0) rfl (by decide) (by decide) (by decide) d19_18 rfl ?_
 intro v8 T8 h8 X8 U8
 obtain ⟨r_8, k_8, rfl, u8_0, u8_1, u8_2, u8_3, u8_4, u8_5, u8_6, u8_7, u8_8⟩ := U8
 have G8_r : Z.heap.size ≤ r_8 := Nat.le_trans X3.ext0.1 u8_1
 show oGoes pp ee bb ss Z T8 (mkF mm 21 _ [.int 1]) _ _ _
 refine o_pop K X8 d19_21 rfl rfl ?_
 refine o_iloadN K X8 d19_22 rfl rfl ?_
 refine o_iconst K X8 d19_23 rfl (z := 1) rfl ?_
 refine o_icmp_le_f K X8 d19_24 rfl (by decide) ?_
 refine o_aload K X8 d19_27 rfl rfl rfl ?_
 refine o_iloadN K X8 d19_29 rfl rfl ?_
 refine o_iconst K X8 d19_30 rfl (z := 1) rfl ?_
 refine o_iadd K X8 d19_31 rfl (z := 98) (by decide) ?_
 refine o_i2c K X8 d19_32 rfl (z := 98) (by decide) ?_
 refine o_lloadN K X8 d19_33 rfl rfl ?_
 refine o_iload K X8 d19_34 rfl rfl ?_
 refine o_iconst K X8 d19_36 rfl (z := 1) rfl ?_
 refine o_iadd K X8 d19_37 rfl (z := 1) (by decide) ?_
 refine o_static K X8  (w34 hw) (w35 hw) (w6 hw) (w36 hw) (by decide) (rm_field l Z a0 hw 98 d 1 cs h8 (by decide) (by decide) q0 q1) (by decide) rfl (argsL := [.int 98, (.long d), .int 1]) rfl (lenOf pd13 rfl) (W := 1) rfl (by decide) (by decide) (by decide) d19_38 rfl ?_
 intro v9 T9 h9 X9 U9
 obtain ⟨s_9, sv_9, kv_9, rfl, u9_0, u9_1, u9_2, u9_3, u9_4, u9_5, u9_6⟩ := U9
 have G9_s : Z.heap.size ≤ s_9 := Nat.le_trans X8.ext0.1 u9_1
 have G9_sv : Z.heap.size ≤ sv_9 := Nat.le_trans X8.ext0.1 u9_2
 show oGoes pp ee bb ss Z T9 (mkF mm 41 _ [.ref s_9, .ref b1]) _ _ _
 have m10 := (u8_5.keep u9_0)
 have m11 := (u8_6.keep u9_0 nin0)
 have m12 := (u8_7.keep u9_0 nin0)
 have m13 := (u8_8.keep u9_0 nin0)
 have m14 := (u8_2.keep u9_0 nin0)
 have n15 := oLsn A1.lt (Nat.le_trans u2_0.1 u3_0.1) u8_1
 refine o_virtual K X9   (w66 hw) (w67 hw) (oNF (w69 hw)) (w69 hw) (w68 hw) (w10 hw) (w70 hw) (by decide) m10 (rm_addj1_1 l Z a0 hw b1 ((0 : Int32) + (1 : Int32)) r_8 k_8 s_9 s_3 h9 m10 m11 m12 m13 G1 m14 G8_r u8_3 n15 u9_3) (by decide) rfl (argsL := [.ref s_9]) rfl (lenOf pd14 rfl) (W := 0) rfl (by decide) (by decide) (by decide) d19_41 rfl ?_
 intro v16 T16 h16 X16 U16
 obtain ⟨rfl, u16_0, u16_1, u16_2, u16_3, u16_4, u16_5⟩ := U16
 show oGoes pp ee bb ss Z T16 (mkF mm 44 _ [.int 1]) _ _ _
 refine o_pop K X16 d19_44 rfl rfl ?_
 refine o_iloadN K X16 d19_45 rfl rfl ?_
 refine o_iconst K X16 d19_46 rfl (z := 2) rfl ?_
 refine o_icmp_le_t K X16 d19_47 (by decide) (pc' := 68) (by decide) (by decide) ?_
 refine o_aload K X16 d19_68 rfl rfl rfl ?_
 refine o_areturn K X16 (t := (.object z1)) d19_70 rfl rfl rfl ?_ (by decide) (by decide)
 have y0_3 := Nat.le_trans (Nat.le_trans E1.1 u2_0.1) u3_0.1
 have m17 := ((u8_4.keep u9_0).keep u16_0)
 have m18 := (((u3_3.keep u8_0).keep u9_0).keep u16_0)
 have n19 := oLsn A1.lt u2_0.1 u3_1
 have n20 := oLz u3_3.lt u8_1
 have m21 := (((u3_4.keep u8_0 (ninS n19 nin0)).keep u9_0 nin0).keep u16_0 (ninS n19 (ninS n20 nin0)))
 have m22 := (((u3_5.keep u8_0 (ninS n19 nin0)).keep u9_0 nin0).keep u16_0 (ninS n19 (ninS n20 nin0)))
 have n23 := oLsn A1.lt u2_0.1 u3_2
 have n24 := oLz u3_6.lt u8_1
 have m25 := (((u3_6.keep u8_0 (ninS n23 nin0)).keep u9_0 nin0).keep u16_0 (ninS n23 (ninS n24 nin0)))
 have m26 := (u9_3.keep u16_0)
 have n27 := oLsz u8_2.lt u9_1
 have y1_4 := Nat.le_trans (Nat.le_trans u2_0.1 u3_0.1) u8_0.1
 have n28 := oLsn A1.lt y1_4 u9_1
 have m29 := (u9_4.keep u16_0 (ninS n28 (ninS n27 nin0)))
 have m30 := (u9_5.keep u16_0 (ninS n28 (ninS n27 nin0)))
 have n31 := oLsz u8_2.lt u9_2
 have n32 := oLsn A1.lt y1_4 u9_2
 have m33 := (u9_6.keep u16_0 (ninS n32 (ninS n31 nin0)))
 exact ⟨b1, r_8, k_8, (((0 : Int32) + (1 : Int32)) + (1 : Int32)), s_3, sv_3, kv_3, s_9, sv_9, kv_9, rfl, (((((((Keep.refl h0 []).ext E1).trans u2_0 (allS (Or.inr (oLe g1)) all0)).trans u3_0 all0).trans u8_0 (allS (Or.inr (oLe g1)) all0)).trans u9_0 all0).trans u16_0 (allS (Or.inr (oLe g1)) (allS (Or.inr (Nat.le_trans y0_3 u8_1)) all0))), (oLe g1), u16_2, u16_4, u16_5, u16_3, (Nat.le_trans y0_3 u8_1), u16_1, m17, u8_3, (Nat.le_trans (Nat.le_trans E1.1 u2_0.1) u3_1), (Nat.le_trans (Nat.le_trans y0_3 u8_0.1) u9_1), m18, m21, m22, m25, m26, m29, m30, m33⟩
theorem d19_50 : decode method_3_code 50 = .ok (.aload 5, 2) := by decide +kernel
theorem d19_52 : decode method_3_code 52 = .ok (.iload_n 0, 1) := by decide +kernel
theorem d19_53 : decode method_3_code 53 = .ok (.iconst 2, 1) := by decide +kernel
theorem d19_54 : decode method_3_code 54 = .ok (.iadd, 1) := by decide +kernel
theorem d19_55 : decode method_3_code 55 = .ok (.i2c, 1) := by decide +kernel
theorem d19_56 : decode method_3_code 56 = .ok (.lload_n 2, 1) := by decide +kernel
theorem d19_57 : decode method_3_code 57 = .ok (.iload 4, 2) := by decide +kernel
theorem d19_59 : decode method_3_code 59 = .ok (.iconst 2, 1) := by decide +kernel
theorem d19_60 : decode method_3_code 60 = .ok (.iadd, 1) := by decide +kernel
theorem d19_61 : decode method_3_code 61 = .ok (.invokestatic 17, 3) := by decide +kernel
theorem d19_64 : decode method_3_code 64 = .ok (.invokevirtual 23, 3) := by decide +kernel
theorem d19_67 : decode method_3_code 67 = .ok (.pop, 1) := by decide +kernel
def r_fields97_3 : Room := { frames := 5, cells := 11, slots := 37, locals := 82 }
def Q_fields97_3 (Z : State) (d : Int64) (cs : Int32) (dce : Addr) (kd : ClassId) (h0 : Heap) (v : Option Value) (h : Heap) : Prop := ∃ l r : Addr, ∃ kr : ClassId, ∃ m : Int32, ∃ s0 vz0 : Addr, ∃ kz0 : ClassId, ∃ s1 vz1 : Addr, ∃ kz1 : ClassId, ∃ s2 vz2 : Addr, ∃ kz2 : ClassId, v = some (.ref l) ∧ Keep h0 h [] ∧ h0.size ≤ l ∧ Exa Z h l z1 ∧ Fld Z h l z1 z14 z5 (.ref r) ∧ Fld Z h l z1 "size" "I" (.int 3) ∧ Fld Z h l z13 "modCount" "I" (.int m) ∧ h0.size ≤ r ∧ oArr Z h r kr (.object z3) [.ref s0, .ref s1, .ref s2, .null, .null, .null, .null, .null, .null, .null] ∧ Exa Z h r z5 ∧ Ovr Z kr z3 ∧ h0.size ≤ s0 ∧ h0.size ≤ s1 ∧ h0.size ≤ s2 ∧ Exa Z h s0 z0 ∧ Fld Z h s0 z0 "value" "[B" (.ref vz0) ∧ Fld Z h s0 z0 "coder" "B" (.int 0) ∧ oArr Z h vz0 kz0 .byte [(.int (nar .byte (97 : Int32))), (.int (nar .byte (oFx d (0 : Int32))))] ∧ Exa Z h s1 z0 ∧ Fld Z h s1 z0 "value" "[B" (.ref vz1) ∧ Fld Z h s1 z0 "coder" "B" (.int 0) ∧ oArr Z h vz1 kz1 .byte [(.int (nar .byte (98 : Int32))), (.int (nar .byte (oFx d (1 : Int32))))] ∧ Exa Z h s2 z0 ∧ Fld Z h s2 z0 "value" "[B" (.ref vz2) ∧ Fld Z h s2 z0 "coder" "B" (.int 0) ∧ oArr Z h vz2 kz2 .byte [(.int (nar .byte (99 : Int32))), (.int (nar .byte (oFx d (2 : Int32))))]
theorem rm_fields97_3 (l : Launch) (Z : State) (a0 : Array Value) (hw : oHw Z a0) (d : Int64) (cs : Int32) (dce : Addr) (kd : ClassId) (h0 : Heap) (q0 : Sta Z Z.heap z0 "COMPACT_STRINGS" "Z" (.int cs)) (q1 : ¬ (cs = (0 : Int32))) (q2 : Sta Z Z.heap z1 z22 z5 (.ref dce)) (q3 : oArr Z Z.heap dce kd (.object z3) []) : oMet l Z (⟨z12, "fields", "(CIJI)Ljava/util/ArrayList;"⟩ : MethodName) method_3_code 6 (some (.object z1)) r_fields97_3 [] #[.int 97, .int 3, (.long d), .int 0] h0 (Q_fields97_3 Z d cs dce kd h0) := by
 refine oEnter (plainFor_of_name (by first | (simp [plainName, overriddenIn]; done) | decide +kernel)) (own := z12) (nm := "fields") rfl rfl (L := #[.val (.int 97), .val (.int 3), .val (.long d), .second, .val (.int 0), .unset]) (fun m => by first | (simp [entryFrame, mkF, argsToLocals, Value.category]; done) | rfl) ?_
 intro pp ee ss mm bb mtd cc T0 K X0
 have E0 := X0.ext0
 refine o_new K X0 (w8 hw) (w9 hw) (w10 hw) d19_0 rfl (by decide) (by decide) ?_
 intro T1 h1 b1 X1 g1 E1 A1 D1 G1
 have F1_modCount : Fld Z h1 b1 z13 "modCount" "I" (.int 0) := (D1 (Or.inl (w30 hw)) (ty := .int) (by decide))
 have F1_elementData : Fld Z h1 b1 z1 z14 z5 .null := (D1 (Or.inl (w33 hw)) (ty := (.array (.object z3))) (by decide))
 have F1_size : Fld Z h1 b1 z1 "size" "I" (.int 0) := (D1 (Or.inl (w74 hw)) (ty := .int) (by decide))
 refine o_dup K X1 d19_3 rfl rfl ?_
 refine o_special K X1 (y := (⟨z1, "<init>", "()V"⟩ : MethodName)) rfl (w11 hw) (w12 hw) (w10 hw) (w13 hw) (by decide) (rm_al l Z a0 hw b1 dce h1 A1 F1_modCount F1_elementData G1 F1_size q2) (by decide) rfl (argsL := []) rfl (lenOf pd7 rfl) (W := 1) rfl (by decide) (by decide) (by decide) d19_4 rfl ?_
 intro v2 T2 h2 X2 U2
 obtain ⟨rfl, u2_0, u2_1, u2_2, u2_3, u2_4⟩ := U2
 show oGoes pp ee bb ss Z T2 (mkF mm 7 _ [.ref b1]) _ _ _
 refine o_astore K X2 d19_7 rfl rfl (L' := #[vI 97, vI 3, vJ d, sS, vI 0, vR b1]) rfl ?_
 refine o_aload K X2 d19_9 rfl rfl rfl ?_
 refine o_iloadN K X2 d19_11 rfl rfl ?_
 refine o_lloadN K X2 d19_12 rfl rfl ?_
 refine o_iload K X2 d19_13 rfl rfl ?_
 refine o_static K X2  (w34 hw) (w35 hw) (w6 hw) (w36 hw) (by decide) (rm_field l Z a0 hw 97 d 0 cs h2 (by decide) (by decide) q0 q1) (by decide) rfl (argsL := [.int 97, (.long d), .int 0]) rfl (lenOf pd13 rfl) (W := 1) rfl (by decide) (by decide) (by decide) d19_15 rfl ?_
 intro v3 T3 h3 X3 U3
 obtain ⟨s_3, sv_3, kv_3, rfl, u3_0, u3_1, u3_2, u3_3, u3_4, u3_5, u3_6⟩ := U3
 have G3_s : Z.heap.size ≤ s_3 := Nat.le_trans X2.ext0.1 u3_1
 have G3_sv : Z.heap.size ≤ sv_3 := Nat.le_trans X2.ext0.1 u3_2
 show oGoes pp ee bb ss Z T3 (mkF mm 18 _ [.ref s_3, .ref b1]) _ _ _
 have m4 := (u2_1.keep u3_0)
 have m5 := (u2_2.keep u3_0 nin0)
 have m6 := (u2_3.keep u3_0 nin0)
 have m7 := (u2_4.keep u3_0 nin0)
 refine o_virtual K X3   (w66 hw) (w67 hw) (oNF (w69 hw)) (w69 hw) (w68 hw) (w10 hw) (w70 hw) (by decide) m4 (rm_add1 l Z a0 hw b1 0 s_3 dce kd h3 m4 m5 m6 m7 G1 q2 q3 u3_3) (by decide) rfl (argsL := [.ref s_3]) rfl (lenOf pd14 rfl) (W := 0) rfl (by decide) (by decide) (by decide) d19_18 rfl ?_
 intro v8 T8 h8 X8 U8
 obtain ⟨r_8, k_8, rfl, u8_0, u8_1, u8_2, u8_3, u8_4, u8_5, u8_6, u8_7, u8_8⟩ := U8
 have G8_r : Z.heap.size ≤ r_8 := Nat.le_trans X3.ext0.1 u8_1
 show oGoes pp ee bb ss Z T8 (mkF mm 21 _ [.int 1]) _ _ _
 refine o_pop K X8 d19_21 rfl rfl ?_
 refine o_iloadN K X8 d19_22 rfl rfl ?_
 refine o_iconst K X8 d19_23 rfl (z := 1) rfl ?_
 refine o_icmp_le_f K X8 d19_24 rfl (by decide) ?_
 refine o_aload K X8 d19_27 rfl rfl rfl ?_
 refine o_iloadN K X8 d19_29 rfl rfl ?_
 refine o_iconst K X8 d19_30 rfl (z := 1) rfl ?_
 refine o_iadd K X8 d19_31 rfl (z := 98) (by decide) ?_
 refine o_i2c K X8 d19_32 rfl (z := 98) (by decide) ?_
 refine o_lloadN K X8 d19_33 rfl rfl ?_
 refine o_iload K X8 d19_34 rfl rfl ?_
 refine o_iconst K X8 d19_36 rfl (z := 1) rfl ?_
 refine o_iadd K X8 d19_37 rfl (z := 1) (by decide) ?_
 refine o_static K X8  (w34 hw) (w35 hw) (w6 hw) (w36 hw) (by decide) (rm_field l Z a0 hw 98 d 1 cs h8 (by decide) (by decide) q0 q1) (by decide) rfl (argsL := [.int 98, (.long d), .int 1]) rfl (lenOf pd13 rfl) (W := 1) rfl (by decide) (by decide) (by decide) d19_38 rfl ?_
 intro v9 T9 h9 X9 U9
 obtain ⟨s_9, sv_9, kv_9, rfl, u9_0, u9_1, u9_2, u9_3, u9_4, u9_5, u9_6⟩ := U9
 have G9_s : Z.heap.size ≤ s_9 := Nat.le_trans X8.ext0.1 u9_1
 have G9_sv : Z.heap.size ≤ sv_9 := Nat.le_trans X8.ext0.1 u9_2
 show oGoes pp ee bb ss Z T9 (mkF mm 41 _ [.ref s_9, .ref b1]) _ _ _
 have m10 := (u8_5.keep u9_0)
 have m11 := (u8_6.keep u9_0 nin0)
 have m12 := (u8_7.keep u9_0 nin0)
 have m13 := (u8_8.keep u9_0 nin0)
 have m14 := (u8_2.keep u9_0 nin0)
 have n15 := oLsn A1.lt (Nat.le_trans u2_0.1 u3_0.1) u8_1
 refine o_virtual K X9   (w66 hw) (w67 hw) (oNF (w69 hw)) (w69 hw) (w68 hw) (w10 hw) (w70 hw) (by decide) m10 (rm_addj1_1 l Z a0 hw b1 ((0 : Int32) + (1 : Int32)) r_8 k_8 s_9 s_3 h9 m10 m11 m12 m13 G1 m14 G8_r u8_3 n15 u9_3) (by decide) rfl (argsL := [.ref s_9]) rfl (lenOf pd14 rfl) (W := 0) rfl (by decide) (by decide) (by decide) d19_41 rfl ?_
 intro v16 T16 h16 X16 U16
 obtain ⟨rfl, u16_0, u16_1, u16_2, u16_3, u16_4, u16_5⟩ := U16
 show oGoes pp ee bb ss Z T16 (mkF mm 44 _ [.int 1]) _ _ _
 refine o_pop K X16 d19_44 rfl rfl ?_
 refine o_iloadN K X16 d19_45 rfl rfl ?_
 refine o_iconst K X16 d19_46 rfl (z := 2) rfl ?_
 refine o_icmp_le_f K X16 d19_47 rfl (by decide) ?_
 refine o_aload K X16 d19_50 rfl rfl rfl ?_
 refine o_iloadN K X16 d19_52 rfl rfl ?_
 refine o_iconst K X16 d19_53 rfl (z := 2) rfl ?_
 refine o_iadd K X16 d19_54 rfl (z := 99) (by decide) ?_
 refine o_i2c K X16 d19_55 rfl (z := 99) (by decide) ?_
 refine o_lloadN K X16 d19_56 rfl rfl ?_
 refine o_iload K X16 d19_57 rfl rfl ?_
 refine o_iconst K X16 d19_59 rfl (z := 2) rfl ?_
 refine o_iadd K X16 d19_60 rfl (z := 2) (by decide) ?_
 refine o_static K X16  (w34 hw) (w35 hw) (w6 hw) (w36 hw) (by decide) (rm_field l Z a0 hw 99 d 2 cs h16 (by decide) (by decide) q0 q1) (by decide) rfl (argsL := [.int 99, (.long d), .int 2]) rfl (lenOf pd13 rfl) (W := 1) rfl (by decide) (by decide) (by decide) d19_61 rfl ?_
 intro v17 T17 h17 X17 U17
 obtain ⟨s_17, sv_17, kv_17, rfl, u17_0, u17_1, u17_2, u17_3, u17_4, u17_5, u17_6⟩ := U17
 have G17_s : Z.heap.size ≤ s_17 := Nat.le_trans X16.ext0.1 u17_1
 have G17_sv : Z.heap.size ≤ sv_17 := Nat.le_trans X16.ext0.1 u17_2
 show oGoes pp ee bb ss Z T17 (mkF mm 64 _ [.ref s_17, .ref b1]) _ _ _
 have m18 := (u16_2.keep u17_0)
 have m19 := (u16_3.keep u17_0 nin0)
 have m20 := (u16_4.keep u17_0 nin0)
 have m21 := (u16_5.keep u17_0 nin0)
 have m22 := (u16_1.keep u17_0 nin0)
 refine o_virtual K X17   (w66 hw) (w67 hw) (oNF (w69 hw)) (w69 hw) (w68 hw) (w10 hw) (w70 hw) (by decide) m18 (rm_addj1_2 l Z a0 hw b1 (((0 : Int32) + (1 : Int32)) + (1 : Int32)) r_8 k_8 s_17 s_3 s_9 h17 m18 m19 m20 m21 G1 m22 G8_r u8_3 n15 u17_3) (by decide) rfl (argsL := [.ref s_17]) rfl (lenOf pd14 rfl) (W := 0) rfl (by decide) (by decide) (by decide) d19_64 rfl ?_
 intro v23 T23 h23 X23 U23
 obtain ⟨rfl, u23_0, u23_1, u23_2, u23_3, u23_4, u23_5⟩ := U23
 show oGoes pp ee bb ss Z T23 (mkF mm 67 _ [.int 1]) _ _ _
 refine o_pop K X23 d19_67 rfl rfl ?_
 refine o_aload K X23 d19_68 rfl rfl rfl ?_
 refine o_areturn K X23 (t := (.object z1)) d19_70 rfl rfl rfl ?_ (by decide) (by decide)
 have y0_3 := Nat.le_trans (Nat.le_trans E1.1 u2_0.1) u3_0.1
 have m24 := ((((u8_4.keep u9_0).keep u16_0).keep u17_0).keep u23_0)
 have y0_6 := Nat.le_trans (Nat.le_trans (Nat.le_trans y0_3 u8_0.1) u9_0.1) u16_0.1
 have m25 := (((((u3_3.keep u8_0).keep u9_0).keep u16_0).keep u17_0).keep u23_0)
 have n26 := oLsn A1.lt u2_0.1 u3_1
 have n27 := oLz u3_3.lt u8_1
 have m28 := (((((u3_4.keep u8_0 (ninS n26 nin0)).keep u9_0 nin0).keep u16_0 (ninS n26 (ninS n27 nin0))).keep u17_0 nin0).keep u23_0 (ninS n26 (ninS n27 nin0)))
 have m29 := (((((u3_5.keep u8_0 (ninS n26 nin0)).keep u9_0 nin0).keep u16_0 (ninS n26 (ninS n27 nin0))).keep u17_0 nin0).keep u23_0 (ninS n26 (ninS n27 nin0)))
 have n30 := oLsn A1.lt u2_0.1 u3_2
 have n31 := oLz u3_6.lt u8_1
 have m32 := (((((u3_6.keep u8_0 (ninS n30 nin0)).keep u9_0 nin0).keep u16_0 (ninS n30 (ninS n31 nin0))).keep u17_0 nin0).keep u23_0 (ninS n30 (ninS n31 nin0)))
 have m33 := (((u9_3.keep u16_0).keep u17_0).keep u23_0)
 have n34 := oLsz u8_2.lt u9_1
 have y1_4 := Nat.le_trans (Nat.le_trans u2_0.1 u3_0.1) u8_0.1
 have n35 := oLsn A1.lt y1_4 u9_1
 have m36 := (((u9_4.keep u16_0 (ninS n35 (ninS n34 nin0))).keep u17_0 nin0).keep u23_0 (ninS n35 (ninS n34 nin0)))
 have m37 := (((u9_5.keep u16_0 (ninS n35 (ninS n34 nin0))).keep u17_0 nin0).keep u23_0 (ninS n35 (ninS n34 nin0)))
 have n38 := oLsz u8_2.lt u9_2
 have n39 := oLsn A1.lt y1_4 u9_2
 have m40 := (((u9_6.keep u16_0 (ninS n39 (ninS n38 nin0))).keep u17_0 nin0).keep u23_0 (ninS n39 (ninS n38 nin0)))
 have m41 := (u17_3.keep u23_0)
 have n42 := oLsn u8_2.lt (Nat.le_trans u9_0.1 u16_0.1) u17_1
 have y1_6 := Nat.le_trans (Nat.le_trans y1_4 u9_0.1) u16_0.1
 have n43 := oLsn A1.lt y1_6 u17_1
 have m44 := (u17_4.keep u23_0 (ninS n43 (ninS n42 nin0)))
 have m45 := (u17_5.keep u23_0 (ninS n43 (ninS n42 nin0)))
 have n46 := oLsn u8_2.lt (Nat.le_trans u9_0.1 u16_0.1) u17_2
 have n47 := oLsn A1.lt y1_6 u17_2
 have m48 := (u17_6.keep u23_0 (ninS n47 (ninS n46 nin0)))
 exact ⟨b1, r_8, k_8, ((((0 : Int32) + (1 : Int32)) + (1 : Int32)) + (1 : Int32)), s_3, sv_3, kv_3, s_9, sv_9, kv_9, s_17, sv_17, kv_17, rfl, (((((((((Keep.refl h0 []).ext E1).trans u2_0 (allS (Or.inr (oLe g1)) all0)).trans u3_0 all0).trans u8_0 (allS (Or.inr (oLe g1)) all0)).trans u9_0 all0).trans u16_0 (allS (Or.inr (oLe g1)) (allS (Or.inr (Nat.le_trans y0_3 u8_1)) all0))).trans u17_0 all0).trans u23_0 (allS (Or.inr (oLe g1)) (allS (Or.inr (Nat.le_trans y0_3 u8_1)) all0))), (oLe g1), u23_2, u23_4, u23_5, u23_3, (Nat.le_trans y0_3 u8_1), u23_1, m24, u8_3, (Nat.le_trans (Nat.le_trans E1.1 u2_0.1) u3_1), (Nat.le_trans (Nat.le_trans y0_3 u8_0.1) u9_1), (Nat.le_trans y0_6 u17_1), m25, m28, m29, m32, m33, m36, m37, m40, m41, m44, m45, m48⟩
def r_fields100_1 : Room := { frames := 5, cells := 5, slots := 21, locals := 82 }
def Q_fields100_1 (Z : State) (d : Int64) (cs : Int32) (dce : Addr) (kd : ClassId) (h0 : Heap) (v : Option Value) (h : Heap) : Prop := ∃ l r : Addr, ∃ kr : ClassId, ∃ m : Int32, ∃ s0 vz0 : Addr, ∃ kz0 : ClassId, v = some (.ref l) ∧ Keep h0 h [] ∧ h0.size ≤ l ∧ Exa Z h l z1 ∧ Fld Z h l z1 z14 z5 (.ref r) ∧ Fld Z h l z1 "size" "I" (.int 1) ∧ Fld Z h l z13 "modCount" "I" (.int m) ∧ h0.size ≤ r ∧ oArr Z h r kr (.object z3) [.ref s0, .null, .null, .null, .null, .null, .null, .null, .null, .null] ∧ Exa Z h r z5 ∧ Ovr Z kr z3 ∧ h0.size ≤ s0 ∧ Exa Z h s0 z0 ∧ Fld Z h s0 z0 "value" "[B" (.ref vz0) ∧ Fld Z h s0 z0 "coder" "B" (.int 0) ∧ oArr Z h vz0 kz0 .byte [(.int (nar .byte (100 : Int32))), (.int (nar .byte (oFx d (3 : Int32))))]
theorem rm_fields100_1 (l : Launch) (Z : State) (a0 : Array Value) (hw : oHw Z a0) (d : Int64) (cs : Int32) (dce : Addr) (kd : ClassId) (h0 : Heap) (q0 : Sta Z Z.heap z0 "COMPACT_STRINGS" "Z" (.int cs)) (q1 : ¬ (cs = (0 : Int32))) (q2 : Sta Z Z.heap z1 z22 z5 (.ref dce)) (q3 : oArr Z Z.heap dce kd (.object z3) []) : oMet l Z (⟨z12, "fields", "(CIJI)Ljava/util/ArrayList;"⟩ : MethodName) method_3_code 6 (some (.object z1)) r_fields100_1 [] #[.int 100, .int 1, (.long d), .int 3] h0 (Q_fields100_1 Z d cs dce kd h0) := by
 refine oEnter (plainFor_of_name (by first | (simp [plainName, overriddenIn]; done) | decide +kernel)) (own := z12) (nm := "fields") rfl rfl (L := #[.val (.int 100), .val (.int 1), .val (.long d), .second, .val (.int 3), .unset]) (fun m => by first | (simp [entryFrame, mkF, argsToLocals, Value.category]; done) | rfl) ?_
 intro pp ee ss mm bb mtd cc T0 K X0
 have E0 := X0.ext0
 refine o_new K X0 (w8 hw) (w9 hw) (w10 hw) d19_0 rfl (by decide) (by decide) ?_
 intro T1 h1 b1 X1 g1 E1 A1 D1 G1
 have F1_modCount : Fld Z h1 b1 z13 "modCount" "I" (.int 0) := (D1 (Or.inl (w30 hw)) (ty := .int) (by decide))
 have F1_elementData : Fld Z h1 b1 z1 z14 z5 .null := (D1 (Or.inl (w33 hw)) (ty := (.array (.object z3))) (by decide))
 have F1_size : Fld Z h1 b1 z1 "size" "I" (.int 0) := (D1 (Or.inl (w74 hw)) (ty := .int) (by decide))
 refine o_dup K X1 d19_3 rfl rfl ?_
 refine o_special K X1 (y := (⟨z1, "<init>", "()V"⟩ : MethodName)) rfl (w11 hw) (w12 hw) (w10 hw) (w13 hw) (by decide) (rm_al l Z a0 hw b1 dce h1 A1 F1_modCount F1_elementData G1 F1_size q2) (by decide) rfl (argsL := []) rfl (lenOf pd7 rfl) (W := 1) rfl (by decide) (by decide) (by decide) d19_4 rfl ?_
 intro v2 T2 h2 X2 U2
 obtain ⟨rfl, u2_0, u2_1, u2_2, u2_3, u2_4⟩ := U2
 show oGoes pp ee bb ss Z T2 (mkF mm 7 _ [.ref b1]) _ _ _
 refine o_astore K X2 d19_7 rfl rfl (L' := #[vI 100, vI 1, vJ d, sS, vI 3, vR b1]) rfl ?_
 refine o_aload K X2 d19_9 rfl rfl rfl ?_
 refine o_iloadN K X2 d19_11 rfl rfl ?_
 refine o_lloadN K X2 d19_12 rfl rfl ?_
 refine o_iload K X2 d19_13 rfl rfl ?_
 refine o_static K X2  (w34 hw) (w35 hw) (w6 hw) (w36 hw) (by decide) (rm_field l Z a0 hw 100 d 3 cs h2 (by decide) (by decide) q0 q1) (by decide) rfl (argsL := [.int 100, (.long d), .int 3]) rfl (lenOf pd13 rfl) (W := 1) rfl (by decide) (by decide) (by decide) d19_15 rfl ?_
 intro v3 T3 h3 X3 U3
 obtain ⟨s_3, sv_3, kv_3, rfl, u3_0, u3_1, u3_2, u3_3, u3_4, u3_5, u3_6⟩ := U3
 have G3_s : Z.heap.size ≤ s_3 := Nat.le_trans X2.ext0.1 u3_1
 have G3_sv : Z.heap.size ≤ sv_3 := Nat.le_trans X2.ext0.1 u3_2
 show oGoes pp ee bb ss Z T3 (mkF mm 18 _ [.ref s_3, .ref b1]) _ _ _
 have m4 := (u2_1.keep u3_0)
 have m5 := (u2_2.keep u3_0 nin0)
 have m6 := (u2_3.keep u3_0 nin0)
 have m7 := (u2_4.keep u3_0 nin0)
 refine o_virtual K X3   (w66 hw) (w67 hw) (oNF (w69 hw)) (w69 hw) (w68 hw) (w10 hw) (w70 hw) (by decide) m4 (rm_add1 l Z a0 hw b1 0 s_3 dce kd h3 m4 m5 m6 m7 G1 q2 q3 u3_3) (by decide) rfl (argsL := [.ref s_3]) rfl (lenOf pd14 rfl) (W := 0) rfl (by decide) (by decide) (by decide) d19_18 rfl ?_
 intro v8 T8 h8 X8 U8
 obtain ⟨r_8, k_8, rfl, u8_0, u8_1, u8_2, u8_3, u8_4, u8_5, u8_6, u8_7, u8_8⟩ := U8
 have G8_r : Z.heap.size ≤ r_8 := Nat.le_trans X3.ext0.1 u8_1
 show oGoes pp ee bb ss Z T8 (mkF mm 21 _ [.int 1]) _ _ _
 refine o_pop K X8 d19_21 rfl rfl ?_
 refine o_iloadN K X8 d19_22 rfl rfl ?_
 refine o_iconst K X8 d19_23 rfl (z := 1) rfl ?_
 refine o_icmp_le_t K X8 d19_24 (by decide) (pc' := 45) (by decide) (by decide) ?_
 refine o_iloadN K X8 d19_45 rfl rfl ?_
 refine o_iconst K X8 d19_46 rfl (z := 2) rfl ?_
 refine o_icmp_le_t K X8 d19_47 (by decide) (pc' := 68) (by decide) (by decide) ?_
 refine o_aload K X8 d19_68 rfl rfl rfl ?_
 refine o_areturn K X8 (t := (.object z1)) d19_70 rfl rfl rfl ?_ (by decide) (by decide)
 have y0_3 := Nat.le_trans (Nat.le_trans E1.1 u2_0.1) u3_0.1
 have m9 := (u3_3.keep u8_0)
 have n10 := oLsn A1.lt u2_0.1 u3_1
 have m11 := (u3_4.keep u8_0 (ninS n10 nin0))
 have m12 := (u3_5.keep u8_0 (ninS n10 nin0))
 have n13 := oLsn A1.lt u2_0.1 u3_2
 have m14 := (u3_6.keep u8_0 (ninS n13 nin0))
 exact ⟨b1, r_8, k_8, ((0 : Int32) + (1 : Int32)), s_3, sv_3, kv_3, rfl, (((((Keep.refl h0 []).ext E1).trans u2_0 (allS (Or.inr (oLe g1)) all0)).trans u3_0 all0).trans u8_0 (allS (Or.inr (oLe g1)) all0)), (oLe g1), u8_5, u8_7, u8_8, u8_6, (Nat.le_trans y0_3 u8_1), u8_2, u8_4, u8_3, (Nat.le_trans (Nat.le_trans E1.1 u2_0.1) u3_1), m9, m11, m12, m14⟩
def r_fields100_2 : Room := { frames := 5, cells := 8, slots := 29, locals := 82 }
def Q_fields100_2 (Z : State) (d : Int64) (cs : Int32) (dce : Addr) (kd : ClassId) (h0 : Heap) (v : Option Value) (h : Heap) : Prop := ∃ l r : Addr, ∃ kr : ClassId, ∃ m : Int32, ∃ s0 vz0 : Addr, ∃ kz0 : ClassId, ∃ s1 vz1 : Addr, ∃ kz1 : ClassId, v = some (.ref l) ∧ Keep h0 h [] ∧ h0.size ≤ l ∧ Exa Z h l z1 ∧ Fld Z h l z1 z14 z5 (.ref r) ∧ Fld Z h l z1 "size" "I" (.int 2) ∧ Fld Z h l z13 "modCount" "I" (.int m) ∧ h0.size ≤ r ∧ oArr Z h r kr (.object z3) [.ref s0, .ref s1, .null, .null, .null, .null, .null, .null, .null, .null] ∧ Exa Z h r z5 ∧ Ovr Z kr z3 ∧ h0.size ≤ s0 ∧ h0.size ≤ s1 ∧ Exa Z h s0 z0 ∧ Fld Z h s0 z0 "value" "[B" (.ref vz0) ∧ Fld Z h s0 z0 "coder" "B" (.int 0) ∧ oArr Z h vz0 kz0 .byte [(.int (nar .byte (100 : Int32))), (.int (nar .byte (oFx d (3 : Int32))))] ∧ Exa Z h s1 z0 ∧ Fld Z h s1 z0 "value" "[B" (.ref vz1) ∧ Fld Z h s1 z0 "coder" "B" (.int 0) ∧ oArr Z h vz1 kz1 .byte [(.int (nar .byte (101 : Int32))), (.int (nar .byte (oFx d (4 : Int32))))]
theorem rm_fields100_2 (l : Launch) (Z : State) (a0 : Array Value) (hw : oHw Z a0) (d : Int64) (cs : Int32) (dce : Addr) (kd : ClassId) (h0 : Heap) (q0 : Sta Z Z.heap z0 "COMPACT_STRINGS" "Z" (.int cs)) (q1 : ¬ (cs = (0 : Int32))) (q2 : Sta Z Z.heap z1 z22 z5 (.ref dce)) (q3 : oArr Z Z.heap dce kd (.object z3) []) : oMet l Z (⟨z12, "fields", "(CIJI)Ljava/util/ArrayList;"⟩ : MethodName) method_3_code 6 (some (.object z1)) r_fields100_2 [] #[.int 100, .int 2, (.long d), .int 3] h0 (Q_fields100_2 Z d cs dce kd h0) := by
 refine oEnter (plainFor_of_name (by first | (simp [plainName, overriddenIn]; done) | decide +kernel)) (own := z12) (nm := "fields") rfl rfl (L := #[.val (.int 100), .val (.int 2), .val (.long d), .second, .val (.int 3), .unset]) (fun m => by first | (simp [entryFrame, mkF, argsToLocals, Value.category]; done) | rfl) ?_
 intro pp ee ss mm bb mtd cc T0 K X0
 have E0 := X0.ext0
 refine o_new K X0 (w8 hw) (w9 hw) (w10 hw) d19_0 rfl (by decide) (by decide) ?_
 intro T1 h1 b1 X1 g1 E1 A1 D1 G1
 have F1_modCount : Fld Z h1 b1 z13 "modCount" "I" (.int 0) := (D1 (Or.inl (w30 hw)) (ty := .int) (by decide))
 have F1_elementData : Fld Z h1 b1 z1 z14 z5 .null := (D1 (Or.inl (w33 hw)) (ty := (.array (.object z3))) (by decide))
 have F1_size : Fld Z h1 b1 z1 "size" "I" (.int 0) := (D1 (Or.inl (w74 hw)) (ty := .int) (by decide))
 refine o_dup K X1 d19_3 rfl rfl ?_
 refine o_special K X1 (y := (⟨z1, "<init>", "()V"⟩ : MethodName)) rfl (w11 hw) (w12 hw) (w10 hw) (w13 hw) (by decide) (rm_al l Z a0 hw b1 dce h1 A1 F1_modCount F1_elementData G1 F1_size q2) (by decide) rfl (argsL := []) rfl (lenOf pd7 rfl) (W := 1) rfl (by decide) (by decide) (by decide) d19_4 rfl ?_
 intro v2 T2 h2 X2 U2
 obtain ⟨rfl, u2_0, u2_1, u2_2, u2_3, u2_4⟩ := U2
 show oGoes pp ee bb ss Z T2 (mkF mm 7 _ [.ref b1]) _ _ _
 refine o_astore K X2 d19_7 rfl rfl (L' := #[vI 100, vI 2, vJ d, sS, vI 3, vR b1]) rfl ?_
 refine o_aload K X2 d19_9 rfl rfl rfl ?_
 refine o_iloadN K X2 d19_11 rfl rfl ?_
 refine o_lloadN K X2 d19_12 rfl rfl ?_
 refine o_iload K X2 d19_13 rfl rfl ?_
 refine o_static K X2  (w34 hw) (w35 hw) (w6 hw) (w36 hw) (by decide) (rm_field l Z a0 hw 100 d 3 cs h2 (by decide) (by decide) q0 q1) (by decide) rfl (argsL := [.int 100, (.long d), .int 3]) rfl (lenOf pd13 rfl) (W := 1) rfl (by decide) (by decide) (by decide) d19_15 rfl ?_
 intro v3 T3 h3 X3 U3
 obtain ⟨s_3, sv_3, kv_3, rfl, u3_0, u3_1, u3_2, u3_3, u3_4, u3_5, u3_6⟩ := U3
 have G3_s : Z.heap.size ≤ s_3 := Nat.le_trans X2.ext0.1 u3_1
 have G3_sv : Z.heap.size ≤ sv_3 := Nat.le_trans X2.ext0.1 u3_2
 show oGoes pp ee bb ss Z T3 (mkF mm 18 _ [.ref s_3, .ref b1]) _ _ _
 have m4 := (u2_1.keep u3_0)
 have m5 := (u2_2.keep u3_0 nin0)
 have m6 := (u2_3.keep u3_0 nin0)
 have m7 := (u2_4.keep u3_0 nin0)
 refine o_virtual K X3   (w66 hw) (w67 hw) (oNF (w69 hw)) (w69 hw) (w68 hw) (w10 hw) (w70 hw) (by decide) m4 (rm_add1 l Z a0 hw b1 0 s_3 dce kd h3 m4 m5 m6 m7 G1 q2 q3 u3_3) (by decide) rfl (argsL := [.ref s_3]) rfl (lenOf pd14 rfl) (W := 0) rfl (by decide) (by decide) (by decide) d19_18 rfl ?_
 intro v8 T8 h8 X8 U8
 obtain ⟨r_8, k_8, rfl, u8_0, u8_1, u8_2, u8_3, u8_4, u8_5, u8_6, u8_7, u8_8⟩ := U8
 have G8_r : Z.heap.size ≤ r_8 := Nat.le_trans X3.ext0.1 u8_1
 show oGoes pp ee bb ss Z T8 (mkF mm 21 _ [.int 1]) _ _ _
 refine o_pop K X8 d19_21 rfl rfl ?_
 refine o_iloadN K X8 d19_22 rfl rfl ?_
 refine o_iconst K X8 d19_23 rfl (z := 1) rfl ?_
 refine o_icmp_le_f K X8 d19_24 rfl (by decide) ?_
 refine o_aload K X8 d19_27 rfl rfl rfl ?_
 refine o_iloadN K X8 d19_29 rfl rfl ?_
 refine o_iconst K X8 d19_30 rfl (z := 1) rfl ?_
 refine o_iadd K X8 d19_31 rfl (z := 101) (by decide) ?_
 refine o_i2c K X8 d19_32 rfl (z := 101) (by decide) ?_
 refine o_lloadN K X8 d19_33 rfl rfl ?_
 refine o_iload K X8 d19_34 rfl rfl ?_
 refine o_iconst K X8 d19_36 rfl (z := 1) rfl ?_
 refine o_iadd K X8 d19_37 rfl (z := 4) (by decide) ?_
 refine o_static K X8  (w34 hw) (w35 hw) (w6 hw) (w36 hw) (by decide) (rm_field l Z a0 hw 101 d 4 cs h8 (by decide) (by decide) q0 q1) (by decide) rfl (argsL := [.int 101, (.long d), .int 4]) rfl (lenOf pd13 rfl) (W := 1) rfl (by decide) (by decide) (by decide) d19_38 rfl ?_
 intro v9 T9 h9 X9 U9
 obtain ⟨s_9, sv_9, kv_9, rfl, u9_0, u9_1, u9_2, u9_3, u9_4, u9_5, u9_6⟩ := U9
 have G9_s : Z.heap.size ≤ s_9 := Nat.le_trans X8.ext0.1 u9_1
 have G9_sv : Z.heap.size ≤ sv_9 := Nat.le_trans X8.ext0.1 u9_2
 show oGoes pp ee bb ss Z T9 (mkF mm 41 _ [.ref s_9, .ref b1]) _ _ _
 have m10 := (u8_5.keep u9_0)
 have m11 := (u8_6.keep u9_0 nin0)
 have m12 := (u8_7.keep u9_0 nin0)
 have m13 := (u8_8.keep u9_0 nin0)
 have m14 := (u8_2.keep u9_0 nin0)
 have n15 := oLsn A1.lt (Nat.le_trans u2_0.1 u3_0.1) u8_1
 refine o_virtual K X9   (w66 hw) (w67 hw) (oNF (w69 hw)) (w69 hw) (w68 hw) (w10 hw) (w70 hw) (by decide) m10 (rm_addj1_1 l Z a0 hw b1 ((0 : Int32) + (1 : Int32)) r_8 k_8 s_9 s_3 h9 m10 m11 m12 m13 G1 m14 G8_r u8_3 n15 u9_3) (by decide) rfl (argsL := [.ref s_9]) rfl (lenOf pd14 rfl) (W := 0) rfl (by decide) (by decide) (by decide) d19_41 rfl ?_
 intro v16 T16 h16 X16 U16
 obtain ⟨rfl, u16_0, u16_1, u16_2, u16_3, u16_4, u16_5⟩ := U16
 show oGoes pp ee bb ss Z T16 (mkF mm 44 _ [.int 1]) _ _ _
 refine o_pop K X16 d19_44 rfl rfl ?_
 refine o_iloadN K X16 d19_45 rfl rfl ?_
 refine o_iconst K X16 d19_46 rfl (z := 2) rfl ?_
 refine o_icmp_le_t K X16 d19_47 (by decide) (pc' := 68) (by decide) (by decide) ?_
 refine o_aload K X16 d19_68 rfl rfl rfl ?_
 refine o_areturn K X16 (t := (.object z1)) d19_70 rfl rfl rfl ?_ (by decide) (by decide)
 have y0_3 := Nat.le_trans (Nat.le_trans E1.1 u2_0.1) u3_0.1
 have m17 := ((u8_4.keep u9_0).keep u16_0)
 have m18 := (((u3_3.keep u8_0).keep u9_0).keep u16_0)
 have n19 := oLsn A1.lt u2_0.1 u3_1
 have n20 := oLz u3_3.lt u8_1
 have m21 := (((u3_4.keep u8_0 (ninS n19 nin0)).keep u9_0 nin0).keep u16_0 (ninS n19 (ninS n20 nin0)))
 have m22 := (((u3_5.keep u8_0 (ninS n19 nin0)).keep u9_0 nin0).keep u16_0 (ninS n19 (ninS n20 nin0)))
 have n23 := oLsn A1.lt u2_0.1 u3_2
 have n24 := oLz u3_6.lt u8_1
 have m25 := (((u3_6.keep u8_0 (ninS n23 nin0)).keep u9_0 nin0).keep u16_0 (ninS n23 (ninS n24 nin0)))
 have m26 := (u9_3.keep u16_0)
 have n27 := oLsz u8_2.lt u9_1
 have y1_4 := Nat.le_trans (Nat.le_trans u2_0.1 u3_0.1) u8_0.1
 have n28 := oLsn A1.lt y1_4 u9_1
 have m29 := (u9_4.keep u16_0 (ninS n28 (ninS n27 nin0)))
 have m30 := (u9_5.keep u16_0 (ninS n28 (ninS n27 nin0)))
 have n31 := oLsz u8_2.lt u9_2
 have n32 := oLsn A1.lt y1_4 u9_2
 have m33 := (u9_6.keep u16_0 (ninS n32 (ninS n31 nin0)))
 exact ⟨b1, r_8, k_8, (((0 : Int32) + (1 : Int32)) + (1 : Int32)), s_3, sv_3, kv_3, s_9, sv_9, kv_9, rfl, (((((((Keep.refl h0 []).ext E1).trans u2_0 (allS (Or.inr (oLe g1)) all0)).trans u3_0 all0).trans u8_0 (allS (Or.inr (oLe g1)) all0)).trans u9_0 all0).trans u16_0 (allS (Or.inr (oLe g1)) (allS (Or.inr (Nat.le_trans y0_3 u8_1)) all0))), (oLe g1), u16_2, u16_4, u16_5, u16_3, (Nat.le_trans y0_3 u8_1), u16_1, m17, u8_3, (Nat.le_trans (Nat.le_trans E1.1 u2_0.1) u3_1), (Nat.le_trans (Nat.le_trans y0_3 u8_0.1) u9_1), m18, m21, m22, m25, m26, m29, m30, m33⟩
def r_fields100_3 : Room := { frames := 5, cells := 11, slots := 37, locals := 82 }
def Q_fields100_3 (Z : State) (d : Int64) (cs : Int32) (dce : Addr) (kd : ClassId) (h0 : Heap) (v : Option Value) (h : Heap) : Prop := ∃ l r : Addr, ∃ kr : ClassId, ∃ m : Int32, ∃ s0 vz0 : Addr, ∃ kz0 : ClassId, ∃ s1 vz1 : Addr, ∃ kz1 : ClassId, ∃ s2 vz2 : Addr, ∃ kz2 : ClassId, v = some (.ref l) ∧ Keep h0 h [] ∧ h0.size ≤ l ∧ Exa Z h l z1 ∧ Fld Z h l z1 z14 z5 (.ref r) ∧ Fld Z h l z1 "size" "I" (.int 3) ∧ Fld Z h l z13 "modCount" "I" (.int m) ∧ h0.size ≤ r ∧ oArr Z h r kr (.object z3) [.ref s0, .ref s1, .ref s2, .null, .null, .null, .null, .null, .null, .null] ∧ Exa Z h r z5 ∧ Ovr Z kr z3 ∧ h0.size ≤ s0 ∧ h0.size ≤ s1 ∧ h0.size ≤ s2 ∧ Exa Z h s0 z0 ∧ Fld Z h s0 z0 "value" "[B" (.ref vz0) ∧ Fld Z h s0 z0 "coder" "B" (.int 0) ∧ oArr Z h vz0 kz0 .byte [(.int (nar .byte (100 : Int32))), (.int (nar .byte (oFx d (3 : Int32))))] ∧ Exa Z h s1 z0 ∧ Fld Z h s1 z0 "value" "[B" (.ref vz1) ∧ Fld Z h s1 z0 "coder" "B" (.int 0) ∧ oArr Z h vz1 kz1 .byte [(.int (nar .byte (101 : Int32))), (.int (nar .byte (oFx d (4 : Int32))))] ∧ Exa Z h s2 z0 ∧ Fld Z h s2 z0 "value" "[B" (.ref vz2) ∧ Fld Z h s2 z0 "coder" "B" (.int 0) ∧ oArr Z h vz2 kz2 .byte [(.int (nar .byte (102 : Int32))), (.int (nar .byte (oFx d (5 : Int32))))]
theorem rm_fields100_3 (l : Launch) (Z : State) (a0 : Array Value) (hw : oHw Z a0) (d : Int64) (cs : Int32) (dce : Addr) (kd : ClassId) (h0 : Heap) (q0 : Sta Z Z.heap z0 "COMPACT_STRINGS" "Z" (.int cs)) (q1 : ¬ (cs = (0 : Int32))) (q2 : Sta Z Z.heap z1 z22 z5 (.ref dce)) (q3 : oArr Z Z.heap dce kd (.object z3) []) : oMet l Z (⟨z12, "fields", "(CIJI)Ljava/util/ArrayList;"⟩ : MethodName) method_3_code 6 (some (.object z1)) r_fields100_3 [] #[.int 100, .int 3, (.long d), .int 3] h0 (Q_fields100_3 Z d cs dce kd h0) := by
 refine oEnter (plainFor_of_name (by first | (simp [plainName, overriddenIn]; done) | decide +kernel)) (own := z12) (nm := "fields") rfl rfl (L := #[.val (.int 100), .val (.int 3), .val (.long d), .second, .val (.int 3), .unset]) (fun m => by first | (simp [entryFrame, mkF, argsToLocals, Value.category]; done) | rfl) ?_
 intro pp ee ss mm bb mtd cc T0 K X0
 have E0 := X0.ext0
 refine o_new K X0 (w8 hw) (w9 hw) (w10 hw) d19_0 rfl (by decide) (by decide) ?_
 intro T1 h1 b1 X1 g1 E1 A1 D1 G1
 have F1_modCount : Fld Z h1 b1 z13 "modCount" "I" (.int 0) := (D1 (Or.inl (w30 hw)) (ty := .int) (by decide))
 have F1_elementData : Fld Z h1 b1 z1 z14 z5 .null := (D1 (Or.inl (w33 hw)) (ty := (.array (.object z3))) (by decide))
 have F1_size : Fld Z h1 b1 z1 "size" "I" (.int 0) := (D1 (Or.inl (w74 hw)) (ty := .int) (by decide))
 refine o_dup K X1 d19_3 rfl rfl ?_
 refine o_special K X1 (y := (⟨z1, "<init>", "()V"⟩ : MethodName)) rfl (w11 hw) (w12 hw) (w10 hw) (w13 hw) (by decide) (rm_al l Z a0 hw b1 dce h1 A1 F1_modCount F1_elementData G1 F1_size q2) (by decide) rfl (argsL := []) rfl (lenOf pd7 rfl) (W := 1) rfl (by decide) (by decide) (by decide) d19_4 rfl ?_
 intro v2 T2 h2 X2 U2
 obtain ⟨rfl, u2_0, u2_1, u2_2, u2_3, u2_4⟩ := U2
 show oGoes pp ee bb ss Z T2 (mkF mm 7 _ [.ref b1]) _ _ _
 refine o_astore K X2 d19_7 rfl rfl (L' := #[vI 100, vI 3, vJ d, sS, vI 3, vR b1]) rfl ?_
 refine o_aload K X2 d19_9 rfl rfl rfl ?_
 refine o_iloadN K X2 d19_11 rfl rfl ?_
 refine o_lloadN K X2 d19_12 rfl rfl ?_
 refine o_iload K X2 d19_13 rfl rfl ?_
 refine o_static K X2  (w34 hw) (w35 hw) (w6 hw) (w36 hw) (by decide) (rm_field l Z a0 hw 100 d 3 cs h2 (by decide) (by decide) q0 q1) (by decide) rfl (argsL := [.int 100, (.long d), .int 3]) rfl (lenOf pd13 rfl) (W := 1) rfl (by decide) (by decide) (by decide) d19_15 rfl ?_
 intro v3 T3 h3 X3 U3
 obtain ⟨s_3, sv_3, kv_3, rfl, u3_0, u3_1, u3_2, u3_3, u3_4, u3_5, u3_6⟩ := U3
 have G3_s : Z.heap.size ≤ s_3 := Nat.le_trans X2.ext0.1 u3_1
 have G3_sv : Z.heap.size ≤ sv_3 := Nat.le_trans X2.ext0.1 u3_2
 show oGoes pp ee bb ss Z T3 (mkF mm 18 _ [.ref s_3, .ref b1]) _ _ _
 have m4 := (u2_1.keep u3_0)
 have m5 := (u2_2.keep u3_0 nin0)
 have m6 := (u2_3.keep u3_0 nin0)
 have m7 := (u2_4.keep u3_0 nin0)
 refine o_virtual K X3   (w66 hw) (w67 hw) (oNF (w69 hw)) (w69 hw) (w68 hw) (w10 hw) (w70 hw) (by decide) m4 (rm_add1 l Z a0 hw b1 0 s_3 dce kd h3 m4 m5 m6 m7 G1 q2 q3 u3_3) (by decide) rfl (argsL := [.ref s_3]) rfl (lenOf pd14 rfl) (W := 0) rfl (by decide) (by decide) (by decide) d19_18 rfl ?_
 intro v8 T8 h8 X8 U8
 obtain ⟨r_8, k_8, rfl, u8_0, u8_1, u8_2, u8_3, u8_4, u8_5, u8_6, u8_7, u8_8⟩ := U8
 have G8_r : Z.heap.size ≤ r_8 := Nat.le_trans X3.ext0.1 u8_1
 show oGoes pp ee bb ss Z T8 (mkF mm 21 _ [.int 1]) _ _ _
 refine o_pop K X8 d19_21 rfl rfl ?_
 refine o_iloadN K X8 d19_22 rfl rfl ?_
 refine o_iconst K X8 d19_23 rfl (z := 1) rfl ?_
 refine o_icmp_le_f K X8 d19_24 rfl (by decide) ?_
 refine o_aload K X8 d19_27 rfl rfl rfl ?_
 refine o_iloadN K X8 d19_29 rfl rfl ?_
 refine o_iconst K X8 d19_30 rfl (z := 1) rfl ?_
 refine o_iadd K X8 d19_31 rfl (z := 101) (by decide) ?_
 refine o_i2c K X8 d19_32 rfl (z := 101) (by decide) ?_
 refine o_lloadN K X8 d19_33 rfl rfl ?_
 refine o_iload K X8 d19_34 rfl rfl ?_
 refine o_iconst K X8 d19_36 rfl (z := 1) rfl ?_
 refine o_iadd K X8 d19_37 rfl (z := 4) (by decide) ?_
 refine o_static K X8  (w34 hw) (w35 hw) (w6 hw) (w36 hw) (by decide) (rm_field l Z a0 hw 101 d 4 cs h8 (by decide) (by decide) q0 q1) (by decide) rfl (argsL := [.int 101, (.long d), .int 4]) rfl (lenOf pd13 rfl) (W := 1) rfl (by decide) (by decide) (by decide) d19_38 rfl ?_
 intro v9 T9 h9 X9 U9
 obtain ⟨s_9, sv_9, kv_9, rfl, u9_0, u9_1, u9_2, u9_3, u9_4, u9_5, u9_6⟩ := U9
 have G9_s : Z.heap.size ≤ s_9 := Nat.le_trans X8.ext0.1 u9_1
 have G9_sv : Z.heap.size ≤ sv_9 := Nat.le_trans X8.ext0.1 u9_2
 show oGoes pp ee bb ss Z T9 (mkF mm 41 _ [.ref s_9, .ref b1]) _ _ _
 have m10 := (u8_5.keep u9_0)
 have m11 := (u8_6.keep u9_0 nin0)
 have m12 := (u8_7.keep u9_0 nin0)
 have m13 := (u8_8.keep u9_0 nin0)
 have m14 := (u8_2.keep u9_0 nin0)
 have n15 := oLsn A1.lt (Nat.le_trans u2_0.1 u3_0.1) u8_1
 refine o_virtual K X9   (w66 hw) (w67 hw) (oNF (w69 hw)) (w69 hw) (w68 hw) (w10 hw) (w70 hw) (by decide) m10 (rm_addj1_1 l Z a0 hw b1 ((0 : Int32) + (1 : Int32)) r_8 k_8 s_9 s_3 h9 m10 m11 m12 m13 G1 m14 G8_r u8_3 n15 u9_3) (by decide) rfl (argsL := [.ref s_9]) rfl (lenOf pd14 rfl) (W := 0) rfl (by decide) (by decide) (by decide) d19_41 rfl ?_
 intro v16 T16 h16 X16 U16
 obtain ⟨rfl, u16_0, u16_1, u16_2, u16_3, u16_4, u16_5⟩ := U16
 show oGoes pp ee bb ss Z T16 (mkF mm 44 _ [.int 1]) _ _ _
 refine o_pop K X16 d19_44 rfl rfl ?_
 refine o_iloadN K X16 d19_45 rfl rfl ?_
 refine o_iconst K X16 d19_46 rfl (z := 2) rfl ?_
 refine o_icmp_le_f K X16 d19_47 rfl (by decide) ?_
 refine o_aload K X16 d19_50 rfl rfl rfl ?_
 refine o_iloadN K X16 d19_52 rfl rfl ?_
 refine o_iconst K X16 d19_53 rfl (z := 2) rfl ?_
 refine o_iadd K X16 d19_54 rfl (z := 102) (by decide) ?_
 refine o_i2c K X16 d19_55 rfl (z := 102) (by decide) ?_
 refine o_lloadN K X16 d19_56 rfl rfl ?_
 refine o_iload K X16 d19_57 rfl rfl ?_
 refine o_iconst K X16 d19_59 rfl (z := 2) rfl ?_
 refine o_iadd K X16 d19_60 rfl (z := 5) (by decide) ?_
 refine o_static K X16  (w34 hw) (w35 hw) (w6 hw) (w36 hw) (by decide) (rm_field l Z a0 hw 102 d 5 cs h16 (by decide) (by decide) q0 q1) (by decide) rfl (argsL := [.int 102, (.long d), .int 5]) rfl (lenOf pd13 rfl) (W := 1) rfl (by decide) (by decide) (by decide) d19_61 rfl ?_
 intro v17 T17 h17 X17 U17
 obtain ⟨s_17, sv_17, kv_17, rfl, u17_0, u17_1, u17_2, u17_3, u17_4, u17_5, u17_6⟩ := U17
 have G17_s : Z.heap.size ≤ s_17 := Nat.le_trans X16.ext0.1 u17_1
 have G17_sv : Z.heap.size ≤ sv_17 := Nat.le_trans X16.ext0.1 u17_2
 show oGoes pp ee bb ss Z T17 (mkF mm 64 _ [.ref s_17, .ref b1]) _ _ _
 have m18 := (u16_2.keep u17_0)
 have m19 := (u16_3.keep u17_0 nin0)
 have m20 := (u16_4.keep u17_0 nin0)
 have m21 := (u16_5.keep u17_0 nin0)
 have m22 := (u16_1.keep u17_0 nin0)
 refine o_virtual K X17   (w66 hw) (w67 hw) (oNF (w69 hw)) (w69 hw) (w68 hw) (w10 hw) (w70 hw) (by decide) m18 (rm_addj1_2 l Z a0 hw b1 (((0 : Int32) + (1 : Int32)) + (1 : Int32)) r_8 k_8 s_17 s_3 s_9 h17 m18 m19 m20 m21 G1 m22 G8_r u8_3 n15 u17_3) (by decide) rfl (argsL := [.ref s_17]) rfl (lenOf pd14 rfl) (W := 0) rfl (by decide) (by decide) (by decide) d19_64 rfl ?_
 intro v23 T23 h23 X23 U23
 obtain ⟨rfl, u23_0, u23_1, u23_2, u23_3, u23_4, u23_5⟩ := U23
 show oGoes pp ee bb ss Z T23 (mkF mm 67 _ [.int 1]) _ _ _
 refine o_pop K X23 d19_67 rfl rfl ?_
 refine o_aload K X23 d19_68 rfl rfl rfl ?_
 refine o_areturn K X23 (t := (.object z1)) d19_70 rfl rfl rfl ?_ (by decide) (by decide)
 have y0_3 := Nat.le_trans (Nat.le_trans E1.1 u2_0.1) u3_0.1
 have m24 := ((((u8_4.keep u9_0).keep u16_0).keep u17_0).keep u23_0)
 have y0_6 := Nat.le_trans (Nat.le_trans (Nat.le_trans y0_3 u8_0.1) u9_0.1) u16_0.1
 have m25 := (((((u3_3.keep u8_0).keep u9_0).keep u16_0).keep u17_0).keep u23_0)
 have n26 := oLsn A1.lt u2_0.1 u3_1
 have n27 := oLz u3_3.lt u8_1
 have m28 := (((((u3_4.keep u8_0 (ninS n26 nin0)).keep u9_0 nin0).keep u16_0 (ninS n26 (ninS n27 nin0))).keep u17_0 nin0).keep u23_0 (ninS n26 (ninS n27 nin0)))
 have m29 := (((((u3_5.keep u8_0 (ninS n26 nin0)).keep u9_0 nin0).keep u16_0 (ninS n26 (ninS n27 nin0))).keep u17_0 nin0).keep u23_0 (ninS n26 (ninS n27 nin0)))
 have n30 := oLsn A1.lt u2_0.1 u3_2
 have n31 := oLz u3_6.lt u8_1
 have m32 := (((((u3_6.keep u8_0 (ninS n30 nin0)).keep u9_0 nin0).keep u16_0 (ninS n30 (ninS n31 nin0))).keep u17_0 nin0).keep u23_0 (ninS n30 (ninS n31 nin0)))
 have m33 := (((u9_3.keep u16_0).keep u17_0).keep u23_0)
 have n34 := oLsz u8_2.lt u9_1
 have y1_4 := Nat.le_trans (Nat.le_trans u2_0.1 u3_0.1) u8_0.1
 have n35 := oLsn A1.lt y1_4 u9_1
 have m36 := (((u9_4.keep u16_0 (ninS n35 (ninS n34 nin0))).keep u17_0 nin0).keep u23_0 (ninS n35 (ninS n34 nin0)))
 have m37 := (((u9_5.keep u16_0 (ninS n35 (ninS n34 nin0))).keep u17_0 nin0).keep u23_0 (ninS n35 (ninS n34 nin0)))
 have n38 := oLsz u8_2.lt u9_2
 have n39 := oLsn A1.lt y1_4 u9_2
 have m40 := (((u9_6.keep u16_0 (ninS n39 (ninS n38 nin0))).keep u17_0 nin0).keep u23_0 (ninS n39 (ninS n38 nin0)))
 have m41 := (u17_3.keep u23_0)
 have n42 := oLsn u8_2.lt (Nat.le_trans u9_0.1 u16_0.1) u17_1
 have y1_6 := Nat.le_trans (Nat.le_trans y1_4 u9_0.1) u16_0.1
 have n43 := oLsn A1.lt y1_6 u17_1
 have m44 := (u17_4.keep u23_0 (ninS n43 (ninS n42 nin0)))
 have m45 := (u17_5.keep u23_0 (ninS n43 (ninS n42 nin0)))
 have n46 := oLsn u8_2.lt (Nat.le_trans u9_0.1 u16_0.1) u17_2
 have n47 := oLsn A1.lt y1_6 u17_2
 have m48 := (u17_6.keep u23_0 (ninS n47 (ninS n46 nin0)))
 exact ⟨b1, r_8, k_8, ((((0 : Int32) + (1 : Int32)) + (1 : Int32)) + (1 : Int32)), s_3, sv_3, kv_3, s_9, sv_9, kv_9, s_17, sv_17, kv_17, rfl, (((((((((Keep.refl h0 []).ext E1).trans u2_0 (allS (Or.inr (oLe g1)) all0)).trans u3_0 all0).trans u8_0 (allS (Or.inr (oLe g1)) all0)).trans u9_0 all0).trans u16_0 (allS (Or.inr (oLe g1)) (allS (Or.inr (Nat.le_trans y0_3 u8_1)) all0))).trans u17_0 all0).trans u23_0 (allS (Or.inr (oLe g1)) (allS (Or.inr (Nat.le_trans y0_3 u8_1)) all0))), (oLe g1), u23_2, u23_4, u23_5, u23_3, (Nat.le_trans y0_3 u8_1), u23_1, m24, u8_3, (Nat.le_trans (Nat.le_trans E1.1 u2_0.1) u3_1), (Nat.le_trans (Nat.le_trans y0_3 u8_0.1) u9_1), (Nat.le_trans y0_6 u17_1), m25, m28, m29, m32, m33, m36, m37, m40, m41, m44, m45, m48⟩
theorem d20_0 : decode jdk_47_method_1_code 0 = .ok (.aload_n 0, 1) := by decide +kernel
theorem d20_1 : decode jdk_47_method_1_code 1 = .ok (.invokespecial 1, 3) := by decide +kernel
theorem d20_4 : decode jdk_47_method_1_code 4 = .ok (.return_, 1) := by decide +kernel
def r_aic : Room := { frames := 2, cells := 0, slots := 0, locals := 24 }
def Q_aic (Z : State) (a : Addr) (h0 : Heap) (v : Option Value) (h : Heap) : Prop := v = none ∧ h0 = h
theorem rm_aic (l : Launch) (Z : State) (a0 : Array Value) (hw : oHw Z a0) (a : Addr) (h0 : Heap) : oMet l Z (⟨z27, "<init>", "()V"⟩ : MethodName) jdk_47_method_1_code 1 none r_aic [] #[.ref a] h0 (Q_aic Z a h0) := by
 refine oEnter (plainFor_of_name (by first | (simp [plainName, overriddenIn]; done) | decide +kernel)) (own := z27) (nm := "<init>") rfl rfl (L := #[.val (.ref a)]) (fun m => by first | (simp [entryFrame, mkF, argsToLocals, Value.category]; done) | rfl) ?_
 intro pp ee ss mm bb mtd cc T0 K X0
 have E0 := X0.ext0
 refine o_aloadN K X0 d20_0 rfl rfl rfl ?_
 refine o_special K X0 (y := (⟨"java/util/AbstractCollection", "<init>", "()V"⟩ : MethodName)) rfl (w181 hw) (w21 hw) (w24 hw) (w25 hw) (by decide) (rm_abc l Z a0 hw a h0) (by decide) rfl (argsL := []) rfl (lenOf pd7 rfl) (W := 0) rfl (by decide) (by decide) (by decide) d20_1 rfl ?_
 intro v1 T1 h1 X1 U1
 obtain ⟨rfl, rfl⟩ := U1
 show oGoes pp ee bb ss Z T1 (mkF mm 4 _ []) _ _ _
 refine o_return K X1 d20_4 rfl ?_ (by decide) (by decide)
 exact ⟨rfl, rfl⟩
theorem d21_0 : decode jdk_46_method_1_code 0 = .ok (.aload_n 0, 1) := by decide +kernel
theorem d21_1 : decode jdk_46_method_1_code 1 = .ok (.invokespecial 1, 3) := by decide +kernel
theorem d21_4 : decode jdk_46_method_1_code 4 = .ok (.return_, 1) := by decide +kernel
def r_ail : Room := { frames := 3, cells := 0, slots := 0, locals := 36 }
def Q_ail (Z : State) (a : Addr) (h0 : Heap) (v : Option Value) (h : Heap) : Prop := v = none ∧ h0 = h
theorem rm_ail (l : Launch) (Z : State) (a0 : Array Value) (hw : oHw Z a0) (a : Addr) (h0 : Heap) : oMet l Z (⟨z25, "<init>", "()V"⟩ : MethodName) jdk_46_method_1_code 1 none r_ail [] #[.ref a] h0 (Q_ail Z a h0) := by
 refine oEnter (plainFor_of_name (by first | (simp [plainName, overriddenIn]; done) | decide +kernel)) (own := z25) (nm := "<init>") rfl rfl (L := #[.val (.ref a)]) (fun m => by first | (simp [entryFrame, mkF, argsToLocals, Value.category]; done) | rfl) ?_
 intro pp ee ss mm bb mtd cc T0 K X0
 have E0 := X0.ext0
 refine o_aloadN K X0 d21_0 rfl rfl rfl ?_
 refine o_special K X0 (y := (⟨z27, "<init>", "()V"⟩ : MethodName)) rfl (w175 hw) (w176 hw) (w179 hw) (w180 hw) (by decide) (rm_aic l Z a0 hw a h0) (by decide) rfl (argsL := []) rfl (lenOf pd7 rfl) (W := 0) rfl (by decide) (by decide) (by decide) d21_1 rfl ?_
 intro v1 T1 h1 X1 U1
 obtain ⟨rfl, rfl⟩ := U1
 show oGoes pp ee bb ss Z T1 (mkF mm 4 _ []) _ _ _
 refine o_return K X1 d21_4 rfl ?_ (by decide) (by decide)
 exact ⟨rfl, rfl⟩
theorem d22_0 : decode jdk_31_method_10_code 0 = .ok (.aload_n 0, 1) := by decide +kernel
theorem d22_1 : decode jdk_31_method_10_code 1 = .ok (.ifnonnull 11, 3) := by decide +kernel
theorem d22_12 : decode jdk_31_method_10_code 12 = .ok (.aload_n 0, 1) := by decide +kernel
theorem d22_13 : decode jdk_31_method_10_code 13 = .ok (.areturn, 1) := by decide +kernel
def r_rnn : Room := { frames := 0, cells := 0, slots := 0, locals := 0 }
def Q_rnn (Z : State) (x : Addr) (h0 : Heap) (v : Option Value) (h : Heap) : Prop := v = some (.ref x) ∧ h0 = h
theorem rm_rnn (l : Launch) (Z : State) (a0 : Array Value) (hw : oHw Z a0) (x : Addr) (h0 : Heap) : oMet l Z (⟨"java/util/Objects", "requireNonNull", "(Ljava/lang/Object;)Ljava/lang/Object;"⟩ : MethodName) jdk_31_method_10_code 1 (some (.object z3)) r_rnn [] #[.ref x] h0 (Q_rnn Z x h0) := by
 refine oEnter (plainFor_of_name (by first | (simp [plainName, overriddenIn]; done) | decide +kernel)) (own := "java/util/Objects") (nm := "requireNonNull") rfl rfl (L := #[.val (.ref x)]) (fun m => by first | (simp [entryFrame, mkF, argsToLocals, Value.category]; done) | rfl) ?_
 intro pp ee ss mm bb mtd cc T0 K X0
 have E0 := X0.ext0
 refine o_aloadN K X0 d22_0 rfl rfl rfl ?_
 refine o_ifnonnull_t K X0 d22_1 (by decide) (pc' := 12) (by decide) ?_
 refine o_aloadN K X0 d22_12 rfl rfl rfl ?_
 refine o_areturn K X0 (t := (.object z3)) d22_13 rfl rfl rfl ?_ (by decide) (by decide)
 exact ⟨rfl, rfl⟩
theorem d23_0 : decode jdk_44_method_1_code 0 = .ok (.aload_n 0, 1) := by decide +kernel
theorem d23_1 : decode jdk_44_method_1_code 1 = .ok (.invokespecial 1, 3) := by decide +kernel
theorem d23_4 : decode jdk_44_method_1_code 4 = .ok (.aload_n 0, 1) := by decide +kernel
theorem d23_5 : decode jdk_44_method_1_code 5 = .ok (.aload_n 1, 1) := by decide +kernel
theorem d23_6 : decode jdk_44_method_1_code 6 = .ok (.invokestatic 7, 3) := by decide +kernel
theorem d23_9 : decode jdk_44_method_1_code 9 = .ok (.putfield 13, 3) := by decide +kernel
theorem d23_12 : decode jdk_44_method_1_code 12 = .ok (.aload_n 0, 1) := by decide +kernel
theorem d23_13 : decode jdk_44_method_1_code 13 = .ok (.getstatic 19, 3) := by decide +kernel
theorem d23_16 : decode jdk_44_method_1_code 16 = .ok (.putfield 24, 3) := by decide +kernel
theorem d23_19 : decode jdk_44_method_1_code 19 = .ok (.return_, 1) := by decide +kernel
theorem pd15 : parseMethodDescriptor "(Ljava/lang/Object;)Ljava/lang/Object;" = some ⟨[(.object z3)], some (.object z3)⟩ := by decide +kernel
def r_l12i1 : Room := { frames := 4, cells := 0, slots := 0, locals := 48 }
def Q_l12i1 (Z : State) (a x em : Addr) (h0 : Heap) (v : Option Value) (h : Heap) : Prop := v = none ∧ Keep h0 h [a] ∧ Exa Z h a z8 ∧ Fld Z h a z8 "e0" z10 (.ref x) ∧ Fld Z h a z8 "e1" z10 (.ref em)
theorem rm_l12i1 (l : Launch) (Z : State) (a0 : Array Value) (hw : oHw Z a0) (a x em : Addr) (h0 : Heap) (q0 : Exa Z h0 a z8) (q1 : Fld Z h0 a z8 "e0" z10 .null) (q2 : Fld Z h0 a z8 "e1" z10 .null) (q3 : Z.heap.size ≤ a) (q4 : Sta Z Z.heap z18 "EMPTY" z10 (.ref em)) : oMet l Z (⟨z8, "<init>", "(Ljava/lang/Object;)V"⟩ : MethodName) jdk_44_method_1_code 2 none r_l12i1 [] #[.ref a, .ref x] h0 (Q_l12i1 Z a x em h0) := by
 refine oEnter (plainFor_of_name (by first | (simp [plainName, overriddenIn]; done) | decide +kernel)) (own := z8) (nm := "<init>") rfl rfl (L := #[.val (.ref a), .val (.ref x)]) (fun m => by first | (simp [entryFrame, mkF, argsToLocals, Value.category]; done) | rfl) ?_
 intro pp ee ss mm bb mtd cc T0 K X0
 have E0 := X0.ext0
 refine o_aloadN K X0 d23_0 rfl rfl rfl ?_
 refine o_special K X0 (y := (⟨z25, "<init>", "()V"⟩ : MethodName)) rfl (w169 hw) (w170 hw) (w173 hw) (w174 hw) (by decide) (rm_ail l Z a0 hw a h0) (by decide) rfl (argsL := []) rfl (lenOf pd7 rfl) (W := 0) rfl (by decide) (by decide) (by decide) d23_1 rfl ?_
 intro v1 T1 h1 X1 U1
 obtain ⟨rfl, rfl⟩ := U1
 show oGoes pp ee bb ss Z T1 (mkF mm 4 _ []) _ _ _
 refine o_aloadN K X1 d23_4 rfl rfl rfl ?_
 refine o_aloadN K X1 d23_5 rfl rfl rfl ?_
 refine o_static K X1  (w183 hw) (w184 hw) (w185 hw) (w186 hw) (by decide) (rm_rnn l Z a0 hw x h0) (by decide) rfl (argsL := [.ref x]) rfl (lenOf pd15 rfl) (W := 1) rfl (by decide) (by decide) (by decide) d23_6 rfl ?_
 intro v2 T2 h2 X2 U2
 obtain ⟨rfl, rfl⟩ := U2
 show oGoes pp ee bb ss Z T2 (mkF mm 9 _ [.ref x, .ref a]) _ _ _
 refine o_putfield K X2 (host := "") (Or.inl (w187 hw)) Via.refl q1 q0 (Or.inr ⟨(w188 hw), rfl, rfl⟩) (w163 hw) (ty := (.object z3)) (by decide) rfl rfl q3 d23_9 rfl ?_
 intro T3 h3 X3 W3
 have F3 := Fld.same W3 q1
 refine o_aloadN K X3 d23_12 rfl rfl rfl ?_
 refine o_getstatic K X3 (Or.inr (w189 hw)) Via.refl (q4.ext X3.ext0) d23_13 rfl ?_
 intro T4 X4
 have m6 := (Fld.other W3 q2 (Or.inr (slot_ne (Or.inr (w191 hw)) (Or.inr (w188 hw)) (by decide) (t := (.object z3)) (t' := (.object z3)) (by decide) (by decide))))
 have m7 := (Exa.wr W3 q0)
 refine o_putfield K X4 (host := "") (Or.inl (w190 hw)) Via.refl m6 m7 (Or.inr ⟨(w191 hw), rfl, rfl⟩) (w163 hw) (ty := (.object z3)) (by decide) rfl rfl q3 d23_16 rfl ?_
 intro T5 h5 X5 W5
 have F5 := Fld.same W5 m6
 refine o_return K X5 d23_19 rfl ?_ (by decide) (by decide)
 have m8 := (Exa.wr W5 m7)
 have m9 := (Fld.other W5 F3 (Or.inr (slot_ne (Or.inr (w188 hw)) (Or.inr (w191 hw)) (by decide) (t := (.object z3)) (t' := (.object z3)) (by decide) (by decide))))
 exact ⟨rfl, (((Keep.refl h0 [a]).wr W3 (Or.inl me0)).wr W5 (Or.inl me0)), m8, m9, F5⟩
theorem d24_0 : decode jdk_44_method_2_code 0 = .ok (.aload_n 0, 1) := by decide +kernel
theorem d24_1 : decode jdk_44_method_2_code 1 = .ok (.invokespecial 1, 3) := by decide +kernel
theorem d24_4 : decode jdk_44_method_2_code 4 = .ok (.aload_n 0, 1) := by decide +kernel
theorem d24_5 : decode jdk_44_method_2_code 5 = .ok (.aload_n 1, 1) := by decide +kernel
theorem d24_6 : decode jdk_44_method_2_code 6 = .ok (.invokestatic 7, 3) := by decide +kernel
theorem d24_9 : decode jdk_44_method_2_code 9 = .ok (.putfield 13, 3) := by decide +kernel
theorem d24_12 : decode jdk_44_method_2_code 12 = .ok (.aload_n 0, 1) := by decide +kernel
theorem d24_13 : decode jdk_44_method_2_code 13 = .ok (.aload_n 2, 1) := by decide +kernel
theorem d24_14 : decode jdk_44_method_2_code 14 = .ok (.invokestatic 7, 3) := by decide +kernel
theorem d24_17 : decode jdk_44_method_2_code 17 = .ok (.putfield 24, 3) := by decide +kernel
theorem d24_20 : decode jdk_44_method_2_code 20 = .ok (.return_, 1) := by decide +kernel
def r_l12i2 : Room := { frames := 4, cells := 0, slots := 0, locals := 48 }
def Q_l12i2 (Z : State) (a x y : Addr) (h0 : Heap) (v : Option Value) (h : Heap) : Prop := v = none ∧ Keep h0 h [a] ∧ Exa Z h a z8 ∧ Fld Z h a z8 "e0" z10 (.ref x) ∧ Fld Z h a z8 "e1" z10 (.ref y)
theorem rm_l12i2 (l : Launch) (Z : State) (a0 : Array Value) (hw : oHw Z a0) (a x y : Addr) (h0 : Heap) (q0 : Exa Z h0 a z8) (q1 : Fld Z h0 a z8 "e0" z10 .null) (q2 : Fld Z h0 a z8 "e1" z10 .null) (q3 : Z.heap.size ≤ a) : oMet l Z (⟨z8, "<init>", "(Ljava/lang/Object;Ljava/lang/Object;)V"⟩ : MethodName) jdk_44_method_2_code 3 none r_l12i2 [] #[.ref a, .ref x, .ref y] h0 (Q_l12i2 Z a x y h0) := by
 refine oEnter (plainFor_of_name (by first | (simp [plainName, overriddenIn]; done) | decide +kernel)) (own := z8) (nm := "<init>") rfl rfl (L := #[.val (.ref a), .val (.ref x), .val (.ref y)]) (fun m => by first | (simp [entryFrame, mkF, argsToLocals, Value.category]; done) | rfl) ?_
 intro pp ee ss mm bb mtd cc T0 K X0
 have E0 := X0.ext0
 refine o_aloadN K X0 d24_0 rfl rfl rfl ?_
 refine o_special K X0 (y := (⟨z25, "<init>", "()V"⟩ : MethodName)) rfl (w169 hw) (w170 hw) (w173 hw) (w174 hw) (by decide) (rm_ail l Z a0 hw a h0) (by decide) rfl (argsL := []) rfl (lenOf pd7 rfl) (W := 0) rfl (by decide) (by decide) (by decide) d24_1 rfl ?_
 intro v1 T1 h1 X1 U1
 obtain ⟨rfl, rfl⟩ := U1
 show oGoes pp ee bb ss Z T1 (mkF mm 4 _ []) _ _ _
 refine o_aloadN K X1 d24_4 rfl rfl rfl ?_
 refine o_aloadN K X1 d24_5 rfl rfl rfl ?_
 refine o_static K X1  (w183 hw) (w184 hw) (w185 hw) (w186 hw) (by decide) (rm_rnn l Z a0 hw x h0) (by decide) rfl (argsL := [.ref x]) rfl (lenOf pd15 rfl) (W := 1) rfl (by decide) (by decide) (by decide) d24_6 rfl ?_
 intro v2 T2 h2 X2 U2
 obtain ⟨rfl, rfl⟩ := U2
 show oGoes pp ee bb ss Z T2 (mkF mm 9 _ [.ref x, .ref a]) _ _ _
 refine o_putfield K X2 (host := "") (Or.inl (w187 hw)) Via.refl q1 q0 (Or.inr ⟨(w188 hw), rfl, rfl⟩) (w163 hw) (ty := (.object z3)) (by decide) rfl rfl q3 d24_9 rfl ?_
 intro T3 h3 X3 W3
 have F3 := Fld.same W3 q1
 refine o_aloadN K X3 d24_12 rfl rfl rfl ?_
 refine o_aloadN K X3 d24_13 rfl rfl rfl ?_
 refine o_static K X3  (w183 hw) (w184 hw) (w185 hw) (w186 hw) (by decide) (rm_rnn l Z a0 hw y h3) (by decide) rfl (argsL := [.ref y]) rfl (lenOf pd15 rfl) (W := 1) rfl (by decide) (by decide) (by decide) d24_14 rfl ?_
 intro v4 T4 h4 X4 U4
 obtain ⟨rfl, rfl⟩ := U4
 show oGoes pp ee bb ss Z T4 (mkF mm 17 _ [.ref y, .ref a]) _ _ _
 have m6 := (Fld.other W3 q2 (Or.inr (slot_ne (Or.inr (w191 hw)) (Or.inr (w188 hw)) (by decide) (t := (.object z3)) (t' := (.object z3)) (by decide) (by decide))))
 have m7 := (Exa.wr W3 q0)
 refine o_putfield K X4 (host := "") (Or.inl (w190 hw)) Via.refl m6 m7 (Or.inr ⟨(w191 hw), rfl, rfl⟩) (w163 hw) (ty := (.object z3)) (by decide) rfl rfl q3 d24_17 rfl ?_
 intro T5 h5 X5 W5
 have F5 := Fld.same W5 m6
 refine o_return K X5 d24_20 rfl ?_ (by decide) (by decide)
 have m8 := (Exa.wr W5 m7)
 have m9 := (Fld.other W5 F3 (Or.inr (slot_ne (Or.inr (w188 hw)) (Or.inr (w191 hw)) (by decide) (t := (.object z3)) (t' := (.object z3)) (by decide) (by decide))))
 exact ⟨rfl, (((Keep.refl h0 [a]).wr W3 (Or.inl me0)).wr W5 (Or.inl me0)), m8, m9, F5⟩
theorem d25_0 : decode jdk_45_method_1_code 0 = .ok (.aload_n 0, 1) := by decide +kernel
theorem d25_1 : decode jdk_45_method_1_code 1 = .ok (.invokespecial 1, 3) := by decide +kernel
theorem d25_4 : decode jdk_45_method_1_code 4 = .ok (.aload_n 0, 1) := by decide +kernel
theorem d25_5 : decode jdk_45_method_1_code 5 = .ok (.aload_n 1, 1) := by decide +kernel
theorem d25_6 : decode jdk_45_method_1_code 6 = .ok (.putfield 7, 3) := by decide +kernel
theorem d25_9 : decode jdk_45_method_1_code 9 = .ok (.aload_n 0, 1) := by decide +kernel
theorem d25_10 : decode jdk_45_method_1_code 10 = .ok (.iload_n 2, 1) := by decide +kernel
theorem d25_11 : decode jdk_45_method_1_code 11 = .ok (.putfield 13, 3) := by decide +kernel
theorem d25_14 : decode jdk_45_method_1_code 14 = .ok (.return_, 1) := by decide +kernel
def r_lni : Room := { frames := 4, cells := 0, slots := 0, locals := 48 }
def Q_lni (Z : State) (a x : Addr) (h0 : Heap) (v : Option Value) (h : Heap) : Prop := v = none ∧ Keep h0 h [a] ∧ Exa Z h a z9 ∧ Fld Z h a z9 "elements" z5 (.ref x) ∧ Fld Z h a z9 "allowNulls" "Z" (.int 0)
theorem rm_lni (l : Launch) (Z : State) (a0 : Array Value) (hw : oHw Z a0) (a x : Addr) (h0 : Heap) (q0 : Exa Z h0 a z9) (q1 : Fld Z h0 a z9 "elements" z5 .null) (q2 : Fld Z h0 a z9 "allowNulls" "Z" (.int 0)) (q3 : Z.heap.size ≤ a) : oMet l Z (⟨z9, "<init>", "([Ljava/lang/Object;Z)V"⟩ : MethodName) jdk_45_method_1_code 3 none r_lni [] #[.ref a, .ref x, .int 0] h0 (Q_lni Z a x h0) := by
 refine oEnter (plainFor_of_name (by first | (simp [plainName, overriddenIn]; done) | decide +kernel)) (own := z9) (nm := "<init>") rfl rfl (L := #[.val (.ref a), .val (.ref x), .val (.int 0)]) (fun m => by first | (simp [entryFrame, mkF, argsToLocals, Value.category]; done) | rfl) ?_
 intro pp ee ss mm bb mtd cc T0 K X0
 have E0 := X0.ext0
 refine o_aloadN K X0 d25_0 rfl rfl rfl ?_
 refine o_special K X0 (y := (⟨z25, "<init>", "()V"⟩ : MethodName)) rfl (w291 hw) (w170 hw) (w173 hw) (w174 hw) (by decide) (rm_ail l Z a0 hw a h0) (by decide) rfl (argsL := []) rfl (lenOf pd7 rfl) (W := 0) rfl (by decide) (by decide) (by decide) d25_1 rfl ?_
 intro v1 T1 h1 X1 U1
 obtain ⟨rfl, rfl⟩ := U1
 show oGoes pp ee bb ss Z T1 (mkF mm 4 _ []) _ _ _
 refine o_aloadN K X1 d25_4 rfl rfl rfl ?_
 refine o_aloadN K X1 d25_5 rfl rfl rfl ?_
 refine o_putfield K X1 (host := "") (Or.inl (w295 hw)) Via.refl q1 q0 (Or.inr ⟨(w296 hw), rfl, rfl⟩) (w285 hw) (ty := (.array (.object z3))) (by decide) rfl rfl q3 d25_6 rfl ?_
 intro T2 h2 X2 W2
 have F2 := Fld.same W2 q1
 refine o_aloadN K X2 d25_9 rfl rfl rfl ?_
 refine o_iloadN K X2 d25_10 rfl rfl ?_
 have m4 := (Fld.other W2 q2 (Or.inr (slot_ne (Or.inr (w298 hw)) (Or.inr (w296 hw)) (by decide) (t := .boolean) (t' := (.array (.object z3))) (by decide) (by decide))))
 have m5 := (Exa.wr W2 q0)
 refine o_putfieldN K X2 (w297 hw) Via.refl m4 m5 (Or.inr ⟨(w298 hw), rfl, rfl⟩) (w285 hw) (ty := .boolean) (by decide) (v' := (.int 0)) (congrArg Value.int (by decide)) (oFitboolean (x := (0 : Int32)) (by decide)) q3 d25_11 rfl ?_
 intro T3 h3 X3 W3
 have F3 := Fld.same W3 m4
 refine o_return K X3 d25_14 rfl ?_ (by decide) (by decide)
 have m6 := (Exa.wr W3 m5)
 have m7 := (Fld.other W3 F2 (Or.inr (slot_ne (Or.inr (w296 hw)) (Or.inr (w298 hw)) (by decide) (t := (.array (.object z3))) (t' := .boolean) (by decide) (by decide))))
 exact ⟨rfl, (((Keep.refl h0 [a]).wr W2 (Or.inl me0)).wr W3 (Or.inl me0)), m6, m7, F3⟩
theorem d26_0 : decode jdk_56_method_4_code 0 = .ok (.aload_n 0, 1) := by decide +kernel
theorem d26_1 : decode jdk_56_method_4_code 1 = .ok (.arraylength, 1) := by decide +kernel
theorem d26_2 : decode jdk_56_method_4_code 2 = .ok (.anewarray 2, 3) := by decide +kernel
theorem d26_5 : decode jdk_56_method_4_code 5 = .ok (.astore_n 1, 1) := by decide +kernel
theorem d26_6 : decode jdk_56_method_4_code 6 = .ok (.iconst 0, 1) := by decide +kernel
theorem d26_7 : decode jdk_56_method_4_code 7 = .ok (.istore_n 2, 1) := by decide +kernel
theorem d26_8 : decode jdk_56_method_4_code 8 = .ok (.iload_n 2, 1) := by decide +kernel
theorem d26_9 : decode jdk_56_method_4_code 9 = .ok (.aload_n 0, 1) := by decide +kernel
theorem d26_10 : decode jdk_56_method_4_code 10 = .ok (.arraylength, 1) := by decide +kernel
theorem d26_11 : decode jdk_56_method_4_code 11 = .ok (.if_icmp .ge 18, 3) := by decide +kernel
theorem d26_14 : decode jdk_56_method_4_code 14 = .ok (.aload_n 1, 1) := by decide +kernel
theorem d26_15 : decode jdk_56_method_4_code 15 = .ok (.iload_n 2, 1) := by decide +kernel
theorem d26_16 : decode jdk_56_method_4_code 16 = .ok (.aload_n 0, 1) := by decide +kernel
theorem d26_17 : decode jdk_56_method_4_code 17 = .ok (.iload_n 2, 1) := by decide +kernel
theorem d26_18 : decode jdk_56_method_4_code 18 = .ok (.aaload, 1) := by decide +kernel
theorem d26_19 : decode jdk_56_method_4_code 19 = .ok (.invokestatic 37, 3) := by decide +kernel
theorem d26_22 : decode jdk_56_method_4_code 22 = .ok (.aastore, 1) := by decide +kernel
theorem d26_23 : decode jdk_56_method_4_code 23 = .ok (.iinc 2 1, 3) := by decide +kernel
theorem d26_26 : decode jdk_56_method_4_code 26 = .ok (.goto (-18), 3) := by decide +kernel
theorem d26_29 : decode jdk_56_method_4_code 29 = .ok (.new 12, 3) := by decide +kernel
theorem d26_32 : decode jdk_56_method_4_code 32 = .ok (.dup, 1) := by decide +kernel
theorem d26_33 : decode jdk_56_method_4_code 33 = .ok (.aload_n 1, 1) := by decide +kernel
theorem d26_34 : decode jdk_56_method_4_code 34 = .ok (.iconst 0, 1) := by decide +kernel
theorem d26_35 : decode jdk_56_method_4_code 35 = .ok (.invokespecial 43, 3) := by decide +kernel
theorem d26_38 : decode jdk_56_method_4_code 38 = .ok (.areturn, 1) := by decide +kernel
theorem pd16 : parseMethodDescriptor "([Ljava/lang/Object;Z)V" = some ⟨[(.array (.object z3)), .boolean], none⟩ := by decide +kernel
def r_lfa : Room := { frames := 5, cells := 2, slots := 5, locals := 63 }
def Q_lfa (Z : State) (b : Addr) (k : ClassId) (s0 s1 s2 : Addr) (h0 : Heap) (v : Option Value) (h : Heap) : Prop := ∃ q y : Addr, ∃ ky : ClassId, v = some (.ref q) ∧ Keep h0 h [] ∧ h0.size ≤ q ∧ Exa Z h q z9 ∧ Fld Z h q z9 "elements" z5 (.ref y) ∧ oArr Z h y ky (.object z3) [.ref s0, .ref s1, .ref s2]
theorem rm_lfa (l : Launch) (Z : State) (a0 : Array Value) (hw : oHw Z a0) (b : Addr) (k : ClassId) (s0 s1 s2 : Addr) (h0 : Heap) (q0 : oArr Z h0 b k (.object z3) [.ref s0, .ref s1, .ref s2]) (q1 : Exa Z h0 s0 z0) (q2 : Exa Z h0 s1 z0) (q3 : Exa Z h0 s2 z0) : oMet l Z (⟨z18, "listFromArray", "([Ljava/lang/Object;)Ljava/util/List;"⟩ : MethodName) jdk_56_method_4_code 3 (some (.object z7)) r_lfa [] #[.ref b] h0 (Q_lfa Z b k s0 s1 s2 h0) := by
 refine oEnter (plainFor_of_name (by first | (simp [plainName, overriddenIn]; done) | decide +kernel)) (own := z18) (nm := "listFromArray") rfl rfl (L := #[.val (.ref b), .unset, .unset]) (fun m => by first | (simp [entryFrame, mkF, argsToLocals, Value.category]; done) | rfl) ?_
 intro pp ee ss mm bb mtd cc T0 K X0
 have E0 := X0.ext0
 refine o_aloadN K X0 d26_0 rfl rfl rfl ?_
 refine o_arraylength K X0 q0 (z := 3) rfl d26_1 rfl ?_
 refine o_anewarray K X0 3 (w283 hw) (w95 hw) (ad := z5) (by decide +kernel) (by decide) (by decide) (by decide) d26_2 rfl (by decide) (by decide) ?_
 intro T1 h1 b1 k1 X1 g1 E1 A1 B1 O1 G1
 replace A1 : oArr Z h1 b1 k1 (.object z3) [.null, .null, .null] := A1
 refine o_astoreN K X1 d26_5 rfl rfl (L' := #[vR b, vR b1, uS]) rfl ?_
 refine o_iconst K X1 d26_6 rfl (z := 0) rfl ?_
 refine o_istoreN K X1 d26_7 rfl (L' := #[vR b, vR b1, vI 0]) rfl ?_
 refine o_iloadN K X1 d26_8 rfl rfl ?_
 refine o_aloadN K X1 d26_9 rfl rfl rfl ?_
 have m2 := (q0.ext E1)
 refine o_arraylength K X1 m2 (z := 3) rfl d26_10 rfl ?_
 refine o_icmp_ge_f K X1 d26_11 rfl (by decide) ?_
 refine o_aloadN K X1 d26_14 rfl rfl rfl ?_
 refine o_iloadN K X1 d26_15 rfl rfl ?_
 refine o_aloadN K X1 d26_16 rfl rfl rfl ?_
 refine o_iloadN K X1 d26_17 rfl rfl ?_
 refine o_aaload K X1 rfl m2 (by decide) (v := (.ref s0)) rfl d26_18 rfl ?_
 refine o_static K X1  (w284 hw) (w184 hw) (w185 hw) (w186 hw) (by decide) (rm_rnn l Z a0 hw s0 h1) (by decide) rfl (argsL := [.ref s0]) rfl (lenOf pd15 rfl) (W := 2) rfl (by decide) (by decide) (by decide) d26_19 rfl ?_
 intro v3 T3 h3 X3 U3
 obtain ⟨rfl, rfl⟩ := U3
 show oGoes pp ee bb ss Z T3 (mkF mm 22 _ [.ref s0, .int 0, .ref b1]) _ _ _
 have m5 := (q1.ext E1)
 refine o_aastore K X3 rfl A1 (by decide) (show (0 : Int32).toNatClampNeg < 3 from (by decide)) G1 (oSto A1 O1 (Ins.of_exa m5 (w96 hw))) rfl d26_22 rfl ?_
 intro T4 h4 X4 W4 A4
 replace A4 : oArr Z h4 b1 k1 (.object z3) [.ref s0, .null, .null] := A4
 refine o_iinc K X4 d26_23 rfl rfl (L' := #[vR b, vR b1, vI 1]) (by rw [show (0 : Int32) + Int32.ofInt 1 = (1 : Int32) from (by decide)]; rfl) ?_
 refine o_goto K X4 d26_26 (by decide) (pc' := 8) (by decide) ?_
 refine o_iloadN K X4 d26_8 rfl rfl ?_
 refine o_aloadN K X4 d26_9 rfl rfl rfl ?_
 have n6 := oLz q0.lt (oLe g1)
 have m7 := (m2.other W4 n6)
 refine o_arraylength K X4 m7 (z := 3) rfl d26_10 rfl ?_
 refine o_icmp_ge_f K X4 d26_11 rfl (by decide) ?_
 refine o_aloadN K X4 d26_14 rfl rfl rfl ?_
 refine o_iloadN K X4 d26_15 rfl rfl ?_
 refine o_aloadN K X4 d26_16 rfl rfl rfl ?_
 refine o_iloadN K X4 d26_17 rfl rfl ?_
 refine o_aaload K X4 rfl m7 (by decide) (v := (.ref s1)) rfl d26_18 rfl ?_
 refine o_static K X4  (w284 hw) (w184 hw) (w185 hw) (w186 hw) (by decide) (rm_rnn l Z a0 hw s1 h4) (by decide) rfl (argsL := [.ref s1]) rfl (lenOf pd15 rfl) (W := 2) rfl (by decide) (by decide) (by decide) d26_19 rfl ?_
 intro v8 T8 h8 X8 U8
 obtain ⟨rfl, rfl⟩ := U8
 show oGoes pp ee bb ss Z T8 (mkF mm 22 _ [.ref s1, .int 1, .ref b1]) _ _ _
 have m10 := (Exa.wr W4 (q2.ext E1))
 refine o_aastore K X8 rfl A4 (by decide) (show (1 : Int32).toNatClampNeg < 3 from (by decide)) G1 (oSto A4 O1 (Ins.of_exa m10 (w96 hw))) rfl d26_22 rfl ?_
 intro T9 h9 X9 W9 A9
 replace A9 : oArr Z h9 b1 k1 (.object z3) [.ref s0, .ref s1, .null] := A9
 refine o_iinc K X9 d26_23 rfl rfl (L' := #[vR b, vR b1, vI 2]) (by rw [show (1 : Int32) + Int32.ofInt 1 = (2 : Int32) from (by decide)]; rfl) ?_
 refine o_goto K X9 d26_26 (by decide) (pc' := 8) (by decide) ?_
 refine o_iloadN K X9 d26_8 rfl rfl ?_
 refine o_aloadN K X9 d26_9 rfl rfl rfl ?_
 have m11 := (m7.other W9 n6)
 refine o_arraylength K X9 m11 (z := 3) rfl d26_10 rfl ?_
 refine o_icmp_ge_f K X9 d26_11 rfl (by decide) ?_
 refine o_aloadN K X9 d26_14 rfl rfl rfl ?_
 refine o_iloadN K X9 d26_15 rfl rfl ?_
 refine o_aloadN K X9 d26_16 rfl rfl rfl ?_
 refine o_iloadN K X9 d26_17 rfl rfl ?_
 refine o_aaload K X9 rfl m11 (by decide) (v := (.ref s2)) rfl d26_18 rfl ?_
 refine o_static K X9  (w284 hw) (w184 hw) (w185 hw) (w186 hw) (by decide) (rm_rnn l Z a0 hw s2 h9) (by decide) rfl (argsL := [.ref s2]) rfl (lenOf pd15 rfl) (W := 2) rfl (by decide) (by decide) (by decide) d26_19 rfl ?_
 intro v12 T12 h12 X12 U12
 obtain ⟨rfl, rfl⟩ := U12
 show oGoes pp ee bb ss Z T12 (mkF mm 22 _ [.ref s2, .int 2, .ref b1]) _ _ _
 have m14 := (Exa.wr W9 (Exa.wr W4 (q3.ext E1)))
 refine o_aastore K X12 rfl A9 (by decide) (show (2 : Int32).toNatClampNeg < 3 from (by decide)) G1 (oSto A9 O1 (Ins.of_exa m14 (w96 hw))) rfl d26_22 rfl ?_
 intro T13 h13 X13 W13 A13
 replace A13 : oArr Z h13 b1 k1 (.object z3) [.ref s0, .ref s1, .ref s2] := A13
 refine o_iinc K X13 d26_23 rfl rfl (L' := #[vR b, vR b1, vI 3]) (by rw [show (2 : Int32) + Int32.ofInt 1 = (3 : Int32) from (by decide)]; rfl) ?_
 refine o_goto K X13 d26_26 (by decide) (pc' := 8) (by decide) ?_
 refine o_iloadN K X13 d26_8 rfl rfl ?_
 refine o_aloadN K X13 d26_9 rfl rfl rfl ?_
 have m15 := (m11.other W13 n6)
 refine o_arraylength K X13 m15 (z := 3) rfl d26_10 rfl ?_
 refine o_icmp_ge_t K X13 d26_11 (by decide) (pc' := 29) (by decide) (by decide) ?_
 refine o_new K X13 (w119 hw) (w285 hw) (w286 hw) d26_29 rfl (by decide) (by decide) ?_
 intro T16 h16 b16 X16 g16 E16 A16 D16 G16
 have F16_elements : Fld Z h16 b16 z9 "elements" z5 .null := (D16 (Or.inr (w296 hw)) (ty := (.array (.object z3))) (by decide))
 have F16_allowNulls : Fld Z h16 b16 z9 "allowNulls" "Z" (.int 0) := (D16 (Or.inr (w298 hw)) (ty := .boolean) (by decide))
 refine o_dup K X16 d26_32 rfl rfl ?_
 refine o_aloadN K X16 d26_33 rfl rfl rfl ?_
 refine o_iconst K X16 d26_34 rfl (z := 0) rfl ?_
 refine o_specialN K X16 (y := (⟨z9, "<init>", "([Ljava/lang/Object;Z)V"⟩ : MethodName)) rfl (w287 hw) (w288 hw) (w286 hw) (w290 hw) (by decide) (rm_lni l Z a0 hw b16 b1 h16 A16 F16_elements F16_allowNulls G16) (by decide) rfl (argsL := [.ref b1, .int 0]) rfl (lenOf pd16 rfl) (W := 1) rfl (by decide) (by decide) (by decide) d26_35 rfl ?_
 intro v17 T17 h17 X17 U17
 obtain ⟨rfl, u17_0, u17_1, u17_2, u17_3⟩ := U17
 show oGoes pp ee bb ss Z T17 (mkF mm 38 _ [.ref b16]) _ _ _
 refine o_areturn K X17 (t := (.object z7)) d26_38 rfl rfl rfl ?_ (by decide) (by decide)
 have y0_4 := Nat.le_trans (Nat.le_trans (Nat.le_trans E1.1 (Keep.of_wr W4).1) (Keep.of_wr W9).1) (Keep.of_wr W13).1
 have y1_4 := Nat.le_trans (Nat.le_trans (Keep.of_wr W4).1 (Keep.of_wr W9).1) (Keep.of_wr W13).1
 have n18 := oLn A1.lt y1_4 (oLe g16)
 have m19 := ((A13.ext E16).keep u17_0 (ninS n18 nin0))
 exact ⟨b16, b1, k1, rfl, (((((((Keep.refl h0 []).ext E1).wr W4 (Or.inr (oLe g1))).wr W9 (Or.inr (oLe g1))).wr W13 (Or.inr (oLe g1))).ext E16).trans u17_0 (allS (Or.inr (Nat.le_trans y0_4 (oLe g16))) all0)), (Nat.le_trans y0_4 (oLe g16)), u17_1, u17_2, m19⟩
theorem d27_0 : decode jdk_29_method_69_code 0 = .ok (.iload_n 0, 1) := by decide +kernel
theorem d27_1 : decode jdk_29_method_69_code 1 = .ok (.iload_n 1, 1) := by decide +kernel
theorem d27_2 : decode jdk_29_method_69_code 2 = .ok (.if_icmp .gt 7, 3) := by decide +kernel
theorem d27_9 : decode jdk_29_method_69_code 9 = .ok (.iload_n 1, 1) := by decide +kernel
theorem d27_10 : decode jdk_29_method_69_code 10 = .ok (.ireturn, 1) := by decide +kernel
def r_min1 : Room := { frames := 0, cells := 0, slots := 0, locals := 0 }
def Q_min1 (Z : State) (h0 : Heap) (v : Option Value) (h : Heap) : Prop := v = some (.int 1) ∧ h0 = h
theorem rm_min1 (l : Launch) (Z : State) (a0 : Array Value) (hw : oHw Z a0) (h0 : Heap) : oMet l Z (⟨"java/lang/Math", "min", "(II)I"⟩ : MethodName) jdk_29_method_69_code 2 (some .int) r_min1 [] #[.int 10, .int 1] h0 (Q_min1 Z h0) := by
 refine oEnter (Jvm.Free.JP.mathPlain rfl (by decide +kernel)) (own := "java/lang/Math") (nm := "min") rfl rfl (L := #[.val (.int 10), .val (.int 1)]) (fun m => by first | (simp [entryFrame, mkF, argsToLocals, Value.category]; done) | rfl) ?_
 intro pp ee ss mm bb mtd cc T0 K X0
 have E0 := X0.ext0
 refine o_iloadN K X0 d27_0 rfl rfl ?_
 refine o_iloadN K X0 d27_1 rfl rfl ?_
 refine o_icmp_gt_t K X0 d27_2 (by decide) (pc' := 9) (by decide) (by decide) ?_
 refine o_iloadN K X0 d27_9 rfl rfl ?_
 refine o_ireturn K X0 d27_10 rfl ?_ (by decide) (by decide)
 exact ⟨rfl, rfl⟩
theorem d28_0 : decode jdk_40_method_47_code 0 = .ok (.aload_n 0, 1) := by decide +kernel
theorem d28_1 : decode jdk_40_method_47_code 1 = .ok (.arraylength, 1) := by decide +kernel
theorem d28_2 : decode jdk_40_method_47_code 2 = .ok (.tableswitch 57 0 2 #[26, 32, 43], 26) := by decide +kernel
theorem d28_34 : decode jdk_40_method_47_code 34 = .ok (.new 96, 3) := by decide +kernel
theorem d28_37 : decode jdk_40_method_47_code 37 = .ok (.dup, 1) := by decide +kernel
theorem d28_38 : decode jdk_40_method_47_code 38 = .ok (.aload_n 0, 1) := by decide +kernel
theorem d28_39 : decode jdk_40_method_47_code 39 = .ok (.iconst 0, 1) := by decide +kernel
theorem d28_40 : decode jdk_40_method_47_code 40 = .ok (.aaload, 1) := by decide +kernel
theorem d28_41 : decode jdk_40_method_47_code 41 = .ok (.invokespecial 98, 3) := by decide +kernel
theorem d28_44 : decode jdk_40_method_47_code 44 = .ok (.areturn, 1) := by decide +kernel
theorem pd17 : parseMethodDescriptor "(Ljava/lang/Object;)V" = some ⟨[(.object z3)], none⟩ := by decide +kernel
def r_lof1 : Room := { frames := 5, cells := 1, slots := 2, locals := 62 }
def Q_lof1 (Z : State) (b : Addr) (k : ClassId) (s0 em : Addr) (h0 : Heap) (v : Option Value) (h : Heap) : Prop := ∃ q : Addr, v = some (.ref q) ∧ Keep h0 h [] ∧ h0.size ≤ q ∧ Exa Z h q z8 ∧ Fld Z h q z8 "e0" z10 (.ref s0) ∧ Fld Z h q z8 "e1" z10 (.ref em)
theorem rm_lof1 (l : Launch) (Z : State) (a0 : Array Value) (hw : oHw Z a0) (b : Addr) (k : ClassId) (s0 em : Addr) (h0 : Heap) (q0 : oArr Z h0 b k (.object z3) [.ref s0]) (q1 : Exa Z h0 s0 z0) (q2 : Sta Z Z.heap z18 "EMPTY" z10 (.ref em)) : oMet l Z (⟨z7, "of", "([Ljava/lang/Object;)Ljava/util/List;"⟩ : MethodName) jdk_40_method_47_code 2 (some (.object z7)) r_lof1 [] #[.ref b] h0 (Q_lof1 Z b k s0 em h0) := by
 refine oEnter (plainFor_of_name (by first | (simp [plainName, overriddenIn]; done) | decide +kernel)) (own := z7) (nm := "of") rfl rfl (L := #[.val (.ref b), .unset]) (fun m => by first | (simp [entryFrame, mkF, argsToLocals, Value.category]; done) | rfl) ?_
 intro pp ee ss mm bb mtd cc T0 K X0
 have E0 := X0.ext0
 refine o_aloadN K X0 d28_0 rfl rfl rfl ?_
 refine o_arraylength K X0 q0 (z := 1) rfl d28_1 rfl ?_
 refine o_tswIn K X0 d28_2 (o := 32) (by decide) (by decide) (by decide) (pc' := 34) (by decide) ?_
 refine o_new K X0 (w162 hw) (w163 hw) (w164 hw) d28_34 rfl (by decide) (by decide) ?_
 intro T1 h1 b1 X1 g1 E1 A1 D1 G1
 have F1_e0 : Fld Z h1 b1 z8 "e0" z10 .null := (D1 (Or.inr (w188 hw)) (ty := (.object z3)) (by decide))
 have F1_e1 : Fld Z h1 b1 z8 "e1" z10 .null := (D1 (Or.inr (w191 hw)) (ty := (.object z3)) (by decide))
 refine o_dup K X1 d28_37 rfl rfl ?_
 refine o_aloadN K X1 d28_38 rfl rfl rfl ?_
 refine o_iconst K X1 d28_39 rfl (z := 0) rfl ?_
 have m2 := (q0.ext E1)
 refine o_aaload K X1 rfl m2 (by decide) (v := (.ref s0)) rfl d28_40 rfl ?_
 refine o_special K X1 (y := (⟨z8, "<init>", "(Ljava/lang/Object;)V"⟩ : MethodName)) rfl (w165 hw) (w166 hw) (w164 hw) (w168 hw) (by decide) (rm_l12i1 l Z a0 hw b1 s0 em h1 A1 F1_e0 F1_e1 G1 q2) (by decide) rfl (argsL := [.ref s0]) rfl (lenOf pd17 rfl) (W := 1) rfl (by decide) (by decide) (by decide) d28_41 rfl ?_
 intro v3 T3 h3 X3 U3
 obtain ⟨rfl, u3_0, u3_1, u3_2, u3_3⟩ := U3
 show oGoes pp ee bb ss Z T3 (mkF mm 44 _ [.ref b1]) _ _ _
 refine o_areturn K X3 (t := (.object z7)) d28_44 rfl rfl rfl ?_ (by decide) (by decide)
 exact ⟨b1, rfl, (((Keep.refl h0 []).ext E1).trans u3_0 (allS (Or.inr (oLe g1)) all0)), (oLe g1), u3_1, u3_2, u3_3⟩
theorem d29_0 : decode jdk_65_method_120_code 0 = .ok (.aload_n 2, 1) := by decide +kernel
theorem d29_1 : decode jdk_65_method_120_code 1 = .ok (.ldc 110, 2) := by decide +kernel
theorem d29_3 : decode jdk_65_method_120_code 3 = .ok (.if_acmp .ne 10, 3) := by decide +kernel
theorem d29_6 : decode jdk_65_method_120_code 6 = .ok (.iload_n 1, 1) := by decide +kernel
theorem d29_7 : decode jdk_65_method_120_code 7 = .ok (.anewarray 2, 3) := by decide +kernel
theorem d29_10 : decode jdk_65_method_120_code 10 = .ok (.goto 14, 3) := by decide +kernel
theorem d29_24 : decode jdk_65_method_120_code 24 = .ok (.astore_n 3, 1) := by decide +kernel
theorem d29_25 : decode jdk_65_method_120_code 25 = .ok (.aload_n 0, 1) := by decide +kernel
theorem d29_26 : decode jdk_65_method_120_code 26 = .ok (.iconst 0, 1) := by decide +kernel
theorem d29_27 : decode jdk_65_method_120_code 27 = .ok (.aload_n 3, 1) := by decide +kernel
theorem d29_28 : decode jdk_65_method_120_code 28 = .ok (.iconst 0, 1) := by decide +kernel
theorem d29_29 : decode jdk_65_method_120_code 29 = .ok (.aload_n 0, 1) := by decide +kernel
theorem d29_30 : decode jdk_65_method_120_code 30 = .ok (.arraylength, 1) := by decide +kernel
theorem d29_31 : decode jdk_65_method_120_code 31 = .ok (.iload_n 1, 1) := by decide +kernel
theorem d29_32 : decode jdk_65_method_120_code 32 = .ok (.invokestatic 304, 3) := by decide +kernel
theorem d29_35 : decode jdk_65_method_120_code 35 = .ok (.invokestatic 150, 3) := by decide +kernel
theorem d29_38 : decode jdk_65_method_120_code 38 = .ok (.aload_n 3, 1) := by decide +kernel
theorem d29_39 : decode jdk_65_method_120_code 39 = .ok (.areturn, 1) := by decide +kernel
def r_cpy3_1 : Room := { frames := 1, cells := 1, slots := 1, locals := 18 }
def Q_cpy3_1 (Z : State) (b : Addr) (k : ClassId) (s0 mr : Addr) (h0 : Heap) (v : Option Value) (h : Heap) : Prop := ∃ r : Addr, ∃ kr : ClassId, v = some (.ref r) ∧ Keep h0 h [] ∧ h0.size ≤ r ∧ oArr Z h r kr (.object z3) [.ref s0] ∧ Ovr Z kr z3
theorem rm_cpy3_1 (l : Launch) (Z : State) (a0 : Array Value) (hw : oHw Z a0) (b : Addr) (k : ClassId) (s0 mr : Addr) (h0 : Heap) (q0 : oArr Z h0 b k (.object z3) [.ref s0, .null, .null, .null, .null, .null, .null, .null, .null, .null]) (q1 : Exa Z h0 b z5) (q2 : Exa Z h0 s0 z0) (q3 : oMir Z z5 mr) : oMet l Z (⟨"java/util/Arrays", "copyOf", "([Ljava/lang/Object;ILjava/lang/Class;)[Ljava/lang/Object;"⟩ : MethodName) jdk_65_method_120_code 4 (some (.array (.object z3))) r_cpy3_1 [] #[.ref b, .int 1, .ref mr] h0 (Q_cpy3_1 Z b k s0 mr h0) := by
 refine oEnter (plainFor_of_name (by first | (simp [plainName, overriddenIn]; done) | decide +kernel)) (own := "java/util/Arrays") (nm := "copyOf") rfl rfl (L := #[.val (.ref b), .val (.int 1), .val (.ref mr), .unset]) (fun m => by first | (simp [entryFrame, mkF, argsToLocals, Value.category]; done) | rfl) ?_
 intro pp ee ss mm bb mtd cc T0 K X0
 have E0 := X0.ext0
 refine o_aloadN K X0 d29_0 rfl rfl rfl ?_
 refine o_ldcClass K X0 (w150 hw) q3 d29_1 rfl ?_
 intro T1 X1
 refine o_acmp K X1 true d29_3 (by decide) rfl rfl (decide_eq_true rfl) (pc' := 6) (by decide) ?_
 refine o_iloadN K X1 d29_6 rfl rfl ?_
 refine o_anewarray K X1 1 (w151 hw) (w95 hw) (ad := z5) (by decide +kernel) (by decide) (by decide) (by decide) d29_7 rfl (by decide) (by decide) ?_
 intro T2 h2 b2 k2 X2 g2 E2 A2 B2 O2 G2
 replace A2 : oArr Z h2 b2 k2 (.object z3) [.null] := A2
 refine o_goto K X2 d29_10 (by decide) (pc' := 24) (by decide) ?_
 refine o_astoreN K X2 d29_24 rfl rfl (L' := #[vR b, vI 1, vR mr, vR b2]) rfl ?_
 refine o_aloadN K X2 d29_25 rfl rfl rfl ?_
 refine o_iconst K X2 d29_26 rfl (z := 0) rfl ?_
 refine o_aloadN K X2 d29_27 rfl rfl rfl ?_
 refine o_iconst K X2 d29_28 rfl (z := 0) rfl ?_
 refine o_aloadN K X2 d29_29 rfl rfl rfl ?_
 have m3 := (q0.ext E2)
 refine o_arraylength K X2 m3 (z := 10) rfl d29_30 rfl ?_
 refine o_iloadN K X2 d29_31 rfl rfl ?_
 refine o_static K X2  (w152 hw) (w153 hw) (w92 hw) (w154 hw) (by decide) (rm_min1 l Z a0 hw  h2) (by decide) rfl (argsL := [.int 10, .int 1]) rfl (lenOf pd8 rfl) (W := 4) rfl (by decide) (by decide) (by decide) d29_32 rfl ?_
 intro v4 T4 h4 X4 U4
 obtain ⟨rfl, rfl⟩ := U4
 show oGoes pp ee bb ss Z T4 (mkF mm 35 _ [.int 1, .int 0, .ref b2, .int 0, .ref b]) _ _ _
 have m6 := (q2.ext E2)
 refine o_arraycopy K X4 [.ref s0] [.ref s0] (w155 hw) (w158 hw) (w156 hw) (w157 hw) m3 A2 (Or.inr ⟨rfl, rfl, ⟨(oSto A2 O2 (Ins.of_exa m6 (w96 hw))), trivial⟩⟩) (by decide) (by decide) (by decide) (show (0 : Int32).toNatClampNeg + (1 : Int32).toNatClampNeg ≤ 10 from (by decide)) (show (0 : Int32).toNatClampNeg + (1 : Int32).toNatClampNeg ≤ 1 from (by decide)) rfl rfl rfl G2 d29_35 rfl rfl (by decide) (W := 0) rfl (by decide) ?_
 intro T5 h5 X5 K5 A5
 refine o_aloadN K X5 d29_38 rfl rfl rfl ?_
 refine o_areturn K X5 (t := (.array (.object z3))) d29_39 rfl rfl rfl ?_ (by decide) (by decide)
 exact ⟨b2, k2, rfl, (((Keep.refl h0 []).ext E2).trans K5 (allS (Or.inr (oLe g2)) all0)), (oLe g2), A5, O2⟩
theorem d30_0 : decode jdk_65_method_119_code 0 = .ok (.aload_n 0, 1) := by decide +kernel
theorem d30_1 : decode jdk_65_method_119_code 1 = .ok (.iload_n 1, 1) := by decide +kernel
theorem d30_2 : decode jdk_65_method_119_code 2 = .ok (.aload_n 0, 1) := by decide +kernel
theorem d30_3 : decode jdk_65_method_119_code 3 = .ok (.invokevirtual 86, 3) := by decide +kernel
theorem d30_6 : decode jdk_65_method_119_code 6 = .ok (.invokestatic 300, 3) := by decide +kernel
theorem d30_9 : decode jdk_65_method_119_code 9 = .ok (.areturn, 1) := by decide +kernel
theorem pd18 : parseMethodDescriptor "([Ljava/lang/Object;ILjava/lang/Class;)[Ljava/lang/Object;" = some ⟨[(.array (.object z3)), .int, (.object "java/lang/Class")], some (.array (.object z3))⟩ := by decide +kernel
def r_cpy2_1 : Room := { frames := 2, cells := 1, slots := 1, locals := 33 }
def Q_cpy2_1 (Z : State) (b : Addr) (k : ClassId) (s0 mr : Addr) (h0 : Heap) (v : Option Value) (h : Heap) : Prop := ∃ r : Addr, ∃ kr : ClassId, v = some (.ref r) ∧ Keep h0 h [] ∧ h0.size ≤ r ∧ oArr Z h r kr (.object z3) [.ref s0] ∧ Ovr Z kr z3
theorem rm_cpy2_1 (l : Launch) (Z : State) (a0 : Array Value) (hw : oHw Z a0) (b : Addr) (k : ClassId) (s0 mr : Addr) (h0 : Heap) (q0 : oArr Z h0 b k (.object z3) [.ref s0, .null, .null, .null, .null, .null, .null, .null, .null, .null]) (q1 : Exa Z h0 b z5) (q2 : Exa Z h0 s0 z0) (q3 : oMir Z z5 mr) : oMet l Z (⟨"java/util/Arrays", "copyOf", "([Ljava/lang/Object;I)[Ljava/lang/Object;"⟩ : MethodName) jdk_65_method_119_code 2 (some (.array (.object z3))) r_cpy2_1 [] #[.ref b, .int 1] h0 (Q_cpy2_1 Z b k s0 mr h0) := by
 refine oEnter (plainFor_of_name (by first | (simp [plainName, overriddenIn]; done) | decide +kernel)) (own := "java/util/Arrays") (nm := "copyOf") rfl rfl (L := #[.val (.ref b), .val (.int 1)]) (fun m => by first | (simp [entryFrame, mkF, argsToLocals, Value.category]; done) | rfl) ?_
 intro pp ee ss mm bb mtd cc T0 K X0
 have E0 := X0.ext0
 refine o_aloadN K X0 d30_0 rfl rfl rfl ?_
 refine o_iloadN K X0 d30_1 rfl rfl ?_
 refine o_aloadN K X0 d30_2 rfl rfl rfl ?_
 refine o_getClass K X0 (w141 hw) (w142 hw) (w118 hw) (w144 hw) (w143 hw) (w145 hw) q1 q3 d30_3 rfl rfl (by decide) (W := 2) rfl (by decide) ?_
 intro T1 X1
 refine o_static K X1  (w147 hw) (w148 hw) (w139 hw) (w149 hw) (by decide) (rm_cpy3_1 l Z a0 hw b k s0 mr h0 q0 q1 q2 q3) (by decide) rfl (argsL := [.ref b, .int 1, .ref mr]) rfl (lenOf pd18 rfl) (W := 0) rfl (by decide) (by decide) (by decide) d30_6 rfl ?_
 intro v2 T2 h2 X2 U2
 obtain ⟨r_2, kr_2, rfl, u2_0, u2_1, u2_2, u2_3⟩ := U2
 have G2_r : Z.heap.size ≤ r_2 := Nat.le_trans X1.ext0.1 u2_1
 show oGoes pp ee bb ss Z T2 (mkF mm 9 _ [.ref r_2]) _ _ _
 refine o_areturn K X2 (t := (.array (.object z3))) d30_9 rfl rfl rfl ?_ (by decide) (by decide)
 exact ⟨r_2, kr_2, rfl, ((Keep.refl h0 []).trans u2_0 all0), u2_1, u2_2, u2_3⟩
theorem d31_0 : decode jdk_38_method_9_code 0 = .ok (.aload_n 0, 1) := by decide +kernel
theorem d31_1 : decode jdk_38_method_9_code 1 = .ok (.getfield 48, 3) := by decide +kernel
theorem d31_4 : decode jdk_38_method_9_code 4 = .ok (.ifCond .ne 7, 3) := by decide +kernel
theorem d31_11 : decode jdk_38_method_9_code 11 = .ok (.iconst 0, 1) := by decide +kernel
theorem d31_12 : decode jdk_38_method_9_code 12 = .ok (.ireturn, 1) := by decide +kernel
def r_alemp1 : Room := { frames := 0, cells := 0, slots := 0, locals := 0 }
def Q_alemp1 (Z : State) (a : Addr) (h0 : Heap) (v : Option Value) (h : Heap) : Prop := v = some (.int 0) ∧ h0 = h
theorem rm_alemp1 (l : Launch) (Z : State) (a0 : Array Value) (hw : oHw Z a0) (a : Addr) (h0 : Heap) (q0 : Fld Z h0 a z1 "size" "I" (.int 1)) : oMet l Z (⟨z1, "isEmpty", "()Z"⟩ : MethodName) jdk_38_method_9_code 1 (some .boolean) r_alemp1 [] #[.ref a] h0 (Q_alemp1 Z a h0) := by
 refine oEnter (plainFor_of_name (by first | (simp [plainName, overriddenIn]; done) | decide +kernel)) (own := z1) (nm := "isEmpty") rfl rfl (L := #[.val (.ref a)]) (fun m => by first | (simp [entryFrame, mkF, argsToLocals, Value.category]; done) | rfl) ?_
 intro pp ee ss mm bb mtd cc T0 K X0
 have E0 := X0.ext0
 refine o_aloadN K X0 d31_0 rfl rfl rfl ?_
 refine o_getfield K X0 (host := "") (Or.inl (w73 hw)) Via.refl q0 d31_1 rfl ?_
 intro T1 X1
 refine o_if_ne_t K X1 d31_4 (by decide) (pc' := 11) (by decide) (by decide) ?_
 refine o_iconst K X1 d31_11 rfl (z := 0) rfl ?_
 refine o_ireturnN K X1 .boolean d31_12 rfl (by simp) (z' := 0) (by decide) ?_ (by decide) (by decide)
 exact ⟨rfl, rfl⟩
theorem d32_0 : decode jdk_38_method_16_code 0 = .ok (.aload_n 0, 1) := by decide +kernel
theorem d32_1 : decode jdk_38_method_16_code 1 = .ok (.getfield 9, 3) := by decide +kernel
theorem d32_4 : decode jdk_38_method_16_code 4 = .ok (.aload_n 0, 1) := by decide +kernel
theorem d32_5 : decode jdk_38_method_16_code 5 = .ok (.getfield 48, 3) := by decide +kernel
theorem d32_8 : decode jdk_38_method_16_code 8 = .ok (.invokestatic 66, 3) := by decide +kernel
theorem d32_11 : decode jdk_38_method_16_code 11 = .ok (.areturn, 1) := by decide +kernel
theorem pd19 : parseMethodDescriptor "([Ljava/lang/Object;I)[Ljava/lang/Object;" = some ⟨[(.array (.object z3)), .int], some (.array (.object z3))⟩ := by decide +kernel
def r_altoa1 : Room := { frames := 3, cells := 1, slots := 1, locals := 46 }
def Q_altoa1 (Z : State) (a b : Addr) (k : ClassId) (s0 mr : Addr) (h0 : Heap) (v : Option Value) (h : Heap) : Prop := ∃ r : Addr, ∃ kr : ClassId, v = some (.ref r) ∧ Keep h0 h [] ∧ h0.size ≤ r ∧ oArr Z h r kr (.object z3) [.ref s0] ∧ Ovr Z kr z3
theorem rm_altoa1 (l : Launch) (Z : State) (a0 : Array Value) (hw : oHw Z a0) (a b : Addr) (k : ClassId) (s0 mr : Addr) (h0 : Heap) (q0 : Exa Z h0 a z1) (q1 : Fld Z h0 a z1 z14 z5 (.ref b)) (q2 : Fld Z h0 a z1 "size" "I" (.int 1)) (q3 : oArr Z h0 b k (.object z3) [.ref s0, .null, .null, .null, .null, .null, .null, .null, .null, .null]) (q4 : Exa Z h0 b z5) (q5 : Exa Z h0 s0 z0) (q6 : oMir Z z5 mr) : oMet l Z (⟨z1, "toArray", z19⟩ : MethodName) jdk_38_method_16_code 1 (some (.array (.object z3))) r_altoa1 [] #[.ref a] h0 (Q_altoa1 Z a b k s0 mr h0) := by
 refine oEnter (plainFor_of_name (by first | (simp [plainName, overriddenIn]; done) | decide +kernel)) (own := z1) (nm := "toArray") rfl rfl (L := #[.val (.ref a)]) (fun m => by first | (simp [entryFrame, mkF, argsToLocals, Value.category]; done) | rfl) ?_
 intro pp ee ss mm bb mtd cc T0 K X0
 have E0 := X0.ext0
 refine o_aloadN K X0 d32_0 rfl rfl rfl ?_
 refine o_getfield K X0 (host := "") (Or.inl (w32 hw)) Via.refl q1 d32_1 rfl ?_
 intro T1 X1
 refine o_aloadN K X1 d32_4 rfl rfl rfl ?_
 refine o_getfield K X1 (host := "") (Or.inl (w73 hw)) Via.refl q2 d32_5 rfl ?_
 intro T2 X2
 refine o_static K X2  (w137 hw) (w138 hw) (w139 hw) (w140 hw) (by decide) (rm_cpy2_1 l Z a0 hw b k s0 mr h0 q3 q4 q5 q6) (by decide) rfl (argsL := [.ref b, .int 1]) rfl (lenOf pd19 rfl) (W := 0) rfl (by decide) (by decide) (by decide) d32_8 rfl ?_
 intro v3 T3 h3 X3 U3
 obtain ⟨r_3, kr_3, rfl, u3_0, u3_1, u3_2, u3_3⟩ := U3
 have G3_r : Z.heap.size ≤ r_3 := Nat.le_trans X2.ext0.1 u3_1
 show oGoes pp ee bb ss Z T3 (mkF mm 11 _ [.ref r_3]) _ _ _
 refine o_areturn K X3 (t := (.array (.object z3))) d32_11 rfl rfl rfl ?_ (by decide) (by decide)
 exact ⟨r_3, kr_3, rfl, ((Keep.refl h0 []).trans u3_0 all0), u3_1, u3_2, u3_3⟩
theorem d33_0 : decode jdk_56_method_3_code 0 = .ok (.aload_n 0, 1) := by decide +kernel
theorem d33_1 : decode jdk_56_method_3_code 1 = .ok (.instanceof 10, 3) := by decide +kernel
theorem d33_4 : decode jdk_56_method_3_code 4 = .ok (.ifCond .ne 22, 3) := by decide +kernel
theorem d33_7 : decode jdk_56_method_3_code 7 = .ok (.aload_n 0, 1) := by decide +kernel
theorem d33_8 : decode jdk_56_method_3_code 8 = .ok (.instanceof 12, 3) := by decide +kernel
theorem d33_11 : decode jdk_56_method_3_code 11 = .ok (.ifCond .eq 20, 3) := by decide +kernel
theorem d33_31 : decode jdk_56_method_3_code 31 = .ok (.aload_n 0, 1) := by decide +kernel
theorem d33_32 : decode jdk_56_method_3_code 32 = .ok (.invokeinterface 20 1, 5) := by decide +kernel
theorem d33_37 : decode jdk_56_method_3_code 37 = .ok (.ifCond .eq 7, 3) := by decide +kernel
theorem d33_44 : decode jdk_56_method_3_code 44 = .ok (.aload_n 0, 1) := by decide +kernel
theorem d33_45 : decode jdk_56_method_3_code 45 = .ok (.invokeinterface 30 1, 5) := by decide +kernel
theorem d33_50 : decode jdk_56_method_3_code 50 = .ok (.invokestatic 34, 3) := by decide +kernel
theorem d33_53 : decode jdk_56_method_3_code 53 = .ok (.areturn, 1) := by decide +kernel
theorem pd20 : parseMethodDescriptor "()Z" = some ⟨[], some .boolean⟩ := by decide +kernel
theorem pd21 : parseMethodDescriptor "([Ljava/lang/Object;)Ljava/util/List;" = some ⟨[(.array (.object z3))], some (.object z7)⟩ := by decide +kernel
def r_lcpy1 : Room := { frames := 6, cells := 2, slots := 3, locals := 75 }
def Q_lcpy1 (Z : State) (a b : Addr) (k : ClassId) (s0 mr em : Addr) (h0 : Heap) (v : Option Value) (h : Heap) : Prop := ∃ q : Addr, v = some (.ref q) ∧ Keep h0 h [] ∧ h0.size ≤ q ∧ Exa Z h q z8 ∧ Fld Z h q z8 "e0" z10 (.ref s0) ∧ Fld Z h q z8 "e1" z10 (.ref em)
theorem rm_lcpy1 (l : Launch) (Z : State) (a0 : Array Value) (hw : oHw Z a0) (a b : Addr) (k : ClassId) (s0 mr em : Addr) (h0 : Heap) (q0 : Exa Z h0 a z1) (q1 : Fld Z h0 a z1 z14 z5 (.ref b)) (q2 : Fld Z h0 a z1 "size" "I" (.int 1)) (q3 : oArr Z h0 b k (.object z3) [.ref s0, .null, .null, .null, .null, .null, .null, .null, .null, .null]) (q4 : Exa Z h0 b z5) (q5 : Exa Z h0 s0 z0) (q6 : oMir Z z5 mr) (q7 : Sta Z Z.heap z18 "EMPTY" z10 (.ref em)) : oMet l Z (⟨z18, "listCopy", z24⟩ : MethodName) jdk_56_method_3_code 2 (some (.object z7)) r_lcpy1 [] #[.ref a] h0 (Q_lcpy1 Z a b k s0 mr em h0) := by
 refine oEnter (plainFor_of_name (by first | (simp [plainName, overriddenIn]; done) | decide +kernel)) (own := z18) (nm := "listCopy") rfl rfl (L := #[.val (.ref a), .unset]) (fun m => by first | (simp [entryFrame, mkF, argsToLocals, Value.category]; done) | rfl) ?_
 intro pp ee ss mm bb mtd cc T0 K X0
 have E0 := X0.ext0
 refine o_aloadN K X0 d33_0 rfl rfl rfl ?_
 refine o_instanceofNo K X0 (w114 hw) q0 (oNSno (w115 hw) (w163 hw) (NS.step (w115 hw) (NS.step (w116 hw) (NS.step (w117 hw) (oNSroot (w118 hw) (w163 hw) (by decide)) (by decide)) (by decide)) (by decide)) (by decide)) d33_1 rfl ?_
 intro T1 X1
 refine o_if_ne_f K X1 d33_4 rfl (by decide) ?_
 refine o_aloadN K X1 d33_7 rfl rfl rfl ?_
 refine o_instanceofNo K X1 (w119 hw) q0 (oNSno (w115 hw) (w285 hw) (NS.step (w115 hw) (NS.step (w116 hw) (NS.step (w117 hw) (oNSroot (w118 hw) (w285 hw) (by decide)) (by decide)) (by decide)) (by decide)) (by decide)) d33_8 rfl ?_
 intro T2 X2
 refine o_if_eq_t K X2 d33_11 (by decide) (pc' := 31) (by decide) (by decide) ?_
 refine o_aloadN K X2 d33_31 rfl rfl rfl ?_
 refine o_interface K X2 (y := (⟨"java/util/Collection", "isEmpty", "()Z"⟩ : MethodName)) (z := (⟨z1, "isEmpty", "()Z"⟩ : MethodName)) (w120 hw) (w121 hw) (w122 hw) rfl (w123 hw) (w124 hw) (w125 hw) (w126 hw) (w127 hw) (w10 hw) (w128 hw) (by decide) q0 (rm_alemp1 l Z a0 hw a h0 q2) (by decide) rfl (argsL := []) rfl (lenOf pd20 rfl) (W := 0) rfl (by decide) (by decide) (by decide) d33_32 rfl ?_
 intro v3 T3 h3 X3 U3
 obtain ⟨rfl, rfl⟩ := U3
 show oGoes pp ee bb ss Z T3 (mkF mm 37 _ [.int 0]) _ _ _
 refine o_if_eq_t K X3 d33_37 (by decide) (pc' := 44) (by decide) (by decide) ?_
 refine o_aloadN K X3 d33_44 rfl rfl rfl ?_
 refine o_interface K X3 (y := (⟨"java/util/Collection", "toArray", z19⟩ : MethodName)) (z := (⟨z1, "toArray", z19⟩ : MethodName)) (w129 hw) (w130 hw) (w131 hw) rfl (w132 hw) (w133 hw) (w134 hw) (w135 hw) (w127 hw) (w10 hw) (w136 hw) (by decide) q0 (rm_altoa1 l Z a0 hw a b k s0 mr h0 q0 q1 q2 q3 q4 q5 q6) (by decide) rfl (argsL := []) rfl (lenOf pd10 rfl) (W := 0) rfl (by decide) (by decide) (by decide) d33_45 rfl ?_
 intro v4 T4 h4 X4 U4
 obtain ⟨r_4, kr_4, rfl, u4_0, u4_1, u4_2, u4_3⟩ := U4
 have G4_r : Z.heap.size ≤ r_4 := Nat.le_trans X3.ext0.1 u4_1
 show oGoes pp ee bb ss Z T4 (mkF mm 50 _ [.ref r_4]) _ _ _
 have m5 := (q5.keep u4_0)
 refine o_static K X4  (w159 hw) (w160 hw) (w108 hw) (w161 hw) (by decide) (rm_lof1 l Z a0 hw r_4 kr_4 s0 em h4 u4_2 m5 q7) (by decide) rfl (argsL := [.ref r_4]) rfl (lenOf pd21 rfl) (W := 0) rfl (by decide) (by decide) (by decide) d33_50 rfl ?_
 intro v6 T6 h6 X6 U6
 obtain ⟨q_6, rfl, u6_0, u6_1, u6_2, u6_3, u6_4⟩ := U6
 have G6_q : Z.heap.size ≤ q_6 := Nat.le_trans X4.ext0.1 u6_1
 show oGoes pp ee bb ss Z T6 (mkF mm 53 _ [.ref q_6]) _ _ _
 refine o_areturn K X6 (t := (.object z7)) d33_53 rfl rfl rfl ?_ (by decide) (by decide)
 exact ⟨q_6, rfl, (((Keep.refl h0 []).trans u4_0 all0).trans u6_0 all0), (Nat.le_trans u4_0.1 u6_1), u6_2, u6_3, u6_4⟩
theorem d34_0 : decode jdk_40_method_48_code 0 = .ok (.aload_n 0, 1) := by decide +kernel
theorem d34_1 : decode jdk_40_method_48_code 1 = .ok (.invokestatic 112, 3) := by decide +kernel
theorem d34_4 : decode jdk_40_method_48_code 4 = .ok (.areturn, 1) := by decide +kernel
theorem pd22 : parseMethodDescriptor z24 = some ⟨[(.object "java/util/Collection")], some (.object z7)⟩ := by decide +kernel
def r_lcof1 : Room := { frames := 7, cells := 2, slots := 3, locals := 88 }
def Q_lcof1 (Z : State) (a b : Addr) (k : ClassId) (s0 mr em : Addr) (h0 : Heap) (v : Option Value) (h : Heap) : Prop := ∃ q : Addr, v = some (.ref q) ∧ Keep h0 h [] ∧ h0.size ≤ q ∧ Exa Z h q z8 ∧ Fld Z h q z8 "e0" z10 (.ref s0) ∧ Fld Z h q z8 "e1" z10 (.ref em)
theorem rm_lcof1 (l : Launch) (Z : State) (a0 : Array Value) (hw : oHw Z a0) (a b : Addr) (k : ClassId) (s0 mr em : Addr) (h0 : Heap) (q0 : Exa Z h0 a z1) (q1 : Fld Z h0 a z1 z14 z5 (.ref b)) (q2 : Fld Z h0 a z1 "size" "I" (.int 1)) (q3 : oArr Z h0 b k (.object z3) [.ref s0, .null, .null, .null, .null, .null, .null, .null, .null, .null]) (q4 : Exa Z h0 b z5) (q5 : Exa Z h0 s0 z0) (q6 : oMir Z z5 mr) (q7 : Sta Z Z.heap z18 "EMPTY" z10 (.ref em)) : oMet l Z (⟨z7, "copyOf", z24⟩ : MethodName) jdk_40_method_48_code 1 (some (.object z7)) r_lcof1 [] #[.ref a] h0 (Q_lcof1 Z a b k s0 mr em h0) := by
 refine oEnter (plainFor_of_name (by first | (simp [plainName, overriddenIn]; done) | decide +kernel)) (own := z7) (nm := "copyOf") rfl rfl (L := #[.val (.ref a)]) (fun m => by first | (simp [entryFrame, mkF, argsToLocals, Value.category]; done) | rfl) ?_
 intro pp ee ss mm bb mtd cc T0 K X0
 have E0 := X0.ext0
 refine o_aloadN K X0 d34_0 rfl rfl rfl ?_
 refine o_static K X0  (w110 hw) (w111 hw) (w112 hw) (w113 hw) (by decide) (rm_lcpy1 l Z a0 hw a b k s0 mr em h0 q0 q1 q2 q3 q4 q5 q6 q7) (by decide) rfl (argsL := [.ref a]) rfl (lenOf pd22 rfl) (W := 0) rfl (by decide) (by decide) (by decide) d34_1 rfl ?_
 intro v1 T1 h1 X1 U1
 obtain ⟨q_1, rfl, u1_0, u1_1, u1_2, u1_3, u1_4⟩ := U1
 have G1_q : Z.heap.size ≤ q_1 := Nat.le_trans X0.ext0.1 u1_1
 show oGoes pp ee bb ss Z T1 (mkF mm 4 _ [.ref q_1]) _ _ _
 refine o_areturn K X1 (t := (.object z7)) d34_4 rfl rfl rfl ?_ (by decide) (by decide)
 exact ⟨q_1, rfl, ((Keep.refl h0 []).trans u1_0 all0), u1_1, u1_2, u1_3, u1_4⟩
theorem d35_0 : decode prog_28_method_1_code 0 = .ok (.aload_n 0, 1) := by decide +kernel
theorem d35_1 : decode prog_28_method_1_code 1 = .ok (.invokespecial 1, 3) := by decide +kernel
theorem d35_4 : decode prog_28_method_1_code 4 = .ok (.aload_n 2, 1) := by decide +kernel
theorem d35_5 : decode prog_28_method_1_code 5 = .ok (.invokestatic 7, 3) := by decide +kernel
theorem d35_8 : decode prog_28_method_1_code 8 = .ok (.astore_n 2, 1) := by decide +kernel
theorem d35_9 : decode prog_28_method_1_code 9 = .ok (.aload_n 0, 1) := by decide +kernel
theorem d35_10 : decode prog_28_method_1_code 10 = .ok (.iload_n 1, 1) := by decide +kernel
theorem d35_11 : decode prog_28_method_1_code 11 = .ok (.putfield 13, 3) := by decide +kernel
theorem d35_14 : decode prog_28_method_1_code 14 = .ok (.aload_n 0, 1) := by decide +kernel
theorem d35_15 : decode prog_28_method_1_code 15 = .ok (.aload_n 2, 1) := by decide +kernel
theorem d35_16 : decode prog_28_method_1_code 16 = .ok (.putfield 19, 3) := by decide +kernel
theorem d35_19 : decode prog_28_method_1_code 19 = .ok (.return_, 1) := by decide +kernel
def r_crow1 : Room := { frames := 8, cells := 2, slots := 3, locals := 100 }
def Q_crow1 (Z : State) (w : Addr) (ln : Int32) (a b : Addr) (k : ClassId) (s0 mr em : Addr) (h0 : Heap) (v : Option Value) (h : Heap) : Prop := ∃ q : Addr, v = none ∧ Keep h0 h [w] ∧ Exa Z h w z2 ∧ Fld Z h w z2 "line" "I" (.int ln) ∧ Fld Z h w z2 "fields" z11 (.ref q) ∧ Exa Z h q z8 ∧ Fld Z h q z8 "e0" z10 (.ref s0) ∧ Fld Z h q z8 "e1" z10 (.ref em)
theorem rm_crow1 (l : Launch) (Z : State) (a0 : Array Value) (hw : oHw Z a0) (w : Addr) (ln : Int32) (a b : Addr) (k : ClassId) (s0 mr em : Addr) (h0 : Heap) (q0 : Exa Z h0 w z2) (q1 : Fld Z h0 w z2 "line" "I" (.int 0)) (q2 : Fld Z h0 w z2 "fields" z11 .null) (q3 : Z.heap.size ≤ w) (q4 : Exa Z h0 a z1) (q5 : Fld Z h0 a z1 z14 z5 (.ref b)) (q6 : Fld Z h0 a z1 "size" "I" (.int 1)) (q7 : oArr Z h0 b k (.object z3) [.ref s0, .null, .null, .null, .null, .null, .null, .null, .null, .null]) (q8 : Exa Z h0 b z5) (q9 : Exa Z h0 s0 z0) (q10 : oMir Z z5 mr) (q11 : Sta Z Z.heap z18 "EMPTY" z10 (.ref em)) : oMet l Z (⟨z2, "<init>", z15⟩ : MethodName) prog_28_method_1_code 3 none r_crow1 [] #[.ref w, .int ln, .ref a] h0 (Q_crow1 Z w ln a b k s0 mr em h0) := by
 refine oEnter (plainFor_of_name (by first | (simp [plainName, overriddenIn]; done) | decide +kernel)) (own := z2) (nm := "<init>") rfl rfl (L := #[.val (.ref w), .val (.int ln), .val (.ref a)]) (fun m => by first | (simp [entryFrame, mkF, argsToLocals, Value.category]; done) | rfl) ?_
 intro pp ee ss mm bb mtd cc T0 K X0
 have E0 := X0.ext0
 refine o_aloadN K X0 d35_0 rfl rfl rfl ?_
 refine o_special K X0 (y := (⟨"java/lang/Record", "<init>", "()V"⟩ : MethodName)) rfl (w100 hw) (w101 hw) (w103 hw) (w104 hw) (by decide) (rm_rec l Z a0 hw w h0) (by decide) rfl (argsL := []) rfl (lenOf pd7 rfl) (W := 0) rfl (by decide) (by decide) (by decide) d35_1 rfl ?_
 intro v1 T1 h1 X1 U1
 obtain ⟨rfl, rfl⟩ := U1
 show oGoes pp ee bb ss Z T1 (mkF mm 4 _ []) _ _ _
 refine o_aloadN K X1 d35_4 rfl rfl rfl ?_
 refine o_static K X1  (w106 hw) (w107 hw) (w108 hw) (w109 hw) (by decide) (rm_lcof1 l Z a0 hw a b k s0 mr em h0 q4 q5 q6 q7 q8 q9 q10 q11) (by decide) rfl (argsL := [.ref a]) rfl (lenOf pd22 rfl) (W := 0) rfl (by decide) (by decide) (by decide) d35_5 rfl ?_
 intro v2 T2 h2 X2 U2
 obtain ⟨q_2, rfl, u2_0, u2_1, u2_2, u2_3, u2_4⟩ := U2
 have G2_q : Z.heap.size ≤ q_2 := Nat.le_trans X1.ext0.1 u2_1
 show oGoes pp ee bb ss Z T2 (mkF mm 8 _ [.ref q_2]) _ _ _
 refine o_astoreN K X2 d35_8 rfl rfl (L' := #[vR w, vI ln, vR q_2]) rfl ?_
 refine o_aloadN K X2 d35_9 rfl rfl rfl ?_
 refine o_iloadN K X2 d35_10 rfl rfl ?_
 have m4 := (q1.keep u2_0 nin0)
 have m5 := (q0.keep u2_0)
 refine o_putfield K X2 (host := "") (Or.inl (w192 hw)) Via.refl m4 m5 (Or.inr ⟨(w193 hw), rfl, rfl⟩) (w2 hw) (ty := .int) (by decide) rfl rfl q3 d35_11 rfl ?_
 intro T3 h3 X3 W3
 have F3 := Fld.same W3 m4
 refine o_aloadN K X3 d35_14 rfl rfl rfl ?_
 refine o_aloadN K X3 d35_15 rfl rfl rfl ?_
 have m7 := (Fld.other W3 (q2.keep u2_0 nin0) (Or.inr (slot_ne (Or.inr (w195 hw)) (Or.inr (w193 hw)) (by decide) (t := (.object z7)) (t' := .int) (by decide) (by decide))))
 have m8 := (Exa.wr W3 m5)
 refine o_putfield K X3 (host := "") (Or.inl (w194 hw)) Via.refl m7 m8 (Or.inr ⟨(w195 hw), rfl, rfl⟩) (w2 hw) (ty := (.object z7)) (by decide) rfl rfl q3 d35_16 rfl ?_
 intro T6 h6 X6 W6
 have F6 := Fld.same W6 m7
 refine o_return K X6 d35_19 rfl ?_ (by decide) (by decide)
 have m9 := (Exa.wr W6 m8)
 have m10 := (Fld.other W6 F3 (Or.inr (slot_ne (Or.inr (w193 hw)) (Or.inr (w195 hw)) (by decide) (t := .int) (t' := (.object z7)) (by decide) (by decide))))
 have m11 := (Exa.wr W6 (Exa.wr W3 u2_2))
 have n12 := oLsz q0.lt u2_1
 have m13 := (Fld.other W6 (Fld.other W3 u2_3 (Or.inl n12)) (Or.inl n12))
 have m14 := (Fld.other W6 (Fld.other W3 u2_4 (Or.inl n12)) (Or.inl n12))
 exact ⟨q_2, rfl, ((((Keep.refl h0 [w]).trans u2_0 all0).wr W3 (Or.inl me0)).wr W6 (Or.inl me0)), m9, m10, F6, m11, m13, m14⟩
def r_min2 : Room := { frames := 0, cells := 0, slots := 0, locals := 0 }
def Q_min2 (Z : State) (h0 : Heap) (v : Option Value) (h : Heap) : Prop := v = some (.int 2) ∧ h0 = h
theorem rm_min2 (l : Launch) (Z : State) (a0 : Array Value) (hw : oHw Z a0) (h0 : Heap) : oMet l Z (⟨"java/lang/Math", "min", "(II)I"⟩ : MethodName) jdk_29_method_69_code 2 (some .int) r_min2 [] #[.int 10, .int 2] h0 (Q_min2 Z h0) := by
 refine oEnter (Jvm.Free.JP.mathPlain rfl (by decide +kernel)) (own := "java/lang/Math") (nm := "min") rfl rfl (L := #[.val (.int 10), .val (.int 2)]) (fun m => by first | (simp [entryFrame, mkF, argsToLocals, Value.category]; done) | rfl) ?_
 intro pp ee ss mm bb mtd cc T0 K X0
 have E0 := X0.ext0
 refine o_iloadN K X0 d27_0 rfl rfl ?_
 refine o_iloadN K X0 d27_1 rfl rfl ?_
 refine o_icmp_gt_t K X0 d27_2 (by decide) (pc' := 9) (by decide) (by decide) ?_
 refine o_iloadN K X0 d27_9 rfl rfl ?_
 refine o_ireturn K X0 d27_10 rfl ?_ (by decide) (by decide)
 exact ⟨rfl, rfl⟩
theorem d28_45 : decode jdk_40_method_47_code 45 = .ok (.new 96, 3) := by decide +kernel
theorem d28_48 : decode jdk_40_method_47_code 48 = .ok (.dup, 1) := by decide +kernel
theorem d28_49 : decode jdk_40_method_47_code 49 = .ok (.aload_n 0, 1) := by decide +kernel
theorem d28_50 : decode jdk_40_method_47_code 50 = .ok (.iconst 0, 1) := by decide +kernel
theorem d28_51 : decode jdk_40_method_47_code 51 = .ok (.aaload, 1) := by decide +kernel
theorem d28_52 : decode jdk_40_method_47_code 52 = .ok (.aload_n 0, 1) := by decide +kernel
theorem d28_53 : decode jdk_40_method_47_code 53 = .ok (.iconst 1, 1) := by decide +kernel
theorem d28_54 : decode jdk_40_method_47_code 54 = .ok (.aaload, 1) := by decide +kernel
theorem d28_55 : decode jdk_40_method_47_code 55 = .ok (.invokespecial 100, 3) := by decide +kernel
theorem d28_58 : decode jdk_40_method_47_code 58 = .ok (.areturn, 1) := by decide +kernel
theorem pd23 : parseMethodDescriptor "(Ljava/lang/Object;Ljava/lang/Object;)V" = some ⟨[(.object z3), (.object z3)], none⟩ := by decide +kernel
def r_lof2 : Room := { frames := 5, cells := 1, slots := 2, locals := 63 }
def Q_lof2 (Z : State) (b : Addr) (k : ClassId) (s0 s1 : Addr) (h0 : Heap) (v : Option Value) (h : Heap) : Prop := ∃ q : Addr, v = some (.ref q) ∧ Keep h0 h [] ∧ h0.size ≤ q ∧ Exa Z h q z8 ∧ Fld Z h q z8 "e0" z10 (.ref s0) ∧ Fld Z h q z8 "e1" z10 (.ref s1)
theorem rm_lof2 (l : Launch) (Z : State) (a0 : Array Value) (hw : oHw Z a0) (b : Addr) (k : ClassId) (s0 s1 : Addr) (h0 : Heap) (q0 : oArr Z h0 b k (.object z3) [.ref s0, .ref s1]) (q1 : Exa Z h0 s0 z0) (q2 : Exa Z h0 s1 z0) : oMet l Z (⟨z7, "of", "([Ljava/lang/Object;)Ljava/util/List;"⟩ : MethodName) jdk_40_method_47_code 2 (some (.object z7)) r_lof2 [] #[.ref b] h0 (Q_lof2 Z b k s0 s1 h0) := by
 refine oEnter (plainFor_of_name (by first | (simp [plainName, overriddenIn]; done) | decide +kernel)) (own := z7) (nm := "of") rfl rfl (L := #[.val (.ref b), .unset]) (fun m => by first | (simp [entryFrame, mkF, argsToLocals, Value.category]; done) | rfl) ?_
 intro pp ee ss mm bb mtd cc T0 K X0
 have E0 := X0.ext0
 refine o_aloadN K X0 d28_0 rfl rfl rfl ?_
 refine o_arraylength K X0 q0 (z := 2) rfl d28_1 rfl ?_
 refine o_tswIn K X0 d28_2 (o := 43) (by decide) (by decide) (by decide) (pc' := 45) (by decide) ?_
 refine o_new K X0 (w162 hw) (w163 hw) (w164 hw) d28_45 rfl (by decide) (by decide) ?_
 intro T1 h1 b1 X1 g1 E1 A1 D1 G1
 have F1_e0 : Fld Z h1 b1 z8 "e0" z10 .null := (D1 (Or.inr (w188 hw)) (ty := (.object z3)) (by decide))
 have F1_e1 : Fld Z h1 b1 z8 "e1" z10 .null := (D1 (Or.inr (w191 hw)) (ty := (.object z3)) (by decide))
 refine o_dup K X1 d28_48 rfl rfl ?_
 refine o_aloadN K X1 d28_49 rfl rfl rfl ?_
 refine o_iconst K X1 d28_50 rfl (z := 0) rfl ?_
 have m2 := (q0.ext E1)
 refine o_aaload K X1 rfl m2 (by decide) (v := (.ref s0)) rfl d28_51 rfl ?_
 refine o_aloadN K X1 d28_52 rfl rfl rfl ?_
 refine o_iconst K X1 d28_53 rfl (z := 1) rfl ?_
 refine o_aaload K X1 rfl m2 (by decide) (v := (.ref s1)) rfl d28_54 rfl ?_
 refine o_special K X1 (y := (⟨z8, "<init>", "(Ljava/lang/Object;Ljava/lang/Object;)V"⟩ : MethodName)) rfl (w277 hw) (w278 hw) (w164 hw) (w279 hw) (by decide) (rm_l12i2 l Z a0 hw b1 s0 s1 h1 A1 F1_e0 F1_e1 G1) (by decide) rfl (argsL := [.ref s0, .ref s1]) rfl (lenOf pd23 rfl) (W := 1) rfl (by decide) (by decide) (by decide) d28_55 rfl ?_
 intro v3 T3 h3 X3 U3
 obtain ⟨rfl, u3_0, u3_1, u3_2, u3_3⟩ := U3
 show oGoes pp ee bb ss Z T3 (mkF mm 58 _ [.ref b1]) _ _ _
 refine o_areturn K X3 (t := (.object z7)) d28_58 rfl rfl rfl ?_ (by decide) (by decide)
 exact ⟨b1, rfl, (((Keep.refl h0 []).ext E1).trans u3_0 (allS (Or.inr (oLe g1)) all0)), (oLe g1), u3_1, u3_2, u3_3⟩
def r_cpy3_2 : Room := { frames := 1, cells := 1, slots := 2, locals := 18 }
def Q_cpy3_2 (Z : State) (b : Addr) (k : ClassId) (s0 s1 mr : Addr) (h0 : Heap) (v : Option Value) (h : Heap) : Prop := ∃ r : Addr, ∃ kr : ClassId, v = some (.ref r) ∧ Keep h0 h [] ∧ h0.size ≤ r ∧ oArr Z h r kr (.object z3) [.ref s0, .ref s1] ∧ Ovr Z kr z3
theorem rm_cpy3_2 (l : Launch) (Z : State) (a0 : Array Value) (hw : oHw Z a0) (b : Addr) (k : ClassId) (s0 s1 mr : Addr) (h0 : Heap) (q0 : oArr Z h0 b k (.object z3) [.ref s0, .ref s1, .null, .null, .null, .null, .null, .null, .null, .null]) (q1 : Exa Z h0 b z5) (q2 : Exa Z h0 s0 z0) (q3 : Exa Z h0 s1 z0) (q4 : oMir Z z5 mr) : oMet l Z (⟨"java/util/Arrays", "copyOf", "([Ljava/lang/Object;ILjava/lang/Class;)[Ljava/lang/Object;"⟩ : MethodName) jdk_65_method_120_code 4 (some (.array (.object z3))) r_cpy3_2 [] #[.ref b, .int 2, .ref mr] h0 (Q_cpy3_2 Z b k s0 s1 mr h0) := by
 refine oEnter (plainFor_of_name (by first | (simp [plainName, overriddenIn]; done) | decide +kernel)) (own := "java/util/Arrays") (nm := "copyOf") rfl rfl (L := #[.val (.ref b), .val (.int 2), .val (.ref mr), .unset]) (fun m => by first | (simp [entryFrame, mkF, argsToLocals, Value.category]; done) | rfl) ?_
 intro pp ee ss mm bb mtd cc T0 K X0
 have E0 := X0.ext0
 refine o_aloadN K X0 d29_0 rfl rfl rfl ?_
 refine o_ldcClass K X0 (w150 hw) q4 d29_1 rfl ?_
 intro T1 X1
 refine o_acmp K X1 true d29_3 (by decide) rfl rfl (decide_eq_true rfl) (pc' := 6) (by decide) ?_
 refine o_iloadN K X1 d29_6 rfl rfl ?_
 refine o_anewarray K X1 2 (w151 hw) (w95 hw) (ad := z5) (by decide +kernel) (by decide) (by decide) (by decide) d29_7 rfl (by decide) (by decide) ?_
 intro T2 h2 b2 k2 X2 g2 E2 A2 B2 O2 G2
 replace A2 : oArr Z h2 b2 k2 (.object z3) [.null, .null] := A2
 refine o_goto K X2 d29_10 (by decide) (pc' := 24) (by decide) ?_
 refine o_astoreN K X2 d29_24 rfl rfl (L' := #[vR b, vI 2, vR mr, vR b2]) rfl ?_
 refine o_aloadN K X2 d29_25 rfl rfl rfl ?_
 refine o_iconst K X2 d29_26 rfl (z := 0) rfl ?_
 refine o_aloadN K X2 d29_27 rfl rfl rfl ?_
 refine o_iconst K X2 d29_28 rfl (z := 0) rfl ?_
 refine o_aloadN K X2 d29_29 rfl rfl rfl ?_
 have m3 := (q0.ext E2)
 refine o_arraylength K X2 m3 (z := 10) rfl d29_30 rfl ?_
 refine o_iloadN K X2 d29_31 rfl rfl ?_
 refine o_static K X2  (w152 hw) (w153 hw) (w92 hw) (w154 hw) (by decide) (rm_min2 l Z a0 hw  h2) (by decide) rfl (argsL := [.int 10, .int 2]) rfl (lenOf pd8 rfl) (W := 4) rfl (by decide) (by decide) (by decide) d29_32 rfl ?_
 intro v4 T4 h4 X4 U4
 obtain ⟨rfl, rfl⟩ := U4
 show oGoes pp ee bb ss Z T4 (mkF mm 35 _ [.int 2, .int 0, .ref b2, .int 0, .ref b]) _ _ _
 have m6 := (q3.ext E2)
 have m7 := (q2.ext E2)
 refine o_arraycopy K X4 [.ref s0, .ref s1] [.ref s0, .ref s1] (w155 hw) (w158 hw) (w156 hw) (w157 hw) m3 A2 (Or.inr ⟨rfl, rfl, ⟨(oSto A2 O2 (Ins.of_exa m7 (w96 hw))), ⟨(oSto A2 O2 (Ins.of_exa m6 (w96 hw))), trivial⟩⟩⟩) (by decide) (by decide) (by decide) (show (0 : Int32).toNatClampNeg + (2 : Int32).toNatClampNeg ≤ 10 from (by decide)) (show (0 : Int32).toNatClampNeg + (2 : Int32).toNatClampNeg ≤ 2 from (by decide)) rfl rfl rfl G2 d29_35 rfl rfl (by decide) (W := 0) rfl (by decide) ?_
 intro T5 h5 X5 K5 A5
 refine o_aloadN K X5 d29_38 rfl rfl rfl ?_
 refine o_areturn K X5 (t := (.array (.object z3))) d29_39 rfl rfl rfl ?_ (by decide) (by decide)
 exact ⟨b2, k2, rfl, (((Keep.refl h0 []).ext E2).trans K5 (allS (Or.inr (oLe g2)) all0)), (oLe g2), A5, O2⟩
def r_cpy2_2 : Room := { frames := 2, cells := 1, slots := 2, locals := 33 }
def Q_cpy2_2 (Z : State) (b : Addr) (k : ClassId) (s0 s1 mr : Addr) (h0 : Heap) (v : Option Value) (h : Heap) : Prop := ∃ r : Addr, ∃ kr : ClassId, v = some (.ref r) ∧ Keep h0 h [] ∧ h0.size ≤ r ∧ oArr Z h r kr (.object z3) [.ref s0, .ref s1] ∧ Ovr Z kr z3
theorem rm_cpy2_2 (l : Launch) (Z : State) (a0 : Array Value) (hw : oHw Z a0) (b : Addr) (k : ClassId) (s0 s1 mr : Addr) (h0 : Heap) (q0 : oArr Z h0 b k (.object z3) [.ref s0, .ref s1, .null, .null, .null, .null, .null, .null, .null, .null]) (q1 : Exa Z h0 b z5) (q2 : Exa Z h0 s0 z0) (q3 : Exa Z h0 s1 z0) (q4 : oMir Z z5 mr) : oMet l Z (⟨"java/util/Arrays", "copyOf", "([Ljava/lang/Object;I)[Ljava/lang/Object;"⟩ : MethodName) jdk_65_method_119_code 2 (some (.array (.object z3))) r_cpy2_2 [] #[.ref b, .int 2] h0 (Q_cpy2_2 Z b k s0 s1 mr h0) := by
 refine oEnter (plainFor_of_name (by first | (simp [plainName, overriddenIn]; done) | decide +kernel)) (own := "java/util/Arrays") (nm := "copyOf") rfl rfl (L := #[.val (.ref b), .val (.int 2)]) (fun m => by first | (simp [entryFrame, mkF, argsToLocals, Value.category]; done) | rfl) ?_
 intro pp ee ss mm bb mtd cc T0 K X0
 have E0 := X0.ext0
 refine o_aloadN K X0 d30_0 rfl rfl rfl ?_
 refine o_iloadN K X0 d30_1 rfl rfl ?_
 refine o_aloadN K X0 d30_2 rfl rfl rfl ?_
 refine o_getClass K X0 (w141 hw) (w142 hw) (w118 hw) (w144 hw) (w143 hw) (w145 hw) q1 q4 d30_3 rfl rfl (by decide) (W := 2) rfl (by decide) ?_
 intro T1 X1
 refine o_static K X1  (w147 hw) (w148 hw) (w139 hw) (w149 hw) (by decide) (rm_cpy3_2 l Z a0 hw b k s0 s1 mr h0 q0 q1 q2 q3 q4) (by decide) rfl (argsL := [.ref b, .int 2, .ref mr]) rfl (lenOf pd18 rfl) (W := 0) rfl (by decide) (by decide) (by decide) d30_6 rfl ?_
 intro v2 T2 h2 X2 U2
 obtain ⟨r_2, kr_2, rfl, u2_0, u2_1, u2_2, u2_3⟩ := U2
 have G2_r : Z.heap.size ≤ r_2 := Nat.le_trans X1.ext0.1 u2_1
 show oGoes pp ee bb ss Z T2 (mkF mm 9 _ [.ref r_2]) _ _ _
 refine o_areturn K X2 (t := (.array (.object z3))) d30_9 rfl rfl rfl ?_ (by decide) (by decide)
 exact ⟨r_2, kr_2, rfl, ((Keep.refl h0 []).trans u2_0 all0), u2_1, u2_2, u2_3⟩
def r_alemp2 : Room := { frames := 0, cells := 0, slots := 0, locals := 0 }
def Q_alemp2 (Z : State) (a : Addr) (h0 : Heap) (v : Option Value) (h : Heap) : Prop := v = some (.int 0) ∧ h0 = h
theorem rm_alemp2 (l : Launch) (Z : State) (a0 : Array Value) (hw : oHw Z a0) (a : Addr) (h0 : Heap) (q0 : Fld Z h0 a z1 "size" "I" (.int 2)) : oMet l Z (⟨z1, "isEmpty", "()Z"⟩ : MethodName) jdk_38_method_9_code 1 (some .boolean) r_alemp2 [] #[.ref a] h0 (Q_alemp2 Z a h0) := by
 refine oEnter (plainFor_of_name (by first | (simp [plainName, overriddenIn]; done) | decide +kernel)) (own := z1) (nm := "isEmpty") rfl rfl (L := #[.val (.ref a)]) (fun m => by first | (simp [entryFrame, mkF, argsToLocals, Value.category]; done) | rfl) ?_
 intro pp ee ss mm bb mtd cc T0 K X0
 have E0 := X0.ext0
 refine o_aloadN K X0 d31_0 rfl rfl rfl ?_
 refine o_getfield K X0 (host := "") (Or.inl (w73 hw)) Via.refl q0 d31_1 rfl ?_
 intro T1 X1
 refine o_if_ne_t K X1 d31_4 (by decide) (pc' := 11) (by decide) (by decide) ?_
 refine o_iconst K X1 d31_11 rfl (z := 0) rfl ?_
 refine o_ireturnN K X1 .boolean d31_12 rfl (by simp) (z' := 0) (by decide) ?_ (by decide) (by decide)
 exact ⟨rfl, rfl⟩
def r_altoa2 : Room := { frames := 3, cells := 1, slots := 2, locals := 46 }
def Q_altoa2 (Z : State) (a b : Addr) (k : ClassId) (s0 s1 mr : Addr) (h0 : Heap) (v : Option Value) (h : Heap) : Prop := ∃ r : Addr, ∃ kr : ClassId, v = some (.ref r) ∧ Keep h0 h [] ∧ h0.size ≤ r ∧ oArr Z h r kr (.object z3) [.ref s0, .ref s1] ∧ Ovr Z kr z3
theorem rm_altoa2 (l : Launch) (Z : State) (a0 : Array Value) (hw : oHw Z a0) (a b : Addr) (k : ClassId) (s0 s1 mr : Addr) (h0 : Heap) (q0 : Exa Z h0 a z1) (q1 : Fld Z h0 a z1 z14 z5 (.ref b)) (q2 : Fld Z h0 a z1 "size" "I" (.int 2)) (q3 : oArr Z h0 b k (.object z3) [.ref s0, .ref s1, .null, .null, .null, .null, .null, .null, .null, .null]) (q4 : Exa Z h0 b z5) (q5 : Exa Z h0 s0 z0) (q6 : Exa Z h0 s1 z0) (q7 : oMir Z z5 mr) : oMet l Z (⟨z1, "toArray", z19⟩ : MethodName) jdk_38_method_16_code 1 (some (.array (.object z3))) r_altoa2 [] #[.ref a] h0 (Q_altoa2 Z a b k s0 s1 mr h0) := by
 refine oEnter (plainFor_of_name (by first | (simp [plainName, overriddenIn]; done) | decide +kernel)) (own := z1) (nm := "toArray") rfl rfl (L := #[.val (.ref a)]) (fun m => by first | (simp [entryFrame, mkF, argsToLocals, Value.category]; done) | rfl) ?_
 intro pp ee ss mm bb mtd cc T0 K X0
 have E0 := X0.ext0
 refine o_aloadN K X0 d32_0 rfl rfl rfl ?_
 refine o_getfield K X0 (host := "") (Or.inl (w32 hw)) Via.refl q1 d32_1 rfl ?_
 intro T1 X1
 refine o_aloadN K X1 d32_4 rfl rfl rfl ?_
 refine o_getfield K X1 (host := "") (Or.inl (w73 hw)) Via.refl q2 d32_5 rfl ?_
 intro T2 X2
 refine o_static K X2  (w137 hw) (w138 hw) (w139 hw) (w140 hw) (by decide) (rm_cpy2_2 l Z a0 hw b k s0 s1 mr h0 q3 q4 q5 q6 q7) (by decide) rfl (argsL := [.ref b, .int 2]) rfl (lenOf pd19 rfl) (W := 0) rfl (by decide) (by decide) (by decide) d32_8 rfl ?_
 intro v3 T3 h3 X3 U3
 obtain ⟨r_3, kr_3, rfl, u3_0, u3_1, u3_2, u3_3⟩ := U3
 have G3_r : Z.heap.size ≤ r_3 := Nat.le_trans X2.ext0.1 u3_1
 show oGoes pp ee bb ss Z T3 (mkF mm 11 _ [.ref r_3]) _ _ _
 refine o_areturn K X3 (t := (.array (.object z3))) d32_11 rfl rfl rfl ?_ (by decide) (by decide)
 exact ⟨r_3, kr_3, rfl, ((Keep.refl h0 []).trans u3_0 all0), u3_1, u3_2, u3_3⟩
def r_lcpy2 : Room := { frames := 6, cells := 2, slots := 4, locals := 76 }
def Q_lcpy2 (Z : State) (a b : Addr) (k : ClassId) (s0 s1 mr : Addr) (h0 : Heap) (v : Option Value) (h : Heap) : Prop := ∃ q : Addr, v = some (.ref q) ∧ Keep h0 h [] ∧ h0.size ≤ q ∧ Exa Z h q z8 ∧ Fld Z h q z8 "e0" z10 (.ref s0) ∧ Fld Z h q z8 "e1" z10 (.ref s1)
theorem rm_lcpy2 (l : Launch) (Z : State) (a0 : Array Value) (hw : oHw Z a0) (a b : Addr) (k : ClassId) (s0 s1 mr : Addr) (h0 : Heap) (q0 : Exa Z h0 a z1) (q1 : Fld Z h0 a z1 z14 z5 (.ref b)) (q2 : Fld Z h0 a z1 "size" "I" (.int 2)) (q3 : oArr Z h0 b k (.object z3) [.ref s0, .ref s1, .null, .null, .null, .null, .null, .null, .null, .null]) (q4 : Exa Z h0 b z5) (q5 : Exa Z h0 s0 z0) (q6 : Exa Z h0 s1 z0) (q7 : oMir Z z5 mr) : oMet l Z (⟨z18, "listCopy", z24⟩ : MethodName) jdk_56_method_3_code 2 (some (.object z7)) r_lcpy2 [] #[.ref a] h0 (Q_lcpy2 Z a b k s0 s1 mr h0) := by
 refine oEnter (plainFor_of_name (by first | (simp [plainName, overriddenIn]; done) | decide +kernel)) (own := z18) (nm := "listCopy") rfl rfl (L := #[.val (.ref a), .unset]) (fun m => by first | (simp [entryFrame, mkF, argsToLocals, Value.category]; done) | rfl) ?_
 intro pp ee ss mm bb mtd cc T0 K X0
 have E0 := X0.ext0
 refine o_aloadN K X0 d33_0 rfl rfl rfl ?_
 refine o_instanceofNo K X0 (w114 hw) q0 (oNSno (w115 hw) (w163 hw) (NS.step (w115 hw) (NS.step (w116 hw) (NS.step (w117 hw) (oNSroot (w118 hw) (w163 hw) (by decide)) (by decide)) (by decide)) (by decide)) (by decide)) d33_1 rfl ?_
 intro T1 X1
 refine o_if_ne_f K X1 d33_4 rfl (by decide) ?_
 refine o_aloadN K X1 d33_7 rfl rfl rfl ?_
 refine o_instanceofNo K X1 (w119 hw) q0 (oNSno (w115 hw) (w285 hw) (NS.step (w115 hw) (NS.step (w116 hw) (NS.step (w117 hw) (oNSroot (w118 hw) (w285 hw) (by decide)) (by decide)) (by decide)) (by decide)) (by decide)) d33_8 rfl ?_
 intro T2 X2
 refine o_if_eq_t K X2 d33_11 (by decide) (pc' := 31) (by decide) (by decide) ?_
 refine o_aloadN K X2 d33_31 rfl rfl rfl ?_
 refine o_interface K X2 (y := (⟨"java/util/Collection", "isEmpty", "()Z"⟩ : MethodName)) (z := (⟨z1, "isEmpty", "()Z"⟩ : MethodName)) (w120 hw) (w121 hw) (w122 hw) rfl (w123 hw) (w124 hw) (w125 hw) (w126 hw) (w127 hw) (w10 hw) (w128 hw) (by decide) q0 (rm_alemp2 l Z a0 hw a h0 q2) (by decide) rfl (argsL := []) rfl (lenOf pd20 rfl) (W := 0) rfl (by decide) (by decide) (by decide) d33_32 rfl ?_
 intro v3 T3 h3 X3 U3
 obtain ⟨rfl, rfl⟩ := U3
 show oGoes pp ee bb ss Z T3 (mkF mm 37 _ [.int 0]) _ _ _
 refine o_if_eq_t K X3 d33_37 (by decide) (pc' := 44) (by decide) (by decide) ?_
 refine o_aloadN K X3 d33_44 rfl rfl rfl ?_
 refine o_interface K X3 (y := (⟨"java/util/Collection", "toArray", z19⟩ : MethodName)) (z := (⟨z1, "toArray", z19⟩ : MethodName)) (w129 hw) (w130 hw) (w131 hw) rfl (w132 hw) (w133 hw) (w134 hw) (w135 hw) (w127 hw) (w10 hw) (w136 hw) (by decide) q0 (rm_altoa2 l Z a0 hw a b k s0 s1 mr h0 q0 q1 q2 q3 q4 q5 q6 q7) (by decide) rfl (argsL := []) rfl (lenOf pd10 rfl) (W := 0) rfl (by decide) (by decide) (by decide) d33_45 rfl ?_
 intro v4 T4 h4 X4 U4
 obtain ⟨r_4, kr_4, rfl, u4_0, u4_1, u4_2, u4_3⟩ := U4
 have G4_r : Z.heap.size ≤ r_4 := Nat.le_trans X3.ext0.1 u4_1
 show oGoes pp ee bb ss Z T4 (mkF mm 50 _ [.ref r_4]) _ _ _
 have m5 := (q5.keep u4_0)
 have m6 := (q6.keep u4_0)
 refine o_static K X4  (w159 hw) (w160 hw) (w108 hw) (w161 hw) (by decide) (rm_lof2 l Z a0 hw r_4 kr_4 s0 s1 h4 u4_2 m5 m6) (by decide) rfl (argsL := [.ref r_4]) rfl (lenOf pd21 rfl) (W := 0) rfl (by decide) (by decide) (by decide) d33_50 rfl ?_
 intro v7 T7 h7 X7 U7
 obtain ⟨q_7, rfl, u7_0, u7_1, u7_2, u7_3, u7_4⟩ := U7
 have G7_q : Z.heap.size ≤ q_7 := Nat.le_trans X4.ext0.1 u7_1
 show oGoes pp ee bb ss Z T7 (mkF mm 53 _ [.ref q_7]) _ _ _
 refine o_areturn K X7 (t := (.object z7)) d33_53 rfl rfl rfl ?_ (by decide) (by decide)
 exact ⟨q_7, rfl, (((Keep.refl h0 []).trans u4_0 all0).trans u7_0 all0), (Nat.le_trans u4_0.1 u7_1), u7_2, u7_3, u7_4⟩
def r_lcof2 : Room := { frames := 7, cells := 2, slots := 4, locals := 89 }
def Q_lcof2 (Z : State) (a b : Addr) (k : ClassId) (s0 s1 mr : Addr) (h0 : Heap) (v : Option Value) (h : Heap) : Prop := ∃ q : Addr, v = some (.ref q) ∧ Keep h0 h [] ∧ h0.size ≤ q ∧ Exa Z h q z8 ∧ Fld Z h q z8 "e0" z10 (.ref s0) ∧ Fld Z h q z8 "e1" z10 (.ref s1)
theorem rm_lcof2 (l : Launch) (Z : State) (a0 : Array Value) (hw : oHw Z a0) (a b : Addr) (k : ClassId) (s0 s1 mr : Addr) (h0 : Heap) (q0 : Exa Z h0 a z1) (q1 : Fld Z h0 a z1 z14 z5 (.ref b)) (q2 : Fld Z h0 a z1 "size" "I" (.int 2)) (q3 : oArr Z h0 b k (.object z3) [.ref s0, .ref s1, .null, .null, .null, .null, .null, .null, .null, .null]) (q4 : Exa Z h0 b z5) (q5 : Exa Z h0 s0 z0) (q6 : Exa Z h0 s1 z0) (q7 : oMir Z z5 mr) : oMet l Z (⟨z7, "copyOf", z24⟩ : MethodName) jdk_40_method_48_code 1 (some (.object z7)) r_lcof2 [] #[.ref a] h0 (Q_lcof2 Z a b k s0 s1 mr h0) := by
 refine oEnter (plainFor_of_name (by first | (simp [plainName, overriddenIn]; done) | decide +kernel)) (own := z7) (nm := "copyOf") rfl rfl (L := #[.val (.ref a)]) (fun m => by first | (simp [entryFrame, mkF, argsToLocals, Value.category]; done) | rfl) ?_
 intro pp ee ss mm bb mtd cc T0 K X0
 have E0 := X0.ext0
 refine o_aloadN K X0 d34_0 rfl rfl rfl ?_
 refine o_static K X0  (w110 hw) (w111 hw) (w112 hw) (w113 hw) (by decide) (rm_lcpy2 l Z a0 hw a b k s0 s1 mr h0 q0 q1 q2 q3 q4 q5 q6 q7) (by decide) rfl (argsL := [.ref a]) rfl (lenOf pd22 rfl) (W := 0) rfl (by decide) (by decide) (by decide) d34_1 rfl ?_
 intro v1 T1 h1 X1 U1
 obtain ⟨q_1, rfl, u1_0, u1_1, u1_2, u1_3, u1_4⟩ := U1
 have G1_q : Z.heap.size ≤ q_1 := Nat.le_trans X0.ext0.1 u1_1
 show oGoes pp ee bb ss Z T1 (mkF mm 4 _ [.ref q_1]) _ _ _
 refine o_areturn K X1 (t := (.object z7)) d34_4 rfl rfl rfl ?_ (by decide) (by decide)
 exact ⟨q_1, rfl, ((Keep.refl h0 []).trans u1_0 all0), u1_1, u1_2, u1_3, u1_4⟩
def r_crow2 : Room := { frames := 8, cells := 2, slots := 4, locals := 101 }
def Q_crow2 (Z : State) (w : Addr) (ln : Int32) (a b : Addr) (k : ClassId) (s0 s1 mr : Addr) (h0 : Heap) (v : Option Value) (h : Heap) : Prop := ∃ q : Addr, v = none ∧ Keep h0 h [w] ∧ Exa Z h w z2 ∧ Fld Z h w z2 "line" "I" (.int ln) ∧ Fld Z h w z2 "fields" z11 (.ref q) ∧ Exa Z h q z8 ∧ Fld Z h q z8 "e0" z10 (.ref s0) ∧ Fld Z h q z8 "e1" z10 (.ref s1)
theorem rm_crow2 (l : Launch) (Z : State) (a0 : Array Value) (hw : oHw Z a0) (w : Addr) (ln : Int32) (a b : Addr) (k : ClassId) (s0 s1 mr : Addr) (h0 : Heap) (q0 : Exa Z h0 w z2) (q1 : Fld Z h0 w z2 "line" "I" (.int 0)) (q2 : Fld Z h0 w z2 "fields" z11 .null) (q3 : Z.heap.size ≤ w) (q4 : Exa Z h0 a z1) (q5 : Fld Z h0 a z1 z14 z5 (.ref b)) (q6 : Fld Z h0 a z1 "size" "I" (.int 2)) (q7 : oArr Z h0 b k (.object z3) [.ref s0, .ref s1, .null, .null, .null, .null, .null, .null, .null, .null]) (q8 : Exa Z h0 b z5) (q9 : Exa Z h0 s0 z0) (q10 : Exa Z h0 s1 z0) (q11 : oMir Z z5 mr) : oMet l Z (⟨z2, "<init>", z15⟩ : MethodName) prog_28_method_1_code 3 none r_crow2 [] #[.ref w, .int ln, .ref a] h0 (Q_crow2 Z w ln a b k s0 s1 mr h0) := by
 refine oEnter (plainFor_of_name (by first | (simp [plainName, overriddenIn]; done) | decide +kernel)) (own := z2) (nm := "<init>") rfl rfl (L := #[.val (.ref w), .val (.int ln), .val (.ref a)]) (fun m => by first | (simp [entryFrame, mkF, argsToLocals, Value.category]; done) | rfl) ?_
 intro pp ee ss mm bb mtd cc T0 K X0
 have E0 := X0.ext0
 refine o_aloadN K X0 d35_0 rfl rfl rfl ?_
 refine o_special K X0 (y := (⟨"java/lang/Record", "<init>", "()V"⟩ : MethodName)) rfl (w100 hw) (w101 hw) (w103 hw) (w104 hw) (by decide) (rm_rec l Z a0 hw w h0) (by decide) rfl (argsL := []) rfl (lenOf pd7 rfl) (W := 0) rfl (by decide) (by decide) (by decide) d35_1 rfl ?_
 intro v1 T1 h1 X1 U1
 obtain ⟨rfl, rfl⟩ := U1
 show oGoes pp ee bb ss Z T1 (mkF mm 4 _ []) _ _ _
 refine o_aloadN K X1 d35_4 rfl rfl rfl ?_
 refine o_static K X1  (w106 hw) (w107 hw) (w108 hw) (w109 hw) (by decide) (rm_lcof2 l Z a0 hw a b k s0 s1 mr h0 q4 q5 q6 q7 q8 q9 q10 q11) (by decide) rfl (argsL := [.ref a]) rfl (lenOf pd22 rfl) (W := 0) rfl (by decide) (by decide) (by decide) d35_5 rfl ?_
 intro v2 T2 h2 X2 U2
 obtain ⟨q_2, rfl, u2_0, u2_1, u2_2, u2_3, u2_4⟩ := U2
 have G2_q : Z.heap.size ≤ q_2 := Nat.le_trans X1.ext0.1 u2_1
 show oGoes pp ee bb ss Z T2 (mkF mm 8 _ [.ref q_2]) _ _ _
 refine o_astoreN K X2 d35_8 rfl rfl (L' := #[vR w, vI ln, vR q_2]) rfl ?_
 refine o_aloadN K X2 d35_9 rfl rfl rfl ?_
 refine o_iloadN K X2 d35_10 rfl rfl ?_
 have m4 := (q1.keep u2_0 nin0)
 have m5 := (q0.keep u2_0)
 refine o_putfield K X2 (host := "") (Or.inl (w192 hw)) Via.refl m4 m5 (Or.inr ⟨(w193 hw), rfl, rfl⟩) (w2 hw) (ty := .int) (by decide) rfl rfl q3 d35_11 rfl ?_
 intro T3 h3 X3 W3
 have F3 := Fld.same W3 m4
 refine o_aloadN K X3 d35_14 rfl rfl rfl ?_
 refine o_aloadN K X3 d35_15 rfl rfl rfl ?_
 have m7 := (Fld.other W3 (q2.keep u2_0 nin0) (Or.inr (slot_ne (Or.inr (w195 hw)) (Or.inr (w193 hw)) (by decide) (t := (.object z7)) (t' := .int) (by decide) (by decide))))
 have m8 := (Exa.wr W3 m5)
 refine o_putfield K X3 (host := "") (Or.inl (w194 hw)) Via.refl m7 m8 (Or.inr ⟨(w195 hw), rfl, rfl⟩) (w2 hw) (ty := (.object z7)) (by decide) rfl rfl q3 d35_16 rfl ?_
 intro T6 h6 X6 W6
 have F6 := Fld.same W6 m7
 refine o_return K X6 d35_19 rfl ?_ (by decide) (by decide)
 have m9 := (Exa.wr W6 m8)
 have m10 := (Fld.other W6 F3 (Or.inr (slot_ne (Or.inr (w193 hw)) (Or.inr (w195 hw)) (by decide) (t := .int) (t' := (.object z7)) (by decide) (by decide))))
 have m11 := (Exa.wr W6 (Exa.wr W3 u2_2))
 have n12 := oLsz q0.lt u2_1
 have m13 := (Fld.other W6 (Fld.other W3 u2_3 (Or.inl n12)) (Or.inl n12))
 have m14 := (Fld.other W6 (Fld.other W3 u2_4 (Or.inl n12)) (Or.inl n12))
 exact ⟨q_2, rfl, ((((Keep.refl h0 [w]).trans u2_0 all0).wr W3 (Or.inl me0)).wr W6 (Or.inl me0)), m9, m10, F6, m11, m13, m14⟩
def r_min3 : Room := { frames := 0, cells := 0, slots := 0, locals := 0 }
def Q_min3 (Z : State) (h0 : Heap) (v : Option Value) (h : Heap) : Prop := v = some (.int 3) ∧ h0 = h
theorem rm_min3 (l : Launch) (Z : State) (a0 : Array Value) (hw : oHw Z a0) (h0 : Heap) : oMet l Z (⟨"java/lang/Math", "min", "(II)I"⟩ : MethodName) jdk_29_method_69_code 2 (some .int) r_min3 [] #[.int 10, .int 3] h0 (Q_min3 Z h0) := by
 refine oEnter (Jvm.Free.JP.mathPlain rfl (by decide +kernel)) (own := "java/lang/Math") (nm := "min") rfl rfl (L := #[.val (.int 10), .val (.int 3)]) (fun m => by first | (simp [entryFrame, mkF, argsToLocals, Value.category]; done) | rfl) ?_
 intro pp ee ss mm bb mtd cc T0 K X0
 have E0 := X0.ext0
 refine o_iloadN K X0 d27_0 rfl rfl ?_
 refine o_iloadN K X0 d27_1 rfl rfl ?_
 refine o_icmp_gt_t K X0 d27_2 (by decide) (pc' := 9) (by decide) (by decide) ?_
 refine o_iloadN K X0 d27_9 rfl rfl ?_
 refine o_ireturn K X0 d27_10 rfl ?_ (by decide) (by decide)
 exact ⟨rfl, rfl⟩
theorem d28_59 : decode jdk_40_method_47_code 59 = .ok (.aload_n 0, 1) := by decide +kernel
theorem d28_60 : decode jdk_40_method_47_code 60 = .ok (.invokestatic 109, 3) := by decide +kernel
theorem d28_63 : decode jdk_40_method_47_code 63 = .ok (.areturn, 1) := by decide +kernel
def r_lof3 : Room := { frames := 6, cells := 2, slots := 5, locals := 77 }
def Q_lof3 (Z : State) (b : Addr) (k : ClassId) (s0 s1 s2 : Addr) (h0 : Heap) (v : Option Value) (h : Heap) : Prop := ∃ q y : Addr, ∃ ky : ClassId, v = some (.ref q) ∧ Keep h0 h [] ∧ h0.size ≤ q ∧ Exa Z h q z9 ∧ Fld Z h q z9 "elements" z5 (.ref y) ∧ oArr Z h y ky (.object z3) [.ref s0, .ref s1, .ref s2]
theorem rm_lof3 (l : Launch) (Z : State) (a0 : Array Value) (hw : oHw Z a0) (b : Addr) (k : ClassId) (s0 s1 s2 : Addr) (h0 : Heap) (q0 : oArr Z h0 b k (.object z3) [.ref s0, .ref s1, .ref s2]) (q1 : Exa Z h0 s0 z0) (q2 : Exa Z h0 s1 z0) (q3 : Exa Z h0 s2 z0) : oMet l Z (⟨z7, "of", "([Ljava/lang/Object;)Ljava/util/List;"⟩ : MethodName) jdk_40_method_47_code 2 (some (.object z7)) r_lof3 [] #[.ref b] h0 (Q_lof3 Z b k s0 s1 s2 h0) := by
 refine oEnter (plainFor_of_name (by first | (simp [plainName, overriddenIn]; done) | decide +kernel)) (own := z7) (nm := "of") rfl rfl (L := #[.val (.ref b), .unset]) (fun m => by first | (simp [entryFrame, mkF, argsToLocals, Value.category]; done) | rfl) ?_
 intro pp ee ss mm bb mtd cc T0 K X0
 have E0 := X0.ext0
 refine o_aloadN K X0 d28_0 rfl rfl rfl ?_
 refine o_arraylength K X0 q0 (z := 3) rfl d28_1 rfl ?_
 refine o_tswOut K X0 d28_2 (by decide) (by decide) (pc' := 59) (by decide) ?_
 refine o_aloadN K X0 d28_59 rfl rfl rfl ?_
 refine o_static K X0  (w280 hw) (w281 hw) (w112 hw) (w282 hw) (by decide) (rm_lfa l Z a0 hw b k s0 s1 s2 h0 q0 q1 q2 q3) (by decide) rfl (argsL := [.ref b]) rfl (lenOf pd21 rfl) (W := 0) rfl (by decide) (by decide) (by decide) d28_60 rfl ?_
 intro v1 T1 h1 X1 U1
 obtain ⟨q_1, y_1, ky_1, rfl, u1_0, u1_1, u1_2, u1_3, u1_4⟩ := U1
 have G1_q : Z.heap.size ≤ q_1 := Nat.le_trans X0.ext0.1 u1_1
 show oGoes pp ee bb ss Z T1 (mkF mm 63 _ [.ref q_1]) _ _ _
 refine o_areturn K X1 (t := (.object z7)) d28_63 rfl rfl rfl ?_ (by decide) (by decide)
 exact ⟨q_1, y_1, ky_1, rfl, ((Keep.refl h0 []).trans u1_0 all0), u1_1, u1_2, u1_3, u1_4⟩
def r_cpy3_3 : Room := { frames := 1, cells := 1, slots := 3, locals := 18 }
def Q_cpy3_3 (Z : State) (b : Addr) (k : ClassId) (s0 s1 s2 mr : Addr) (h0 : Heap) (v : Option Value) (h : Heap) : Prop := ∃ r : Addr, ∃ kr : ClassId, v = some (.ref r) ∧ Keep h0 h [] ∧ h0.size ≤ r ∧ oArr Z h r kr (.object z3) [.ref s0, .ref s1, .ref s2] ∧ Ovr Z kr z3
theorem rm_cpy3_3 (l : Launch) (Z : State) (a0 : Array Value) (hw : oHw Z a0) (b : Addr) (k : ClassId) (s0 s1 s2 mr : Addr) (h0 : Heap) (q0 : oArr Z h0 b k (.object z3) [.ref s0, .ref s1, .ref s2, .null, .null, .null, .null, .null, .null, .null]) (q1 : Exa Z h0 b z5) (q2 : Exa Z h0 s0 z0) (q3 : Exa Z h0 s1 z0) (q4 : Exa Z h0 s2 z0) (q5 : oMir Z z5 mr) : oMet l Z (⟨"java/util/Arrays", "copyOf", "([Ljava/lang/Object;ILjava/lang/Class;)[Ljava/lang/Object;"⟩ : MethodName) jdk_65_method_120_code 4 (some (.array (.object z3))) r_cpy3_3 [] #[.ref b, .int 3, .ref mr] h0 (Q_cpy3_3 Z b k s0 s1 s2 mr h0) := by
 refine oEnter (plainFor_of_name (by first | (simp [plainName, overriddenIn]; done) | decide +kernel)) (own := "java/util/Arrays") (nm := "copyOf") rfl rfl (L := #[.val (.ref b), .val (.int 3), .val (.ref mr), .unset]) (fun m => by first | (simp [entryFrame, mkF, argsToLocals, Value.category]; done) | rfl) ?_
 intro pp ee ss mm bb mtd cc T0 K X0
 have E0 := X0.ext0
 refine o_aloadN K X0 d29_0 rfl rfl rfl ?_
 refine o_ldcClass K X0 (w150 hw) q5 d29_1 rfl ?_
 intro T1 X1
 refine o_acmp K X1 true d29_3 (by decide) rfl rfl (decide_eq_true rfl) (pc' := 6) (by decide) ?_
 refine o_iloadN K X1 d29_6 rfl rfl ?_
 refine o_anewarray K X1 3 (w151 hw) (w95 hw) (ad := z5) (by decide +kernel) (by decide) (by decide) (by decide) d29_7 rfl (by decide) (by decide) ?_
 intro T2 h2 b2 k2 X2 g2 E2 A2 B2 O2 G2
 replace A2 : oArr Z h2 b2 k2 (.object z3) [.null, .null, .null] := A2
 refine o_goto K X2 d29_10 (by decide) (pc' := 24) (by decide) ?_
 refine o_astoreN K X2 d29_24 rfl rfl (L' := #[vR b, vI 3, vR mr, vR b2]) rfl ?_
 refine o_aloadN K X2 d29_25 rfl rfl rfl ?_
 refine o_iconst K X2 d29_26 rfl (z := 0) rfl ?_
 refine o_aloadN K X2 d29_27 rfl rfl rfl ?_
 refine o_iconst K X2 d29_28 rfl (z := 0) rfl ?_
 refine o_aloadN K X2 d29_29 rfl rfl rfl ?_
 have m3 := (q0.ext E2)
 refine o_arraylength K X2 m3 (z := 10) rfl d29_30 rfl ?_
 refine o_iloadN K X2 d29_31 rfl rfl ?_
 refine o_static K X2  (w152 hw) (w153 hw) (w92 hw) (w154 hw) (by decide) (rm_min3 l Z a0 hw  h2) (by decide) rfl (argsL := [.int 10, .int 3]) rfl (lenOf pd8 rfl) (W := 4) rfl (by decide) (by decide) (by decide) d29_32 rfl ?_
 intro v4 T4 h4 X4 U4
 obtain ⟨rfl, rfl⟩ := U4
 show oGoes pp ee bb ss Z T4 (mkF mm 35 _ [.int 3, .int 0, .ref b2, .int 0, .ref b]) _ _ _
 have m6 := (q4.ext E2)
 have m7 := (q3.ext E2)
 have m8 := (q2.ext E2)
 refine o_arraycopy K X4 [.ref s0, .ref s1, .ref s2] [.ref s0, .ref s1, .ref s2] (w155 hw) (w158 hw) (w156 hw) (w157 hw) m3 A2 (Or.inr ⟨rfl, rfl, ⟨(oSto A2 O2 (Ins.of_exa m8 (w96 hw))), ⟨(oSto A2 O2 (Ins.of_exa m7 (w96 hw))), ⟨(oSto A2 O2 (Ins.of_exa m6 (w96 hw))), trivial⟩⟩⟩⟩) (by decide) (by decide) (by decide) (show (0 : Int32).toNatClampNeg + (3 : Int32).toNatClampNeg ≤ 10 from (by decide)) (show (0 : Int32).toNatClampNeg + (3 : Int32).toNatClampNeg ≤ 3 from (by decide)) rfl rfl rfl G2 d29_35 rfl rfl (by decide) (W := 0) rfl (by decide) ?_
 intro T5 h5 X5 K5 A5
 refine o_aloadN K X5 d29_38 rfl rfl rfl ?_
 refine o_areturn K X5 (t := (.array (.object z3))) d29_39 rfl rfl rfl ?_ (by decide) (by decide)
 exact ⟨b2, k2, rfl, (((Keep.refl h0 []).ext E2).trans K5 (allS (Or.inr (oLe g2)) all0)), (oLe g2), A5, O2⟩
def r_cpy2_3 : Room := { frames := 2, cells := 1, slots := 3, locals := 33 }
def Q_cpy2_3 (Z : State) (b : Addr) (k : ClassId) (s0 s1 s2 mr : Addr) (h0 : Heap) (v : Option Value) (h : Heap) : Prop := ∃ r : Addr, ∃ kr : ClassId, v = some (.ref r) ∧ Keep h0 h [] ∧ h0.size ≤ r ∧ oArr Z h r kr (.object z3) [.ref s0, .ref s1, .ref s2] ∧ Ovr Z kr z3
theorem rm_cpy2_3 (l : Launch) (Z : State) (a0 : Array Value) (hw : oHw Z a0) (b : Addr) (k : ClassId) (s0 s1 s2 mr : Addr) (h0 : Heap) (q0 : oArr Z h0 b k (.object z3) [.ref s0, .ref s1, .ref s2, .null, .null, .null, .null, .null, .null, .null]) (q1 : Exa Z h0 b z5) (q2 : Exa Z h0 s0 z0) (q3 : Exa Z h0 s1 z0) (q4 : Exa Z h0 s2 z0) (q5 : oMir Z z5 mr) : oMet l Z (⟨"java/util/Arrays", "copyOf", "([Ljava/lang/Object;I)[Ljava/lang/Object;"⟩ : MethodName) jdk_65_method_119_code 2 (some (.array (.object z3))) r_cpy2_3 [] #[.ref b, .int 3] h0 (Q_cpy2_3 Z b k s0 s1 s2 mr h0) := by
 refine oEnter (plainFor_of_name (by first | (simp [plainName, overriddenIn]; done) | decide +kernel)) (own := "java/util/Arrays") (nm := "copyOf") rfl rfl (L := #[.val (.ref b), .val (.int 3)]) (fun m => by first | (simp [entryFrame, mkF, argsToLocals, Value.category]; done) | rfl) ?_
 intro pp ee ss mm bb mtd cc T0 K X0
 have E0 := X0.ext0
 refine o_aloadN K X0 d30_0 rfl rfl rfl ?_
 refine o_iloadN K X0 d30_1 rfl rfl ?_
 refine o_aloadN K X0 d30_2 rfl rfl rfl ?_
 refine o_getClass K X0 (w141 hw) (w142 hw) (w118 hw) (w144 hw) (w143 hw) (w145 hw) q1 q5 d30_3 rfl rfl (by decide) (W := 2) rfl (by decide) ?_
 intro T1 X1
 refine o_static K X1  (w147 hw) (w148 hw) (w139 hw) (w149 hw) (by decide) (rm_cpy3_3 l Z a0 hw b k s0 s1 s2 mr h0 q0 q1 q2 q3 q4 q5) (by decide) rfl (argsL := [.ref b, .int 3, .ref mr]) rfl (lenOf pd18 rfl) (W := 0) rfl (by decide) (by decide) (by decide) d30_6 rfl ?_
 intro v2 T2 h2 X2 U2
 obtain ⟨r_2, kr_2, rfl, u2_0, u2_1, u2_2, u2_3⟩ := U2
 have G2_r : Z.heap.size ≤ r_2 := Nat.le_trans X1.ext0.1 u2_1
 show oGoes pp ee bb ss Z T2 (mkF mm 9 _ [.ref r_2]) _ _ _
 refine o_areturn K X2 (t := (.array (.object z3))) d30_9 rfl rfl rfl ?_ (by decide) (by decide)
 exact ⟨r_2, kr_2, rfl, ((Keep.refl h0 []).trans u2_0 all0), u2_1, u2_2, u2_3⟩
def r_alemp3 : Room := { frames := 0, cells := 0, slots := 0, locals := 0 }
def Q_alemp3 (Z : State) (a : Addr) (h0 : Heap) (v : Option Value) (h : Heap) : Prop := v = some (.int 0) ∧ h0 = h
theorem rm_alemp3 (l : Launch) (Z : State) (a0 : Array Value) (hw : oHw Z a0) (a : Addr) (h0 : Heap) (q0 : Fld Z h0 a z1 "size" "I" (.int 3)) : oMet l Z (⟨z1, "isEmpty", "()Z"⟩ : MethodName) jdk_38_method_9_code 1 (some .boolean) r_alemp3 [] #[.ref a] h0 (Q_alemp3 Z a h0) := by
 refine oEnter (plainFor_of_name (by first | (simp [plainName, overriddenIn]; done) | decide +kernel)) (own := z1) (nm := "isEmpty") rfl rfl (L := #[.val (.ref a)]) (fun m => by first | (simp [entryFrame, mkF, argsToLocals, Value.category]; done) | rfl) ?_
 intro pp ee ss mm bb mtd cc T0 K X0
 have E0 := X0.ext0
 refine o_aloadN K X0 d31_0 rfl rfl rfl ?_
 refine o_getfield K X0 (host := "") (Or.inl (w73 hw)) Via.refl q0 d31_1 rfl ?_
 intro T1 X1
 refine o_if_ne_t K X1 d31_4 (by decide) (pc' := 11) (by decide) (by decide) ?_
 refine o_iconst K X1 d31_11 rfl (z := 0) rfl ?_
 refine o_ireturnN K X1 .boolean d31_12 rfl (by simp) (z' := 0) (by decide) ?_ (by decide) (by decide)
 exact ⟨rfl, rfl⟩
def r_altoa3 : Room := { frames := 3, cells := 1, slots := 3, locals := 46 }
def Q_altoa3 (Z : State) (a b : Addr) (k : ClassId) (s0 s1 s2 mr : Addr) (h0 : Heap) (v : Option Value) (h : Heap) : Prop := ∃ r : Addr, ∃ kr : ClassId, v = some (.ref r) ∧ Keep h0 h [] ∧ h0.size ≤ r ∧ oArr Z h r kr (.object z3) [.ref s0, .ref s1, .ref s2] ∧ Ovr Z kr z3
theorem rm_altoa3 (l : Launch) (Z : State) (a0 : Array Value) (hw : oHw Z a0) (a b : Addr) (k : ClassId) (s0 s1 s2 mr : Addr) (h0 : Heap) (q0 : Exa Z h0 a z1) (q1 : Fld Z h0 a z1 z14 z5 (.ref b)) (q2 : Fld Z h0 a z1 "size" "I" (.int 3)) (q3 : oArr Z h0 b k (.object z3) [.ref s0, .ref s1, .ref s2, .null, .null, .null, .null, .null, .null, .null]) (q4 : Exa Z h0 b z5) (q5 : Exa Z h0 s0 z0) (q6 : Exa Z h0 s1 z0) (q7 : Exa Z h0 s2 z0) (q8 : oMir Z z5 mr) : oMet l Z (⟨z1, "toArray", z19⟩ : MethodName) jdk_38_method_16_code 1 (some (.array (.object z3))) r_altoa3 [] #[.ref a] h0 (Q_altoa3 Z a b k s0 s1 s2 mr h0) := by
 refine oEnter (plainFor_of_name (by first | (simp [plainName, overriddenIn]; done) | decide +kernel)) (own := z1) (nm := "toArray") rfl rfl (L := #[.val (.ref a)]) (fun m => by first | (simp [entryFrame, mkF, argsToLocals, Value.category]; done) | rfl) ?_
 intro pp ee ss mm bb mtd cc T0 K X0
 have E0 := X0.ext0
 refine o_aloadN K X0 d32_0 rfl rfl rfl ?_
 refine o_getfield K X0 (host := "") (Or.inl (w32 hw)) Via.refl q1 d32_1 rfl ?_
 intro T1 X1
 refine o_aloadN K X1 d32_4 rfl rfl rfl ?_
 refine o_getfield K X1 (host := "") (Or.inl (w73 hw)) Via.refl q2 d32_5 rfl ?_
 intro T2 X2
 refine o_static K X2  (w137 hw) (w138 hw) (w139 hw) (w140 hw) (by decide) (rm_cpy2_3 l Z a0 hw b k s0 s1 s2 mr h0 q3 q4 q5 q6 q7 q8) (by decide) rfl (argsL := [.ref b, .int 3]) rfl (lenOf pd19 rfl) (W := 0) rfl (by decide) (by decide) (by decide) d32_8 rfl ?_
 intro v3 T3 h3 X3 U3
 obtain ⟨r_3, kr_3, rfl, u3_0, u3_1, u3_2, u3_3⟩ := U3
 have G3_r : Z.heap.size ≤ r_3 := Nat.le_trans X2.ext0.1 u3_1
 show oGoes pp ee bb ss Z T3 (mkF mm 11 _ [.ref r_3]) _ _ _
 refine o_areturn K X3 (t := (.array (.object z3))) d32_11 rfl rfl rfl ?_ (by decide) (by decide)
 exact ⟨r_3, kr_3, rfl, ((Keep.refl h0 []).trans u3_0 all0), u3_1, u3_2, u3_3⟩
def r_lcpy3 : Room := { frames := 7, cells := 3, slots := 8, locals := 90 }
def Q_lcpy3 (Z : State) (a b : Addr) (k : ClassId) (s0 s1 s2 mr : Addr) (h0 : Heap) (v : Option Value) (h : Heap) : Prop := ∃ q y : Addr, ∃ ky : ClassId, v = some (.ref q) ∧ Keep h0 h [] ∧ h0.size ≤ q ∧ Exa Z h q z9 ∧ Fld Z h q z9 "elements" z5 (.ref y) ∧ oArr Z h y ky (.object z3) [.ref s0, .ref s1, .ref s2]
theorem rm_lcpy3 (l : Launch) (Z : State) (a0 : Array Value) (hw : oHw Z a0) (a b : Addr) (k : ClassId) (s0 s1 s2 mr : Addr) (h0 : Heap) (q0 : Exa Z h0 a z1) (q1 : Fld Z h0 a z1 z14 z5 (.ref b)) (q2 : Fld Z h0 a z1 "size" "I" (.int 3)) (q3 : oArr Z h0 b k (.object z3) [.ref s0, .ref s1, .ref s2, .null, .null, .null, .null, .null, .null, .null]) (q4 : Exa Z h0 b z5) (q5 : Exa Z h0 s0 z0) (q6 : Exa Z h0 s1 z0) (q7 : Exa Z h0 s2 z0) (q8 : oMir Z z5 mr) : oMet l Z (⟨z18, "listCopy", z24⟩ : MethodName) jdk_56_method_3_code 2 (some (.object z7)) r_lcpy3 [] #[.ref a] h0 (Q_lcpy3 Z a b k s0 s1 s2 mr h0) := by
 refine oEnter (plainFor_of_name (by first | (simp [plainName, overriddenIn]; done) | decide +kernel)) (own := z18) (nm := "listCopy") rfl rfl (L := #[.val (.ref a), .unset]) (fun m => by first | (simp [entryFrame, mkF, argsToLocals, Value.category]; done) | rfl) ?_
 intro pp ee ss mm bb mtd cc T0 K X0
 have E0 := X0.ext0
 refine o_aloadN K X0 d33_0 rfl rfl rfl ?_
 refine o_instanceofNo K X0 (w114 hw) q0 (oNSno (w115 hw) (w163 hw) (NS.step (w115 hw) (NS.step (w116 hw) (NS.step (w117 hw) (oNSroot (w118 hw) (w163 hw) (by decide)) (by decide)) (by decide)) (by decide)) (by decide)) d33_1 rfl ?_
 intro T1 X1
 refine o_if_ne_f K X1 d33_4 rfl (by decide) ?_
 refine o_aloadN K X1 d33_7 rfl rfl rfl ?_
 refine o_instanceofNo K X1 (w119 hw) q0 (oNSno (w115 hw) (w285 hw) (NS.step (w115 hw) (NS.step (w116 hw) (NS.step (w117 hw) (oNSroot (w118 hw) (w285 hw) (by decide)) (by decide)) (by decide)) (by decide)) (by decide)) d33_8 rfl ?_
 intro T2 X2
 refine o_if_eq_t K X2 d33_11 (by decide) (pc' := 31) (by decide) (by decide) ?_
 refine o_aloadN K X2 d33_31 rfl rfl rfl ?_
 refine o_interface K X2 (y := (⟨"java/util/Collection", "isEmpty", "()Z"⟩ : MethodName)) (z := (⟨z1, "isEmpty", "()Z"⟩ : MethodName)) (w120 hw) (w121 hw) (w122 hw) rfl (w123 hw) (w124 hw) (w125 hw) (w126 hw) (w127 hw) (w10 hw) (w128 hw) (by decide) q0 (rm_alemp3 l Z a0 hw a h0 q2) (by decide) rfl (argsL := []) rfl (lenOf pd20 rfl) (W := 0) rfl (by decide) (by decide) (by decide) d33_32 rfl ?_
 intro v3 T3 h3 X3 U3
 obtain ⟨rfl, rfl⟩ := U3
 show oGoes pp ee bb ss Z T3 (mkF mm 37 _ [.int 0]) _ _ _
 refine o_if_eq_t K X3 d33_37 (by decide) (pc' := 44) (by decide) (by decide) ?_
 refine o_aloadN K X3 d33_44 rfl rfl rfl ?_
 refine o_interface K X3 (y := (⟨"java/util/Collection", "toArray", z19⟩ : MethodName)) (z := (⟨z1, "toArray", z19⟩ : MethodName)) (w129 hw) (w130 hw) (w131 hw) rfl (w132 hw) (w133 hw) (w134 hw) (w135 hw) (w127 hw) (w10 hw) (w136 hw) (by decide) q0 (rm_altoa3 l Z a0 hw a b k s0 s1 s2 mr h0 q0 q1 q2 q3 q4 q5 q6 q7 q8) (by decide) rfl (argsL := []) rfl (lenOf pd10 rfl) (W := 0) rfl (by decide) (by decide) (by decide) d33_45 rfl ?_
 intro v4 T4 h4 X4 U4
 obtain ⟨r_4, kr_4, rfl, u4_0, u4_1, u4_2, u4_3⟩ := U4
 have G4_r : Z.heap.size ≤ r_4 := Nat.le_trans X3.ext0.1 u4_1
 show oGoes pp ee bb ss Z T4 (mkF mm 50 _ [.ref r_4]) _ _ _
 have m5 := (q5.keep u4_0)
 have m6 := (q6.keep u4_0)
 have m7 := (q7.keep u4_0)
 refine o_static K X4  (w159 hw) (w160 hw) (w108 hw) (w161 hw) (by decide) (rm_lof3 l Z a0 hw r_4 kr_4 s0 s1 s2 h4 u4_2 m5 m6 m7) (by decide) rfl (argsL := [.ref r_4]) rfl (lenOf pd21 rfl) (W := 0) rfl (by decide) (by decide) (by decide) d33_50 rfl ?_
 intro v8 T8 h8 X8 U8
 obtain ⟨q_8, y_8, ky_8, rfl, u8_0, u8_1, u8_2, u8_3, u8_4⟩ := U8
 have G8_q : Z.heap.size ≤ q_8 := Nat.le_trans X4.ext0.1 u8_1
 show oGoes pp ee bb ss Z T8 (mkF mm 53 _ [.ref q_8]) _ _ _
 refine o_areturn K X8 (t := (.object z7)) d33_53 rfl rfl rfl ?_ (by decide) (by decide)
 exact ⟨q_8, y_8, ky_8, rfl, (((Keep.refl h0 []).trans u4_0 all0).trans u8_0 all0), (Nat.le_trans u4_0.1 u8_1), u8_2, u8_3, u8_4⟩
def r_lcof3 : Room := { frames := 8, cells := 3, slots := 8, locals := 103 }
def Q_lcof3 (Z : State) (a b : Addr) (k : ClassId) (s0 s1 s2 mr : Addr) (h0 : Heap) (v : Option Value) (h : Heap) : Prop := ∃ q y : Addr, ∃ ky : ClassId, v = some (.ref q) ∧ Keep h0 h [] ∧ h0.size ≤ q ∧ Exa Z h q z9 ∧ Fld Z h q z9 "elements" z5 (.ref y) ∧ oArr Z h y ky (.object z3) [.ref s0, .ref s1, .ref s2]
theorem rm_lcof3 (l : Launch) (Z : State) (a0 : Array Value) (hw : oHw Z a0) (a b : Addr) (k : ClassId) (s0 s1 s2 mr : Addr) (h0 : Heap) (q0 : Exa Z h0 a z1) (q1 : Fld Z h0 a z1 z14 z5 (.ref b)) (q2 : Fld Z h0 a z1 "size" "I" (.int 3)) (q3 : oArr Z h0 b k (.object z3) [.ref s0, .ref s1, .ref s2, .null, .null, .null, .null, .null, .null, .null]) (q4 : Exa Z h0 b z5) (q5 : Exa Z h0 s0 z0) (q6 : Exa Z h0 s1 z0) (q7 : Exa Z h0 s2 z0) (q8 : oMir Z z5 mr) : oMet l Z (⟨z7, "copyOf", z24⟩ : MethodName) jdk_40_method_48_code 1 (some (.object z7)) r_lcof3 [] #[.ref a] h0 (Q_lcof3 Z a b k s0 s1 s2 mr h0) := by
 refine oEnter (plainFor_of_name (by first | (simp [plainName, overriddenIn]; done) | decide +kernel)) (own := z7) (nm := "copyOf") rfl rfl (L := #[.val (.ref a)]) (fun m => by first | (simp [entryFrame, mkF, argsToLocals, Value.category]; done) | rfl) ?_
 intro pp ee ss mm bb mtd cc T0 K X0
 have E0 := X0.ext0
 refine o_aloadN K X0 d34_0 rfl rfl rfl ?_
 refine o_static K X0  (w110 hw) (w111 hw) (w112 hw) (w113 hw) (by decide) (rm_lcpy3 l Z a0 hw a b k s0 s1 s2 mr h0 q0 q1 q2 q3 q4 q5 q6 q7 q8) (by decide) rfl (argsL := [.ref a]) rfl (lenOf pd22 rfl) (W := 0) rfl (by decide) (by decide) (by decide) d34_1 rfl ?_
 intro v1 T1 h1 X1 U1
 obtain ⟨q_1, y_1, ky_1, rfl, u1_0, u1_1, u1_2, u1_3, u1_4⟩ := U1
 have G1_q : Z.heap.size ≤ q_1 := Nat.le_trans X0.ext0.1 u1_1
 show oGoes pp ee bb ss Z T1 (mkF mm 4 _ [.ref q_1]) _ _ _
 refine o_areturn K X1 (t := (.object z7)) d34_4 rfl rfl rfl ?_ (by decide) (by decide)
 exact ⟨q_1, y_1, ky_1, rfl, ((Keep.refl h0 []).trans u1_0 all0), u1_1, u1_2, u1_3, u1_4⟩
def r_crow3 : Room := { frames := 9, cells := 3, slots := 8, locals := 115 }
def Q_crow3 (Z : State) (w : Addr) (ln : Int32) (a b : Addr) (k : ClassId) (s0 s1 s2 mr : Addr) (h0 : Heap) (v : Option Value) (h : Heap) : Prop := ∃ q y : Addr, ∃ ky : ClassId, v = none ∧ Keep h0 h [w] ∧ Exa Z h w z2 ∧ Fld Z h w z2 "line" "I" (.int ln) ∧ Fld Z h w z2 "fields" z11 (.ref q) ∧ Exa Z h q z9 ∧ Fld Z h q z9 "elements" z5 (.ref y) ∧ oArr Z h y ky (.object z3) [.ref s0, .ref s1, .ref s2]
theorem rm_crow3 (l : Launch) (Z : State) (a0 : Array Value) (hw : oHw Z a0) (w : Addr) (ln : Int32) (a b : Addr) (k : ClassId) (s0 s1 s2 mr : Addr) (h0 : Heap) (q0 : Exa Z h0 w z2) (q1 : Fld Z h0 w z2 "line" "I" (.int 0)) (q2 : Fld Z h0 w z2 "fields" z11 .null) (q3 : Z.heap.size ≤ w) (q4 : Exa Z h0 a z1) (q5 : Fld Z h0 a z1 z14 z5 (.ref b)) (q6 : Fld Z h0 a z1 "size" "I" (.int 3)) (q7 : oArr Z h0 b k (.object z3) [.ref s0, .ref s1, .ref s2, .null, .null, .null, .null, .null, .null, .null]) (q8 : Exa Z h0 b z5) (q9 : Exa Z h0 s0 z0) (q10 : Exa Z h0 s1 z0) (q11 : Exa Z h0 s2 z0) (q12 : oMir Z z5 mr) : oMet l Z (⟨z2, "<init>", z15⟩ : MethodName) prog_28_method_1_code 3 none r_crow3 [] #[.ref w, .int ln, .ref a] h0 (Q_crow3 Z w ln a b k s0 s1 s2 mr h0) := by
 refine oEnter (plainFor_of_name (by first | (simp [plainName, overriddenIn]; done) | decide +kernel)) (own := z2) (nm := "<init>") rfl rfl (L := #[.val (.ref w), .val (.int ln), .val (.ref a)]) (fun m => by first | (simp [entryFrame, mkF, argsToLocals, Value.category]; done) | rfl) ?_
 intro pp ee ss mm bb mtd cc T0 K X0
 have E0 := X0.ext0
 refine o_aloadN K X0 d35_0 rfl rfl rfl ?_
 refine o_special K X0 (y := (⟨"java/lang/Record", "<init>", "()V"⟩ : MethodName)) rfl (w100 hw) (w101 hw) (w103 hw) (w104 hw) (by decide) (rm_rec l Z a0 hw w h0) (by decide) rfl (argsL := []) rfl (lenOf pd7 rfl) (W := 0) rfl (by decide) (by decide) (by decide) d35_1 rfl ?_
 intro v1 T1 h1 X1 U1
 obtain ⟨rfl, rfl⟩ := U1
 show oGoes pp ee bb ss Z T1 (mkF mm 4 _ []) _ _ _
 refine o_aloadN K X1 d35_4 rfl rfl rfl ?_
 refine o_static K X1  (w106 hw) (w107 hw) (w108 hw) (w109 hw) (by decide) (rm_lcof3 l Z a0 hw a b k s0 s1 s2 mr h0 q4 q5 q6 q7 q8 q9 q10 q11 q12) (by decide) rfl (argsL := [.ref a]) rfl (lenOf pd22 rfl) (W := 0) rfl (by decide) (by decide) (by decide) d35_5 rfl ?_
 intro v2 T2 h2 X2 U2
 obtain ⟨q_2, y_2, ky_2, rfl, u2_0, u2_1, u2_2, u2_3, u2_4⟩ := U2
 have G2_q : Z.heap.size ≤ q_2 := Nat.le_trans X1.ext0.1 u2_1
 show oGoes pp ee bb ss Z T2 (mkF mm 8 _ [.ref q_2]) _ _ _
 refine o_astoreN K X2 d35_8 rfl rfl (L' := #[vR w, vI ln, vR q_2]) rfl ?_
 refine o_aloadN K X2 d35_9 rfl rfl rfl ?_
 refine o_iloadN K X2 d35_10 rfl rfl ?_
 have m4 := (q1.keep u2_0 nin0)
 have m5 := (q0.keep u2_0)
 refine o_putfield K X2 (host := "") (Or.inl (w192 hw)) Via.refl m4 m5 (Or.inr ⟨(w193 hw), rfl, rfl⟩) (w2 hw) (ty := .int) (by decide) rfl rfl q3 d35_11 rfl ?_
 intro T3 h3 X3 W3
 have F3 := Fld.same W3 m4
 refine o_aloadN K X3 d35_14 rfl rfl rfl ?_
 refine o_aloadN K X3 d35_15 rfl rfl rfl ?_
 have m7 := (Fld.other W3 (q2.keep u2_0 nin0) (Or.inr (slot_ne (Or.inr (w195 hw)) (Or.inr (w193 hw)) (by decide) (t := (.object z7)) (t' := .int) (by decide) (by decide))))
 have m8 := (Exa.wr W3 m5)
 refine o_putfield K X3 (host := "") (Or.inl (w194 hw)) Via.refl m7 m8 (Or.inr ⟨(w195 hw), rfl, rfl⟩) (w2 hw) (ty := (.object z7)) (by decide) rfl rfl q3 d35_16 rfl ?_
 intro T6 h6 X6 W6
 have F6 := Fld.same W6 m7
 refine o_return K X6 d35_19 rfl ?_ (by decide) (by decide)
 have m9 := (Exa.wr W6 m8)
 have m10 := (Fld.other W6 F3 (Or.inr (slot_ne (Or.inr (w193 hw)) (Or.inr (w195 hw)) (by decide) (t := .int) (t' := (.object z7)) (by decide) (by decide))))
 have m11 := (Exa.wr W6 (Exa.wr W3 u2_2))
 have n12 := oLsz q0.lt u2_1
 have m13 := (Fld.other W6 (Fld.other W3 u2_3 (Or.inl n12)) (Or.inl n12))
 have n14 : y_2 ≠ w := (oNeArr (q0.keep u2_0) (w2 hw) u2_4)
 have m15 := ((u2_4.other W3 n14).other W6 n14)
 exact ⟨q_2, y_2, ky_2, rfl, ((((Keep.refl h0 [w]).trans u2_0 all0).wr W3 (Or.inl me0)).wr W6 (Or.inl me0)), m9, m10, F6, m11, m13, m15⟩
theorem d36_0 : decode jdk_44_method_5_code 0 = .ok (.iload_n 1, 1) := by decide +kernel
theorem d36_1 : decode jdk_44_method_5_code 1 = .ok (.ifCond .ne 8, 3) := by decide +kernel
theorem d36_4 : decode jdk_44_method_5_code 4 = .ok (.aload_n 0, 1) := by decide +kernel
theorem d36_5 : decode jdk_44_method_5_code 5 = .ok (.getfield 13, 3) := by decide +kernel
theorem d36_8 : decode jdk_44_method_5_code 8 = .ok (.areturn, 1) := by decide +kernel
def r_get12_0 : Room := { frames := 0, cells := 0, slots := 0, locals := 0 }
def Q_get12_0 (Z : State) (a x : Addr) (h0 : Heap) (v : Option Value) (h : Heap) : Prop := v = some (.ref x) ∧ h0 = h
theorem rm_get12_0 (l : Launch) (Z : State) (a0 : Array Value) (hw : oHw Z a0) (a x : Addr) (h0 : Heap) (q0 : Fld Z h0 a z8 "e0" z10 (.ref x)) : oMet l Z (⟨z8, "get", z17⟩ : MethodName) jdk_44_method_5_code 2 (some (.object z3)) r_get12_0 [] #[.ref a, .int 0] h0 (Q_get12_0 Z a x h0) := by
 refine oEnter (plainFor_of_name (by first | (simp [plainName, overriddenIn]; done) | decide +kernel)) (own := z8) (nm := "get") rfl rfl (L := #[.val (.ref a), .val (.int 0)]) (fun m => by first | (simp [entryFrame, mkF, argsToLocals, Value.category]; done) | rfl) ?_
 intro pp ee ss mm bb mtd cc T0 K X0
 have E0 := X0.ext0
 refine o_iloadN K X0 d36_0 rfl rfl ?_
 refine o_if_ne_f K X0 d36_1 rfl (by decide) ?_
 refine o_aloadN K X0 d36_4 rfl rfl rfl ?_
 refine o_getfield K X0 (host := "") (Or.inl (w187 hw)) Via.refl q0 d36_5 rfl ?_
 intro T1 X1
 refine o_areturn K X1 (t := (.object z3)) d36_8 rfl rfl rfl ?_ (by decide) (by decide)
 exact ⟨rfl, rfl⟩
theorem d36_9 : decode jdk_44_method_5_code 9 = .ok (.iload_n 1, 1) := by decide +kernel
theorem d36_10 : decode jdk_44_method_5_code 10 = .ok (.iconst 1, 1) := by decide +kernel
theorem d36_11 : decode jdk_44_method_5_code 11 = .ok (.if_icmp .ne 18, 3) := by decide +kernel
theorem d36_14 : decode jdk_44_method_5_code 14 = .ok (.aload_n 0, 1) := by decide +kernel
theorem d36_15 : decode jdk_44_method_5_code 15 = .ok (.getfield 24, 3) := by decide +kernel
theorem d36_18 : decode jdk_44_method_5_code 18 = .ok (.getstatic 19, 3) := by decide +kernel
theorem d36_21 : decode jdk_44_method_5_code 21 = .ok (.if_acmp .eq 8, 3) := by decide +kernel
theorem d36_24 : decode jdk_44_method_5_code 24 = .ok (.aload_n 0, 1) := by decide +kernel
theorem d36_25 : decode jdk_44_method_5_code 25 = .ok (.getfield 24, 3) := by decide +kernel
theorem d36_28 : decode jdk_44_method_5_code 28 = .ok (.areturn, 1) := by decide +kernel
def r_get12_1 : Room := { frames := 0, cells := 0, slots := 0, locals := 0 }
def Q_get12_1 (Z : State) (a x em : Addr) (h0 : Heap) (v : Option Value) (h : Heap) : Prop := v = some (.ref x) ∧ h0 = h
theorem rm_get12_1 (l : Launch) (Z : State) (a0 : Array Value) (hw : oHw Z a0) (a x em : Addr) (h0 : Heap) (q0 : Fld Z h0 a z8 "e1" z10 (.ref x)) (q1 : Z.heap.size ≤ x) (q2 : Sta Z Z.heap z18 "EMPTY" z10 (.ref em)) (q3 : Exa Z Z.heap em z3) : oMet l Z (⟨z8, "get", z17⟩ : MethodName) jdk_44_method_5_code 2 (some (.object z3)) r_get12_1 [] #[.ref a, .int 1] h0 (Q_get12_1 Z a x em h0) := by
 refine oEnter (plainFor_of_name (by first | (simp [plainName, overriddenIn]; done) | decide +kernel)) (own := z8) (nm := "get") rfl rfl (L := #[.val (.ref a), .val (.int 1)]) (fun m => by first | (simp [entryFrame, mkF, argsToLocals, Value.category]; done) | rfl) ?_
 intro pp ee ss mm bb mtd cc T0 K X0
 have E0 := X0.ext0
 refine o_iloadN K X0 d36_0 rfl rfl ?_
 refine o_if_ne_t K X0 d36_1 (by decide) (pc' := 9) (by decide) (by decide) ?_
 refine o_iloadN K X0 d36_9 rfl rfl ?_
 refine o_iconst K X0 d36_10 rfl (z := 1) rfl ?_
 refine o_icmp_ne_f K X0 d36_11 rfl (by decide) ?_
 refine o_aloadN K X0 d36_14 rfl rfl rfl ?_
 refine o_getfield K X0 (host := "") (Or.inl (w190 hw)) Via.refl q0 d36_15 rfl ?_
 intro T1 X1
 refine o_getstatic K X1 (Or.inr (w189 hw)) Via.refl (q2.ext X1.ext0) d36_18 rfl ?_
 intro T2 X2
 have n3 : x ≠ em := (Ne.symm (Nat.ne_of_lt (Nat.lt_of_lt_of_le q3.lt q1)))
 refine o_acmp K X2 false d36_21 (by decide) rfl rfl (decide_eq_false fun q => n3 (Value.ref.inj q)) (pc' := 24) (by decide) ?_
 refine o_aloadN K X2 d36_24 rfl rfl rfl ?_
 refine o_getfield K X2 (host := "") (Or.inl (w190 hw)) Via.refl q0 d36_25 rfl ?_
 intro T4 X4
 refine o_areturn K X4 (t := (.object z3)) d36_28 rfl rfl rfl ?_ (by decide) (by decide)
 exact ⟨rfl, rfl⟩
theorem d37_0 : decode jdk_45_method_4_code 0 = .ok (.aload_n 0, 1) := by decide +kernel
theorem d37_1 : decode jdk_45_method_4_code 1 = .ok (.getfield 7, 3) := by decide +kernel
theorem d37_4 : decode jdk_45_method_4_code 4 = .ok (.iload_n 1, 1) := by decide +kernel
theorem d37_5 : decode jdk_45_method_4_code 5 = .ok (.aaload, 1) := by decide +kernel
theorem d37_6 : decode jdk_45_method_4_code 6 = .ok (.areturn, 1) := by decide +kernel
def r_getN_0 : Room := { frames := 0, cells := 0, slots := 0, locals := 0 }
def Q_getN_0 (Z : State) (a y : Addr) (ky : ClassId) (s0 s1 s2 : Addr) (h0 : Heap) (v : Option Value) (h : Heap) : Prop := v = some (.ref s0) ∧ h0 = h
theorem rm_getN_0 (l : Launch) (Z : State) (a0 : Array Value) (hw : oHw Z a0) (a y : Addr) (ky : ClassId) (s0 s1 s2 : Addr) (h0 : Heap) (q0 : Fld Z h0 a z9 "elements" z5 (.ref y)) (q1 : oArr Z h0 y ky (.object z3) [.ref s0, .ref s1, .ref s2]) : oMet l Z (⟨z9, "get", z17⟩ : MethodName) jdk_45_method_4_code 2 (some (.object z3)) r_getN_0 [] #[.ref a, .int 0] h0 (Q_getN_0 Z a y ky s0 s1 s2 h0) := by
 refine oEnter (plainFor_of_name (by first | (simp [plainName, overriddenIn]; done) | decide +kernel)) (own := z9) (nm := "get") rfl rfl (L := #[.val (.ref a), .val (.int 0)]) (fun m => by first | (simp [entryFrame, mkF, argsToLocals, Value.category]; done) | rfl) ?_
 intro pp ee ss mm bb mtd cc T0 K X0
 have E0 := X0.ext0
 refine o_aloadN K X0 d37_0 rfl rfl rfl ?_
 refine o_getfield K X0 (host := "") (Or.inl (w295 hw)) Via.refl q0 d37_1 rfl ?_
 intro T1 X1
 refine o_iloadN K X1 d37_4 rfl rfl ?_
 refine o_aaload K X1 rfl q1 (by decide) (v := (.ref s0)) rfl d37_5 rfl ?_
 refine o_areturn K X1 (t := (.object z3)) d37_6 rfl rfl rfl ?_ (by decide) (by decide)
 exact ⟨rfl, rfl⟩
def r_getN_1 : Room := { frames := 0, cells := 0, slots := 0, locals := 0 }
def Q_getN_1 (Z : State) (a y : Addr) (ky : ClassId) (s0 s1 s2 : Addr) (h0 : Heap) (v : Option Value) (h : Heap) : Prop := v = some (.ref s1) ∧ h0 = h
theorem rm_getN_1 (l : Launch) (Z : State) (a0 : Array Value) (hw : oHw Z a0) (a y : Addr) (ky : ClassId) (s0 s1 s2 : Addr) (h0 : Heap) (q0 : Fld Z h0 a z9 "elements" z5 (.ref y)) (q1 : oArr Z h0 y ky (.object z3) [.ref s0, .ref s1, .ref s2]) : oMet l Z (⟨z9, "get", z17⟩ : MethodName) jdk_45_method_4_code 2 (some (.object z3)) r_getN_1 [] #[.ref a, .int 1] h0 (Q_getN_1 Z a y ky s0 s1 s2 h0) := by
 refine oEnter (plainFor_of_name (by first | (simp [plainName, overriddenIn]; done) | decide +kernel)) (own := z9) (nm := "get") rfl rfl (L := #[.val (.ref a), .val (.int 1)]) (fun m => by first | (simp [entryFrame, mkF, argsToLocals, Value.category]; done) | rfl) ?_
 intro pp ee ss mm bb mtd cc T0 K X0
 have E0 := X0.ext0
 refine o_aloadN K X0 d37_0 rfl rfl rfl ?_
 refine o_getfield K X0 (host := "") (Or.inl (w295 hw)) Via.refl q0 d37_1 rfl ?_
 intro T1 X1
 refine o_iloadN K X1 d37_4 rfl rfl ?_
 refine o_aaload K X1 rfl q1 (by decide) (v := (.ref s1)) rfl d37_5 rfl ?_
 refine o_areturn K X1 (t := (.object z3)) d37_6 rfl rfl rfl ?_ (by decide) (by decide)
 exact ⟨rfl, rfl⟩
def r_getN_2 : Room := { frames := 0, cells := 0, slots := 0, locals := 0 }
def Q_getN_2 (Z : State) (a y : Addr) (ky : ClassId) (s0 s1 s2 : Addr) (h0 : Heap) (v : Option Value) (h : Heap) : Prop := v = some (.ref s2) ∧ h0 = h
theorem rm_getN_2 (l : Launch) (Z : State) (a0 : Array Value) (hw : oHw Z a0) (a y : Addr) (ky : ClassId) (s0 s1 s2 : Addr) (h0 : Heap) (q0 : Fld Z h0 a z9 "elements" z5 (.ref y)) (q1 : oArr Z h0 y ky (.object z3) [.ref s0, .ref s1, .ref s2]) : oMet l Z (⟨z9, "get", z17⟩ : MethodName) jdk_45_method_4_code 2 (some (.object z3)) r_getN_2 [] #[.ref a, .int 2] h0 (Q_getN_2 Z a y ky s0 s1 s2 h0) := by
 refine oEnter (plainFor_of_name (by first | (simp [plainName, overriddenIn]; done) | decide +kernel)) (own := z9) (nm := "get") rfl rfl (L := #[.val (.ref a), .val (.int 2)]) (fun m => by first | (simp [entryFrame, mkF, argsToLocals, Value.category]; done) | rfl) ?_
 intro pp ee ss mm bb mtd cc T0 K X0
 have E0 := X0.ext0
 refine o_aloadN K X0 d37_0 rfl rfl rfl ?_
 refine o_getfield K X0 (host := "") (Or.inl (w295 hw)) Via.refl q0 d37_1 rfl ?_
 intro T1 X1
 refine o_iloadN K X1 d37_4 rfl rfl ?_
 refine o_aaload K X1 rfl q1 (by decide) (v := (.ref s2)) rfl d37_5 rfl ?_
 refine o_areturn K X1 (t := (.object z3)) d37_6 rfl rfl rfl ?_ (by decide) (by decide)
 exact ⟨rfl, rfl⟩
theorem d38_0 : decode prog_68_method_1_code 0 = .ok (.aload_n 0, 1) := by decide +kernel
theorem d38_1 : decode prog_68_method_1_code 1 = .ok (.invokespecial 1, 3) := by decide +kernel
theorem d38_4 : decode prog_68_method_1_code 4 = .ok (.aload_n 0, 1) := by decide +kernel
theorem d38_5 : decode prog_68_method_1_code 5 = .ok (.aload_n 1, 1) := by decide +kernel
theorem d38_6 : decode prog_68_method_1_code 6 = .ok (.putfield 7, 3) := by decide +kernel
theorem d38_9 : decode prog_68_method_1_code 9 = .ok (.aload_n 0, 1) := by decide +kernel
theorem d38_10 : decode prog_68_method_1_code 10 = .ok (.iload_n 2, 1) := by decide +kernel
theorem d38_11 : decode prog_68_method_1_code 11 = .ok (.putfield 13, 3) := by decide +kernel
theorem d38_14 : decode prog_68_method_1_code 14 = .ok (.aload_n 0, 1) := by decide +kernel
theorem d38_15 : decode prog_68_method_1_code 15 = .ok (.iload_n 3, 1) := by decide +kernel
theorem d38_16 : decode prog_68_method_1_code 16 = .ok (.putfield 17, 3) := by decide +kernel
theorem d38_19 : decode prog_68_method_1_code 19 = .ok (.return_, 1) := by decide +kernel
def r_dcol0 : Room := { frames := 2, cells := 0, slots := 0, locals := 24 }
def Q_dcol0 (Z : State) (a f : Addr) (i : Int32) (h0 : Heap) (v : Option Value) (h : Heap) : Prop := v = none ∧ Keep h0 h [a] ∧ Exa Z h a z4 ∧ Fld Z h a z4 "file" "Ljava/lang/String;" (.ref f) ∧ Fld Z h a z4 "index" "I" (.int i) ∧ Fld Z h a z4 "inJoined" "Z" (.int 0)
theorem rm_dcol0 (l : Launch) (Z : State) (a0 : Array Value) (hw : oHw Z a0) (a f : Addr) (i : Int32) (h0 : Heap) (q0 : Exa Z h0 a z4) (q1 : Z.heap.size ≤ a) (q2 : Fld Z h0 a z4 "file" "Ljava/lang/String;" .null) (q3 : Fld Z h0 a z4 "index" "I" (.int 0)) (q4 : Fld Z h0 a z4 "inJoined" "Z" (.int 0)) : oMet l Z (⟨z4, "<init>", "(Ljava/lang/String;IZ)V"⟩ : MethodName) prog_68_method_1_code 4 none r_dcol0 [] #[.ref a, .ref f, .int i, .int 0] h0 (Q_dcol0 Z a f i h0) := by
 refine oEnter (plainFor_of_name (by first | (simp [plainName, overriddenIn]; done) | decide +kernel)) (own := z4) (nm := "<init>") rfl rfl (L := #[.val (.ref a), .val (.ref f), .val (.int i), .val (.int 0)]) (fun m => by first | (simp [entryFrame, mkF, argsToLocals, Value.category]; done) | rfl) ?_
 intro pp ee ss mm bb mtd cc T0 K X0
 have E0 := X0.ext0
 refine o_aloadN K X0 d38_0 rfl rfl rfl ?_
 refine o_special K X0 (y := (⟨"java/lang/Record", "<init>", "()V"⟩ : MethodName)) rfl (w216 hw) (w101 hw) (w103 hw) (w104 hw) (by decide) (rm_rec l Z a0 hw a h0) (by decide) rfl (argsL := []) rfl (lenOf pd7 rfl) (W := 0) rfl (by decide) (by decide) (by decide) d38_1 rfl ?_
 intro v1 T1 h1 X1 U1
 obtain ⟨rfl, rfl⟩ := U1
 show oGoes pp ee bb ss Z T1 (mkF mm 4 _ []) _ _ _
 refine o_aloadN K X1 d38_4 rfl rfl rfl ?_
 refine o_aloadN K X1 d38_5 rfl rfl rfl ?_
 refine o_putfield K X1 (host := "") (Or.inl (w217 hw)) Via.refl q2 q0 (Or.inr ⟨(w218 hw), rfl, rfl⟩) (w197 hw) (ty := (.object z0)) (by decide) rfl rfl q1 d38_6 rfl ?_
 intro T2 h2 X2 W2
 have F2 := Fld.same W2 q2
 refine o_aloadN K X2 d38_9 rfl rfl rfl ?_
 refine o_iloadN K X2 d38_10 rfl rfl ?_
 have m4 := (Fld.other W2 q3 (Or.inr (slot_ne (Or.inr (w220 hw)) (Or.inr (w218 hw)) (by decide) (t := .int) (t' := (.object z0)) (by decide) (by decide))))
 have m5 := (Exa.wr W2 q0)
 refine o_putfield K X2 (host := "") (Or.inl (w219 hw)) Via.refl m4 m5 (Or.inr ⟨(w220 hw), rfl, rfl⟩) (w197 hw) (ty := .int) (by decide) rfl rfl q1 d38_11 rfl ?_
 intro T3 h3 X3 W3
 have F3 := Fld.same W3 m4
 refine o_aloadN K X3 d38_14 rfl rfl rfl ?_
 refine o_iloadN K X3 d38_15 rfl rfl ?_
 have m7 := (Fld.other W3 (Fld.other W2 q4 (Or.inr (slot_ne (Or.inr (w222 hw)) (Or.inr (w218 hw)) (by decide) (t := .boolean) (t' := (.object z0)) (by decide) (by decide)))) (Or.inr (slot_ne (Or.inr (w222 hw)) (Or.inr (w220 hw)) (by decide) (t := .boolean) (t' := .int) (by decide) (by decide))))
 have m8 := (Exa.wr W3 m5)
 refine o_putfieldN K X3 (w221 hw) Via.refl m7 m8 (Or.inr ⟨(w222 hw), rfl, rfl⟩) (w197 hw) (ty := .boolean) (by decide) (v' := (.int 0)) (congrArg Value.int (by decide)) (oFitboolean (x := (0 : Int32)) (by decide)) q1 d38_16 rfl ?_
 intro T6 h6 X6 W6
 have F6 := Fld.same W6 m7
 refine o_return K X6 d38_19 rfl ?_ (by decide) (by decide)
 have m9 := (Exa.wr W6 m8)
 have m10 := (Fld.other W6 (Fld.other W3 F2 (Or.inr (slot_ne (Or.inr (w218 hw)) (Or.inr (w220 hw)) (by decide) (t := (.object z0)) (t' := .int) (by decide) (by decide)))) (Or.inr (slot_ne (Or.inr (w218 hw)) (Or.inr (w222 hw)) (by decide) (t := (.object z0)) (t' := .boolean) (by decide) (by decide))))
 have m11 := (Fld.other W6 F3 (Or.inr (slot_ne (Or.inr (w220 hw)) (Or.inr (w222 hw)) (by decide) (t := .int) (t' := .boolean) (by decide) (by decide))))
 exact ⟨rfl, ((((Keep.refl h0 [a]).wr W2 (Or.inl me0)).wr W3 (Or.inl me0)).wr W6 (Or.inl me0)), m9, m10, m11, F6⟩
def r_dcol1 : Room := { frames := 2, cells := 0, slots := 0, locals := 24 }
def Q_dcol1 (Z : State) (a f : Addr) (i : Int32) (h0 : Heap) (v : Option Value) (h : Heap) : Prop := v = none ∧ Keep h0 h [a] ∧ Exa Z h a z4 ∧ Fld Z h a z4 "file" "Ljava/lang/String;" (.ref f) ∧ Fld Z h a z4 "index" "I" (.int i) ∧ Fld Z h a z4 "inJoined" "Z" (.int 1)
theorem rm_dcol1 (l : Launch) (Z : State) (a0 : Array Value) (hw : oHw Z a0) (a f : Addr) (i : Int32) (h0 : Heap) (q0 : Exa Z h0 a z4) (q1 : Z.heap.size ≤ a) (q2 : Fld Z h0 a z4 "file" "Ljava/lang/String;" .null) (q3 : Fld Z h0 a z4 "index" "I" (.int 0)) (q4 : Fld Z h0 a z4 "inJoined" "Z" (.int 0)) : oMet l Z (⟨z4, "<init>", "(Ljava/lang/String;IZ)V"⟩ : MethodName) prog_68_method_1_code 4 none r_dcol1 [] #[.ref a, .ref f, .int i, .int 1] h0 (Q_dcol1 Z a f i h0) := by
 refine oEnter (plainFor_of_name (by first | (simp [plainName, overriddenIn]; done) | decide +kernel)) (own := z4) (nm := "<init>") rfl rfl (L := #[.val (.ref a), .val (.ref f), .val (.int i), .val (.int 1)]) (fun m => by first | (simp [entryFrame, mkF, argsToLocals, Value.category]; done) | rfl) ?_
 intro pp ee ss mm bb mtd cc T0 K X0
 have E0 := X0.ext0
 refine o_aloadN K X0 d38_0 rfl rfl rfl ?_
 refine o_special K X0 (y := (⟨"java/lang/Record", "<init>", "()V"⟩ : MethodName)) rfl (w216 hw) (w101 hw) (w103 hw) (w104 hw) (by decide) (rm_rec l Z a0 hw a h0) (by decide) rfl (argsL := []) rfl (lenOf pd7 rfl) (W := 0) rfl (by decide) (by decide) (by decide) d38_1 rfl ?_
 intro v1 T1 h1 X1 U1
 obtain ⟨rfl, rfl⟩ := U1
 show oGoes pp ee bb ss Z T1 (mkF mm 4 _ []) _ _ _
 refine o_aloadN K X1 d38_4 rfl rfl rfl ?_
 refine o_aloadN K X1 d38_5 rfl rfl rfl ?_
 refine o_putfield K X1 (host := "") (Or.inl (w217 hw)) Via.refl q2 q0 (Or.inr ⟨(w218 hw), rfl, rfl⟩) (w197 hw) (ty := (.object z0)) (by decide) rfl rfl q1 d38_6 rfl ?_
 intro T2 h2 X2 W2
 have F2 := Fld.same W2 q2
 refine o_aloadN K X2 d38_9 rfl rfl rfl ?_
 refine o_iloadN K X2 d38_10 rfl rfl ?_
 have m4 := (Fld.other W2 q3 (Or.inr (slot_ne (Or.inr (w220 hw)) (Or.inr (w218 hw)) (by decide) (t := .int) (t' := (.object z0)) (by decide) (by decide))))
 have m5 := (Exa.wr W2 q0)
 refine o_putfield K X2 (host := "") (Or.inl (w219 hw)) Via.refl m4 m5 (Or.inr ⟨(w220 hw), rfl, rfl⟩) (w197 hw) (ty := .int) (by decide) rfl rfl q1 d38_11 rfl ?_
 intro T3 h3 X3 W3
 have F3 := Fld.same W3 m4
 refine o_aloadN K X3 d38_14 rfl rfl rfl ?_
 refine o_iloadN K X3 d38_15 rfl rfl ?_
 have m7 := (Fld.other W3 (Fld.other W2 q4 (Or.inr (slot_ne (Or.inr (w222 hw)) (Or.inr (w218 hw)) (by decide) (t := .boolean) (t' := (.object z0)) (by decide) (by decide)))) (Or.inr (slot_ne (Or.inr (w222 hw)) (Or.inr (w220 hw)) (by decide) (t := .boolean) (t' := .int) (by decide) (by decide))))
 have m8 := (Exa.wr W3 m5)
 refine o_putfieldN K X3 (w221 hw) Via.refl m7 m8 (Or.inr ⟨(w222 hw), rfl, rfl⟩) (w197 hw) (ty := .boolean) (by decide) (v' := (.int 1)) (congrArg Value.int (by decide)) (oFitboolean (x := (1 : Int32)) (by decide)) q1 d38_16 rfl ?_
 intro T6 h6 X6 W6
 have F6 := Fld.same W6 m7
 refine o_return K X6 d38_19 rfl ?_ (by decide) (by decide)
 have m9 := (Exa.wr W6 m8)
 have m10 := (Fld.other W6 (Fld.other W3 F2 (Or.inr (slot_ne (Or.inr (w218 hw)) (Or.inr (w220 hw)) (by decide) (t := (.object z0)) (t' := .int) (by decide) (by decide)))) (Or.inr (slot_ne (Or.inr (w218 hw)) (Or.inr (w222 hw)) (by decide) (t := (.object z0)) (t' := .boolean) (by decide) (by decide))))
 have m11 := (Fld.other W6 F3 (Or.inr (slot_ne (Or.inr (w220 hw)) (Or.inr (w222 hw)) (by decide) (t := .int) (t' := .boolean) (by decide) (by decide))))
 exact ⟨rfl, ((((Keep.refl h0 [a]).wr W2 (Or.inl me0)).wr W3 (Or.inl me0)).wr W6 (Or.inl me0)), m9, m10, m11, F6⟩
theorem d39_0 : decode prog_70_method_1_code 0 = .ok (.aload_n 0, 1) := by decide +kernel
theorem d39_1 : decode prog_70_method_1_code 1 = .ok (.invokespecial 1, 3) := by decide +kernel
theorem d39_4 : decode prog_70_method_1_code 4 = .ok (.aload_n 0, 1) := by decide +kernel
theorem d39_5 : decode prog_70_method_1_code 5 = .ok (.aload_n 1, 1) := by decide +kernel
theorem d39_6 : decode prog_70_method_1_code 6 = .ok (.putfield 7, 3) := by decide +kernel
theorem d39_9 : decode prog_70_method_1_code 9 = .ok (.aload_n 0, 1) := by decide +kernel
theorem d39_10 : decode prog_70_method_1_code 10 = .ok (.aload_n 2, 1) := by decide +kernel
theorem d39_11 : decode prog_70_method_1_code 11 = .ok (.putfield 13, 3) := by decide +kernel
theorem d39_14 : decode prog_70_method_1_code 14 = .ok (.return_, 1) := by decide +kernel
def r_drow : Room := { frames := 2, cells := 0, slots := 0, locals := 24 }
def Q_drow (Z : State) (a x : Addr) (y : Value) (h0 : Heap) (v : Option Value) (h : Heap) : Prop := v = none ∧ Keep h0 h [a] ∧ Exa Z h a z6 ∧ Fld Z h a z6 "row" z16 (.ref x) ∧ Fld Z h a z6 "match" z16 y
theorem rm_drow (l : Launch) (Z : State) (a0 : Array Value) (hw : oHw Z a0) (a x : Addr) (y : Value) (h0 : Heap) (q0 : y.isRef = true) (q1 : Exa Z h0 a z6) (q2 : Z.heap.size ≤ a) (q3 : Fld Z h0 a z6 "row" z16 .null) (q4 : Fld Z h0 a z6 "match" z16 .null) : oMet l Z (⟨z6, "<init>", z21⟩ : MethodName) prog_70_method_1_code 3 none r_drow [] #[.ref a, .ref x, y] h0 (Q_drow Z a x y h0) := by
 refine oEnter (plainFor_of_name (by first | (simp [plainName, overriddenIn]; done) | decide +kernel)) (own := z6) (nm := "<init>") rfl rfl (L := #[.val (.ref a), .val (.ref x), .val y]) (fun m => by first | (simp [entryFrame, mkF, argsToLocals, oCat1, oCat2, oCat3, oCat4, oCatRef q0]; done) | rfl) ?_
 intro pp ee ss mm bb mtd cc T0 K X0
 have E0 := X0.ext0
 refine o_aloadN K X0 d39_0 rfl rfl rfl ?_
 refine o_special K X0 (y := (⟨"java/lang/Record", "<init>", "()V"⟩ : MethodName)) rfl (w229 hw) (w101 hw) (w103 hw) (w104 hw) (by decide) (rm_rec l Z a0 hw a h0) (by decide) rfl (argsL := []) rfl (lenOf pd7 rfl) (W := 0) rfl (by decide) (by decide) (by decide) d39_1 rfl ?_
 intro v1 T1 h1 X1 U1
 obtain ⟨rfl, rfl⟩ := U1
 show oGoes pp ee bb ss Z T1 (mkF mm 4 _ []) _ _ _
 refine o_aloadN K X1 d39_4 rfl rfl rfl ?_
 refine o_aloadN K X1 d39_5 rfl rfl rfl ?_
 refine o_putfield K X1 (host := "") (Or.inl (w230 hw)) Via.refl q3 q1 (Or.inr ⟨(w231 hw), rfl, rfl⟩) (w224 hw) (ty := (.object z2)) (by decide) rfl rfl q2 d39_6 rfl ?_
 intro T2 h2 X2 W2
 have F2 := Fld.same W2 q3
 refine o_aloadN K X2 d39_9 rfl rfl rfl ?_
 refine o_aloadN K X2 d39_10 rfl rfl q0 ?_
 have m4 := (Fld.other W2 q4 (Or.inr (slot_ne (Or.inr (w233 hw)) (Or.inr (w231 hw)) (by decide) (t := (.object z2)) (t' := (.object z2)) (by decide) (by decide))))
 have m5 := (Exa.wr W2 q1)
 refine o_putfield K X2 (host := "") (Or.inl (w232 hw)) Via.refl m4 m5 (Or.inr ⟨(w233 hw), rfl, rfl⟩) (w224 hw) (ty := (.object z2)) (by decide) (oNarRef rfl q0) (oFitRef rfl q0) q2 d39_11 rfl ?_
 intro T3 h3 X3 W3
 have F3 := Fld.same W3 m4
 refine o_return K X3 d39_14 rfl ?_ (by decide) (by decide)
 have m6 := (Exa.wr W3 m5)
 have m7 := (Fld.other W3 F2 (Or.inr (slot_ne (Or.inr (w231 hw)) (Or.inr (w233 hw)) (by decide) (t := (.object z2)) (t' := (.object z2)) (by decide) (by decide))))
 exact ⟨rfl, (((Keep.refl h0 [a]).wr W2 (Or.inl me0)).wr W3 (Or.inl me0)), m6, m7, F3⟩
theorem d40_0 : decode prog_68_method_7_code 0 = .ok (.aload_n 0, 1) := by decide +kernel
theorem d40_1 : decode prog_68_method_7_code 1 = .ok (.getfield 17, 3) := by decide +kernel
theorem d40_4 : decode prog_68_method_7_code 4 = .ok (.ireturn, 1) := by decide +kernel
def r_injo0 : Room := { frames := 0, cells := 0, slots := 0, locals := 0 }
def Q_injo0 (Z : State) (a : Addr) (h0 : Heap) (v : Option Value) (h : Heap) : Prop := v = some (.int 0) ∧ h0 = h
theorem rm_injo0 (l : Launch) (Z : State) (a0 : Array Value) (hw : oHw Z a0) (a : Addr) (h0 : Heap) (q0 : Fld Z h0 a z4 "inJoined" "Z" (.int 0)) : oMet l Z (⟨z4, "inJoined", "()Z"⟩ : MethodName) prog_68_method_7_code 1 (some .boolean) r_injo0 [] #[.ref a] h0 (Q_injo0 Z a h0) := by
 refine oEnter (plainFor_of_name (by first | (simp [plainName, overriddenIn]; done) | decide +kernel)) (own := z4) (nm := "inJoined") rfl rfl (L := #[.val (.ref a)]) (fun m => by first | (simp [entryFrame, mkF, argsToLocals, Value.category]; done) | rfl) ?_
 intro pp ee ss mm bb mtd cc T0 K X0
 have E0 := X0.ext0
 refine o_aloadN K X0 d40_0 rfl rfl rfl ?_
 refine o_getfield K X0 (host := "") (Or.inl (w221 hw)) Via.refl q0 d40_1 rfl ?_
 intro T1 X1
 refine o_ireturnN K X1 .boolean d40_4 rfl (by simp) (z' := 0) (by decide) ?_ (by decide) (by decide)
 exact ⟨rfl, rfl⟩
def r_injo1 : Room := { frames := 0, cells := 0, slots := 0, locals := 0 }
def Q_injo1 (Z : State) (a : Addr) (h0 : Heap) (v : Option Value) (h : Heap) : Prop := v = some (.int 1) ∧ h0 = h
theorem rm_injo1 (l : Launch) (Z : State) (a0 : Array Value) (hw : oHw Z a0) (a : Addr) (h0 : Heap) (q0 : Fld Z h0 a z4 "inJoined" "Z" (.int 1)) : oMet l Z (⟨z4, "inJoined", "()Z"⟩ : MethodName) prog_68_method_7_code 1 (some .boolean) r_injo1 [] #[.ref a] h0 (Q_injo1 Z a h0) := by
 refine oEnter (plainFor_of_name (by first | (simp [plainName, overriddenIn]; done) | decide +kernel)) (own := z4) (nm := "inJoined") rfl rfl (L := #[.val (.ref a)]) (fun m => by first | (simp [entryFrame, mkF, argsToLocals, Value.category]; done) | rfl) ?_
 intro pp ee ss mm bb mtd cc T0 K X0
 have E0 := X0.ext0
 refine o_aloadN K X0 d40_0 rfl rfl rfl ?_
 refine o_getfield K X0 (host := "") (Or.inl (w221 hw)) Via.refl q0 d40_1 rfl ?_
 intro T1 X1
 refine o_ireturnN K X1 .boolean d40_4 rfl (by simp) (z' := 1) (by decide) ?_ (by decide) (by decide)
 exact ⟨rfl, rfl⟩
theorem d41_0 : decode prog_68_method_6_code 0 = .ok (.aload_n 0, 1) := by decide +kernel
theorem d41_1 : decode prog_68_method_6_code 1 = .ok (.getfield 13, 3) := by decide +kernel
theorem d41_4 : decode prog_68_method_6_code 4 = .ok (.ireturn, 1) := by decide +kernel
def r_cidx0 : Room := { frames := 0, cells := 0, slots := 0, locals := 0 }
def Q_cidx0 (Z : State) (a : Addr) (h0 : Heap) (v : Option Value) (h : Heap) : Prop := v = some (.int 0) ∧ h0 = h
theorem rm_cidx0 (l : Launch) (Z : State) (a0 : Array Value) (hw : oHw Z a0) (a : Addr) (h0 : Heap) (q0 : Fld Z h0 a z4 "index" "I" (.int 0)) : oMet l Z (⟨z4, "index", "()I"⟩ : MethodName) prog_68_method_6_code 1 (some .int) r_cidx0 [] #[.ref a] h0 (Q_cidx0 Z a h0) := by
 refine oEnter (plainFor_of_name (by first | (simp [plainName, overriddenIn]; done) | decide +kernel)) (own := z4) (nm := "index") rfl rfl (L := #[.val (.ref a)]) (fun m => by first | (simp [entryFrame, mkF, argsToLocals, Value.category]; done) | rfl) ?_
 intro pp ee ss mm bb mtd cc T0 K X0
 have E0 := X0.ext0
 refine o_aloadN K X0 d41_0 rfl rfl rfl ?_
 refine o_getfield K X0 (host := "") (Or.inl (w219 hw)) Via.refl q0 d41_1 rfl ?_
 intro T1 X1
 refine o_ireturn K X1 d41_4 rfl ?_ (by decide) (by decide)
 exact ⟨rfl, rfl⟩
def r_cidx1 : Room := { frames := 0, cells := 0, slots := 0, locals := 0 }
def Q_cidx1 (Z : State) (a : Addr) (h0 : Heap) (v : Option Value) (h : Heap) : Prop := v = some (.int 1) ∧ h0 = h
theorem rm_cidx1 (l : Launch) (Z : State) (a0 : Array Value) (hw : oHw Z a0) (a : Addr) (h0 : Heap) (q0 : Fld Z h0 a z4 "index" "I" (.int 1)) : oMet l Z (⟨z4, "index", "()I"⟩ : MethodName) prog_68_method_6_code 1 (some .int) r_cidx1 [] #[.ref a] h0 (Q_cidx1 Z a h0) := by
 refine oEnter (plainFor_of_name (by first | (simp [plainName, overriddenIn]; done) | decide +kernel)) (own := z4) (nm := "index") rfl rfl (L := #[.val (.ref a)]) (fun m => by first | (simp [entryFrame, mkF, argsToLocals, Value.category]; done) | rfl) ?_
 intro pp ee ss mm bb mtd cc T0 K X0
 have E0 := X0.ext0
 refine o_aloadN K X0 d41_0 rfl rfl rfl ?_
 refine o_getfield K X0 (host := "") (Or.inl (w219 hw)) Via.refl q0 d41_1 rfl ?_
 intro T1 X1
 refine o_ireturn K X1 d41_4 rfl ?_ (by decide) (by decide)
 exact ⟨rfl, rfl⟩
def r_cidx2 : Room := { frames := 0, cells := 0, slots := 0, locals := 0 }
def Q_cidx2 (Z : State) (a : Addr) (h0 : Heap) (v : Option Value) (h : Heap) : Prop := v = some (.int 2) ∧ h0 = h
theorem rm_cidx2 (l : Launch) (Z : State) (a0 : Array Value) (hw : oHw Z a0) (a : Addr) (h0 : Heap) (q0 : Fld Z h0 a z4 "index" "I" (.int 2)) : oMet l Z (⟨z4, "index", "()I"⟩ : MethodName) prog_68_method_6_code 1 (some .int) r_cidx2 [] #[.ref a] h0 (Q_cidx2 Z a h0) := by
 refine oEnter (plainFor_of_name (by first | (simp [plainName, overriddenIn]; done) | decide +kernel)) (own := z4) (nm := "index") rfl rfl (L := #[.val (.ref a)]) (fun m => by first | (simp [entryFrame, mkF, argsToLocals, Value.category]; done) | rfl) ?_
 intro pp ee ss mm bb mtd cc T0 K X0
 have E0 := X0.ext0
 refine o_aloadN K X0 d41_0 rfl rfl rfl ?_
 refine o_getfield K X0 (host := "") (Or.inl (w219 hw)) Via.refl q0 d41_1 rfl ?_
 intro T1 X1
 refine o_ireturn K X1 d41_4 rfl ?_ (by decide) (by decide)
 exact ⟨rfl, rfl⟩
theorem d42_0 : decode prog_28_method_6_code 0 = .ok (.aload_n 0, 1) := by decide +kernel
theorem d42_1 : decode prog_28_method_6_code 1 = .ok (.getfield 19, 3) := by decide +kernel
theorem d42_4 : decode prog_28_method_6_code 4 = .ok (.areturn, 1) := by decide +kernel
def r_rfl : Room := { frames := 0, cells := 0, slots := 0, locals := 0 }
def Q_rfl (Z : State) (a q : Addr) (h0 : Heap) (v : Option Value) (h : Heap) : Prop := v = some (.ref q) ∧ h0 = h
theorem rm_rfl (l : Launch) (Z : State) (a0 : Array Value) (hw : oHw Z a0) (a q : Addr) (h0 : Heap) (q0 : Fld Z h0 a z2 "fields" z11 (.ref q)) : oMet l Z (⟨z2, "fields", "()Ljava/util/List;"⟩ : MethodName) prog_28_method_6_code 1 (some (.object z7)) r_rfl [] #[.ref a] h0 (Q_rfl Z a q h0) := by
 refine oEnter (plainFor_of_name (by first | (simp [plainName, overriddenIn]; done) | decide +kernel)) (own := z2) (nm := "fields") rfl rfl (L := #[.val (.ref a)]) (fun m => by first | (simp [entryFrame, mkF, argsToLocals, Value.category]; done) | rfl) ?_
 intro pp ee ss mm bb mtd cc T0 K X0
 have E0 := X0.ext0
 refine o_aloadN K X0 d42_0 rfl rfl rfl ?_
 refine o_getfield K X0 (host := "") (Or.inl (w194 hw)) Via.refl q0 d42_1 rfl ?_
 intro T1 X1
 refine o_areturn K X1 (t := (.object z7)) d42_4 rfl rfl rfl ?_ (by decide) (by decide)
 exact ⟨rfl, rfl⟩
theorem d43_0 : decode prog_70_method_3_code 0 = .ok (.aload_n 1, 1) := by decide +kernel
theorem d43_1 : decode prog_70_method_3_code 1 = .ok (.invokevirtual 40, 3) := by decide +kernel
theorem d43_4 : decode prog_70_method_3_code 4 = .ok (.ifCond .eq 10, 3) := by decide +kernel
theorem d43_14 : decode prog_70_method_3_code 14 = .ok (.aload_n 0, 1) := by decide +kernel
theorem d43_15 : decode prog_70_method_3_code 15 = .ok (.getfield 7, 3) := by decide +kernel
theorem d43_18 : decode prog_70_method_3_code 18 = .ok (.areturn, 1) := by decide +kernel
def r_src0 : Room := { frames := 1, cells := 0, slots := 0, locals := 12 }
def Q_src0 (Z : State) (a c w : Addr) (h0 : Heap) (v : Option Value) (h : Heap) : Prop := v = some (.ref w) ∧ h0 = h
theorem rm_src0 (l : Launch) (Z : State) (a0 : Array Value) (hw : oHw Z a0) (a c w : Addr) (h0 : Heap) (q0 : Exa Z h0 c z4) (q1 : Fld Z h0 c z4 "inJoined" "Z" (.int 0)) (q2 : Fld Z h0 a z6 "row" z16 (.ref w)) : oMet l Z (⟨z6, "source", z26⟩ : MethodName) prog_70_method_3_code 2 (some (.object z2)) r_src0 [] #[.ref a, .ref c] h0 (Q_src0 Z a c w h0) := by
 refine oEnter (plainFor_of_name (by first | (simp [plainName, overriddenIn]; done) | decide +kernel)) (own := z6) (nm := "source") rfl rfl (L := #[.val (.ref a), .val (.ref c)]) (fun m => by first | (simp [entryFrame, mkF, argsToLocals, Value.category]; done) | rfl) ?_
 intro pp ee ss mm bb mtd cc T0 K X0
 have E0 := X0.ext0
 refine o_aloadN K X0 d43_0 rfl rfl rfl ?_
 refine o_virtual K X0   (w244 hw) (w245 hw) (oNF (w247 hw)) (w247 hw) (w246 hw) (w198 hw) (w248 hw) (by decide) q0 (rm_injo0 l Z a0 hw c h0 q1) (by decide) rfl (argsL := []) rfl (lenOf pd20 rfl) (W := 0) rfl (by decide) (by decide) (by decide) d43_1 rfl ?_
 intro v1 T1 h1 X1 U1
 obtain ⟨rfl, rfl⟩ := U1
 show oGoes pp ee bb ss Z T1 (mkF mm 4 _ [.int 0]) _ _ _
 refine o_if_eq_t K X1 d43_4 (by decide) (pc' := 14) (by decide) (by decide) ?_
 refine o_aloadN K X1 d43_14 rfl rfl rfl ?_
 refine o_getfield K X1 (host := "") (Or.inl (w230 hw)) Via.refl q2 d43_15 rfl ?_
 intro T2 X2
 refine o_areturn K X2 (t := (.object z2)) d43_18 rfl rfl rfl ?_ (by decide) (by decide)
 exact ⟨rfl, rfl⟩
theorem d43_7 : decode prog_70_method_3_code 7 = .ok (.aload_n 0, 1) := by decide +kernel
theorem d43_8 : decode prog_70_method_3_code 8 = .ok (.getfield 13, 3) := by decide +kernel
theorem d43_11 : decode prog_70_method_3_code 11 = .ok (.goto 7, 3) := by decide +kernel
def r_src1 : Room := { frames := 1, cells := 0, slots := 0, locals := 12 }
def Q_src1 (Z : State) (a c w : Addr) (h0 : Heap) (v : Option Value) (h : Heap) : Prop := v = some (.ref w) ∧ h0 = h
theorem rm_src1 (l : Launch) (Z : State) (a0 : Array Value) (hw : oHw Z a0) (a c w : Addr) (h0 : Heap) (q0 : Exa Z h0 c z4) (q1 : Fld Z h0 c z4 "inJoined" "Z" (.int 1)) (q2 : Fld Z h0 a z6 "match" z16 (.ref w)) : oMet l Z (⟨z6, "source", z26⟩ : MethodName) prog_70_method_3_code 2 (some (.object z2)) r_src1 [] #[.ref a, .ref c] h0 (Q_src1 Z a c w h0) := by
 refine oEnter (plainFor_of_name (by first | (simp [plainName, overriddenIn]; done) | decide +kernel)) (own := z6) (nm := "source") rfl rfl (L := #[.val (.ref a), .val (.ref c)]) (fun m => by first | (simp [entryFrame, mkF, argsToLocals, Value.category]; done) | rfl) ?_
 intro pp ee ss mm bb mtd cc T0 K X0
 have E0 := X0.ext0
 refine o_aloadN K X0 d43_0 rfl rfl rfl ?_
 refine o_virtual K X0   (w244 hw) (w245 hw) (oNF (w247 hw)) (w247 hw) (w246 hw) (w198 hw) (w248 hw) (by decide) q0 (rm_injo1 l Z a0 hw c h0 q1) (by decide) rfl (argsL := []) rfl (lenOf pd20 rfl) (W := 0) rfl (by decide) (by decide) (by decide) d43_1 rfl ?_
 intro v1 T1 h1 X1 U1
 obtain ⟨rfl, rfl⟩ := U1
 show oGoes pp ee bb ss Z T1 (mkF mm 4 _ [.int 1]) _ _ _
 refine o_if_eq_f K X1 d43_4 rfl (by decide) ?_
 refine o_aloadN K X1 d43_7 rfl rfl rfl ?_
 refine o_getfield K X1 (host := "") (Or.inl (w232 hw)) Via.refl q2 d43_8 rfl ?_
 intro T2 X2
 refine o_goto K X2 d43_11 (by decide) (pc' := 18) (by decide) ?_
 refine o_areturn K X2 (t := (.object z2)) d43_18 rfl rfl rfl ?_ (by decide) (by decide)
 exact ⟨rfl, rfl⟩
theorem d44_0 : decode prog_70_method_2_code 0 = .ok (.aload_n 0, 1) := by decide +kernel
theorem d44_1 : decode prog_70_method_2_code 1 = .ok (.aload_n 1, 1) := by decide +kernel
theorem d44_2 : decode prog_70_method_2_code 2 = .ok (.invokevirtual 16, 3) := by decide +kernel
theorem d44_5 : decode prog_70_method_2_code 5 = .ok (.invokevirtual 20, 3) := by decide +kernel
theorem d44_8 : decode prog_70_method_2_code 8 = .ok (.aload_n 1, 1) := by decide +kernel
theorem d44_9 : decode prog_70_method_2_code 9 = .ok (.invokevirtual 26, 3) := by decide +kernel
theorem d44_12 : decode prog_70_method_2_code 12 = .ok (.invokeinterface 32 2, 5) := by decide +kernel
theorem d44_17 : decode prog_70_method_2_code 17 = .ok (.checkcast 38, 3) := by decide +kernel
theorem d44_20 : decode prog_70_method_2_code 20 = .ok (.areturn, 1) := by decide +kernel
theorem pd24 : parseMethodDescriptor z26 = some ⟨[(.object z4)], some (.object z2)⟩ := by decide +kernel
theorem pd25 : parseMethodDescriptor "()Ljava/util/List;" = some ⟨[], some (.object z7)⟩ := by decide +kernel
theorem pd26 : parseMethodDescriptor "()I" = some ⟨[], some .int⟩ := by decide +kernel
theorem pd27 : parseMethodDescriptor z17 = some ⟨[.int], some (.object z3)⟩ := by decide +kernel
def r_val0_1_0 : Room := { frames := 2, cells := 0, slots := 0, locals := 25 }
def Q_val0_1_0 (Z : State) (a c w q s0 em : Addr) (h0 : Heap) (v : Option Value) (h : Heap) : Prop := v = some (.ref s0) ∧ h0 = h
theorem rm_val0_1_0 (l : Launch) (Z : State) (a0 : Array Value) (hw : oHw Z a0) (a c w q s0 em : Addr) (h0 : Heap) (q0 : Exa Z h0 a z6) (q1 : Exa Z h0 c z4) (q2 : Fld Z h0 c z4 "inJoined" "Z" (.int 0)) (q3 : Fld Z h0 c z4 "index" "I" (.int 0)) (q4 : Fld Z h0 a z6 "row" z16 (.ref w)) (q5 : Exa Z h0 w z2) (q6 : Fld Z h0 w z2 "fields" z11 (.ref q)) (q7 : Exa Z h0 q z8) (q8 : Fld Z h0 q z8 "e0" z10 (.ref s0)) (q9 : Fld Z h0 q z8 "e1" z10 (.ref em)) (q10 : Exa Z h0 s0 z0) (q11 : Sta Z Z.heap z18 "EMPTY" z10 (.ref em)) (q12 : Exa Z Z.heap em z3) : oMet l Z (⟨z6, "value", z20⟩ : MethodName) prog_70_method_2_code 2 (some (.object z0)) r_val0_1_0 [] #[.ref a, .ref c] h0 (Q_val0_1_0 Z a c w q s0 em h0) := by
 refine oEnter (plainFor_of_name (by first | (simp [plainName, overriddenIn]; done) | decide +kernel)) (own := z6) (nm := "value") rfl rfl (L := #[.val (.ref a), .val (.ref c)]) (fun m => by first | (simp [entryFrame, mkF, argsToLocals, Value.category]; done) | rfl) ?_
 intro pp ee ss mm bb mtd cc T0 K X0
 have E0 := X0.ext0
 refine o_aloadN K X0 d44_0 rfl rfl rfl ?_
 refine o_aloadN K X0 d44_1 rfl rfl rfl ?_
 refine o_virtual K X0   (w239 hw) (w240 hw) (oNF (w242 hw)) (w242 hw) (w241 hw) (w225 hw) (w243 hw) (by decide) q0 (rm_src0 l Z a0 hw a c w h0 q1 q2 q4) (by decide) rfl (argsL := [.ref c]) rfl (lenOf pd24 rfl) (W := 0) rfl (by decide) (by decide) (by decide) d44_2 rfl ?_
 intro v1 T1 h1 X1 U1
 obtain ⟨rfl, rfl⟩ := U1
 show oGoes pp ee bb ss Z T1 (mkF mm 5 _ [.ref w]) _ _ _
 refine o_virtual K X1   (w249 hw) (w250 hw) (oNF (w252 hw)) (w252 hw) (w251 hw) (w3 hw) (w253 hw) (by decide) q5 (rm_rfl l Z a0 hw w q h0 q6) (by decide) rfl (argsL := []) rfl (lenOf pd25 rfl) (W := 0) rfl (by decide) (by decide) (by decide) d44_5 rfl ?_
 intro v2 T2 h2 X2 U2
 obtain ⟨rfl, rfl⟩ := U2
 show oGoes pp ee bb ss Z T2 (mkF mm 8 _ [.ref q]) _ _ _
 refine o_aloadN K X2 d44_8 rfl rfl rfl ?_
 refine o_virtual K X2   (w254 hw) (w255 hw) (oNF (w257 hw)) (w257 hw) (w256 hw) (w198 hw) (w258 hw) (by decide) q1 (rm_cidx0 l Z a0 hw c h0 q3) (by decide) rfl (argsL := []) rfl (lenOf pd26 rfl) (W := 1) rfl (by decide) (by decide) (by decide) d44_9 rfl ?_
 intro v3 T3 h3 X3 U3
 obtain ⟨rfl, rfl⟩ := U3
 show oGoes pp ee bb ss Z T3 (mkF mm 12 _ [.int 0, .ref q]) _ _ _
 refine o_interface K X3 (y := (⟨z7, "get", z17⟩ : MethodName)) (z := (⟨z8, "get", z17⟩ : MethodName)) (w259 hw) (w260 hw) (w261 hw) rfl (w262 hw) (w263 hw) (w264 hw) (w265 hw) (w266 hw) (w164 hw) (w267 hw) (by decide) q7 (rm_get12_0 l Z a0 hw q s0 h0 q8) (by decide) rfl (argsL := [.int 0]) rfl (lenOf pd27 rfl) (W := 0) rfl (by decide) (by decide) (by decide) d44_12 rfl ?_
 intro v4 T4 h4 X4 U4
 obtain ⟨rfl, rfl⟩ := U4
 show oGoes pp ee bb ss Z T4 (mkF mm 17 _ [.ref s0]) _ _ _
 refine o_checkcast K X4 (w268 hw) (Ins.self q10) d44_17 rfl ?_
 intro T5 X5
 refine o_areturn K X5 (t := (.object z0)) d44_20 rfl rfl rfl ?_ (by decide) (by decide)
 exact ⟨rfl, rfl⟩
def r_val0_2_0 : Room := { frames := 2, cells := 0, slots := 0, locals := 25 }
def Q_val0_2_0 (Z : State) (a c w q s0 s1 em : Addr) (h0 : Heap) (v : Option Value) (h : Heap) : Prop := v = some (.ref s0) ∧ h0 = h
theorem rm_val0_2_0 (l : Launch) (Z : State) (a0 : Array Value) (hw : oHw Z a0) (a c w q s0 s1 em : Addr) (h0 : Heap) (q0 : Exa Z h0 a z6) (q1 : Exa Z h0 c z4) (q2 : Fld Z h0 c z4 "inJoined" "Z" (.int 0)) (q3 : Fld Z h0 c z4 "index" "I" (.int 0)) (q4 : Fld Z h0 a z6 "row" z16 (.ref w)) (q5 : Exa Z h0 w z2) (q6 : Fld Z h0 w z2 "fields" z11 (.ref q)) (q7 : Exa Z h0 q z8) (q8 : Fld Z h0 q z8 "e0" z10 (.ref s0)) (q9 : Fld Z h0 q z8 "e1" z10 (.ref s1)) (q10 : Exa Z h0 s0 z0) (q11 : Z.heap.size ≤ s1) (q12 : Sta Z Z.heap z18 "EMPTY" z10 (.ref em)) (q13 : Exa Z Z.heap em z3) : oMet l Z (⟨z6, "value", z20⟩ : MethodName) prog_70_method_2_code 2 (some (.object z0)) r_val0_2_0 [] #[.ref a, .ref c] h0 (Q_val0_2_0 Z a c w q s0 s1 em h0) := by
 refine oEnter (plainFor_of_name (by first | (simp [plainName, overriddenIn]; done) | decide +kernel)) (own := z6) (nm := "value") rfl rfl (L := #[.val (.ref a), .val (.ref c)]) (fun m => by first | (simp [entryFrame, mkF, argsToLocals, Value.category]; done) | rfl) ?_
 intro pp ee ss mm bb mtd cc T0 K X0
 have E0 := X0.ext0
 refine o_aloadN K X0 d44_0 rfl rfl rfl ?_
 refine o_aloadN K X0 d44_1 rfl rfl rfl ?_
 refine o_virtual K X0   (w239 hw) (w240 hw) (oNF (w242 hw)) (w242 hw) (w241 hw) (w225 hw) (w243 hw) (by decide) q0 (rm_src0 l Z a0 hw a c w h0 q1 q2 q4) (by decide) rfl (argsL := [.ref c]) rfl (lenOf pd24 rfl) (W := 0) rfl (by decide) (by decide) (by decide) d44_2 rfl ?_
 intro v1 T1 h1 X1 U1
 obtain ⟨rfl, rfl⟩ := U1
 show oGoes pp ee bb ss Z T1 (mkF mm 5 _ [.ref w]) _ _ _
 refine o_virtual K X1   (w249 hw) (w250 hw) (oNF (w252 hw)) (w252 hw) (w251 hw) (w3 hw) (w253 hw) (by decide) q5 (rm_rfl l Z a0 hw w q h0 q6) (by decide) rfl (argsL := []) rfl (lenOf pd25 rfl) (W := 0) rfl (by decide) (by decide) (by decide) d44_5 rfl ?_
 intro v2 T2 h2 X2 U2
 obtain ⟨rfl, rfl⟩ := U2
 show oGoes pp ee bb ss Z T2 (mkF mm 8 _ [.ref q]) _ _ _
 refine o_aloadN K X2 d44_8 rfl rfl rfl ?_
 refine o_virtual K X2   (w254 hw) (w255 hw) (oNF (w257 hw)) (w257 hw) (w256 hw) (w198 hw) (w258 hw) (by decide) q1 (rm_cidx0 l Z a0 hw c h0 q3) (by decide) rfl (argsL := []) rfl (lenOf pd26 rfl) (W := 1) rfl (by decide) (by decide) (by decide) d44_9 rfl ?_
 intro v3 T3 h3 X3 U3
 obtain ⟨rfl, rfl⟩ := U3
 show oGoes pp ee bb ss Z T3 (mkF mm 12 _ [.int 0, .ref q]) _ _ _
 refine o_interface K X3 (y := (⟨z7, "get", z17⟩ : MethodName)) (z := (⟨z8, "get", z17⟩ : MethodName)) (w259 hw) (w260 hw) (w261 hw) rfl (w262 hw) (w263 hw) (w264 hw) (w265 hw) (w266 hw) (w164 hw) (w267 hw) (by decide) q7 (rm_get12_0 l Z a0 hw q s0 h0 q8) (by decide) rfl (argsL := [.int 0]) rfl (lenOf pd27 rfl) (W := 0) rfl (by decide) (by decide) (by decide) d44_12 rfl ?_
 intro v4 T4 h4 X4 U4
 obtain ⟨rfl, rfl⟩ := U4
 show oGoes pp ee bb ss Z T4 (mkF mm 17 _ [.ref s0]) _ _ _
 refine o_checkcast K X4 (w268 hw) (Ins.self q10) d44_17 rfl ?_
 intro T5 X5
 refine o_areturn K X5 (t := (.object z0)) d44_20 rfl rfl rfl ?_ (by decide) (by decide)
 exact ⟨rfl, rfl⟩
def r_val0_2_1 : Room := { frames := 2, cells := 0, slots := 0, locals := 25 }
def Q_val0_2_1 (Z : State) (a c w q s0 s1 em : Addr) (h0 : Heap) (v : Option Value) (h : Heap) : Prop := v = some (.ref s1) ∧ h0 = h
theorem rm_val0_2_1 (l : Launch) (Z : State) (a0 : Array Value) (hw : oHw Z a0) (a c w q s0 s1 em : Addr) (h0 : Heap) (q0 : Exa Z h0 a z6) (q1 : Exa Z h0 c z4) (q2 : Fld Z h0 c z4 "inJoined" "Z" (.int 0)) (q3 : Fld Z h0 c z4 "index" "I" (.int 1)) (q4 : Fld Z h0 a z6 "row" z16 (.ref w)) (q5 : Exa Z h0 w z2) (q6 : Fld Z h0 w z2 "fields" z11 (.ref q)) (q7 : Exa Z h0 q z8) (q8 : Fld Z h0 q z8 "e0" z10 (.ref s0)) (q9 : Fld Z h0 q z8 "e1" z10 (.ref s1)) (q10 : Exa Z h0 s1 z0) (q11 : Z.heap.size ≤ s1) (q12 : Sta Z Z.heap z18 "EMPTY" z10 (.ref em)) (q13 : Exa Z Z.heap em z3) : oMet l Z (⟨z6, "value", z20⟩ : MethodName) prog_70_method_2_code 2 (some (.object z0)) r_val0_2_1 [] #[.ref a, .ref c] h0 (Q_val0_2_1 Z a c w q s0 s1 em h0) := by
 refine oEnter (plainFor_of_name (by first | (simp [plainName, overriddenIn]; done) | decide +kernel)) (own := z6) (nm := "value") rfl rfl (L := #[.val (.ref a), .val (.ref c)]) (fun m => by first | (simp [entryFrame, mkF, argsToLocals, Value.category]; done) | rfl) ?_
 intro pp ee ss mm bb mtd cc T0 K X0
 have E0 := X0.ext0
 refine o_aloadN K X0 d44_0 rfl rfl rfl ?_
 refine o_aloadN K X0 d44_1 rfl rfl rfl ?_
 refine o_virtual K X0   (w239 hw) (w240 hw) (oNF (w242 hw)) (w242 hw) (w241 hw) (w225 hw) (w243 hw) (by decide) q0 (rm_src0 l Z a0 hw a c w h0 q1 q2 q4) (by decide) rfl (argsL := [.ref c]) rfl (lenOf pd24 rfl) (W := 0) rfl (by decide) (by decide) (by decide) d44_2 rfl ?_
 intro v1 T1 h1 X1 U1
 obtain ⟨rfl, rfl⟩ := U1
 show oGoes pp ee bb ss Z T1 (mkF mm 5 _ [.ref w]) _ _ _
 refine o_virtual K X1   (w249 hw) (w250 hw) (oNF (w252 hw)) (w252 hw) (w251 hw) (w3 hw) (w253 hw) (by decide) q5 (rm_rfl l Z a0 hw w q h0 q6) (by decide) rfl (argsL := []) rfl (lenOf pd25 rfl) (W := 0) rfl (by decide) (by decide) (by decide) d44_5 rfl ?_
 intro v2 T2 h2 X2 U2
 obtain ⟨rfl, rfl⟩ := U2
 show oGoes pp ee bb ss Z T2 (mkF mm 8 _ [.ref q]) _ _ _
 refine o_aloadN K X2 d44_8 rfl rfl rfl ?_
 refine o_virtual K X2   (w254 hw) (w255 hw) (oNF (w257 hw)) (w257 hw) (w256 hw) (w198 hw) (w258 hw) (by decide) q1 (rm_cidx1 l Z a0 hw c h0 q3) (by decide) rfl (argsL := []) rfl (lenOf pd26 rfl) (W := 1) rfl (by decide) (by decide) (by decide) d44_9 rfl ?_
 intro v3 T3 h3 X3 U3
 obtain ⟨rfl, rfl⟩ := U3
 show oGoes pp ee bb ss Z T3 (mkF mm 12 _ [.int 1, .ref q]) _ _ _
 refine o_interface K X3 (y := (⟨z7, "get", z17⟩ : MethodName)) (z := (⟨z8, "get", z17⟩ : MethodName)) (w259 hw) (w260 hw) (w261 hw) rfl (w262 hw) (w263 hw) (w264 hw) (w265 hw) (w266 hw) (w164 hw) (w267 hw) (by decide) q7 (rm_get12_1 l Z a0 hw q s1 em h0 q9 q11 q12 q13) (by decide) rfl (argsL := [.int 1]) rfl (lenOf pd27 rfl) (W := 0) rfl (by decide) (by decide) (by decide) d44_12 rfl ?_
 intro v4 T4 h4 X4 U4
 obtain ⟨rfl, rfl⟩ := U4
 show oGoes pp ee bb ss Z T4 (mkF mm 17 _ [.ref s1]) _ _ _
 refine o_checkcast K X4 (w268 hw) (Ins.self q10) d44_17 rfl ?_
 intro T5 X5
 refine o_areturn K X5 (t := (.object z0)) d44_20 rfl rfl rfl ?_ (by decide) (by decide)
 exact ⟨rfl, rfl⟩
def r_val0_3_0 : Room := { frames := 2, cells := 0, slots := 0, locals := 25 }
def Q_val0_3_0 (Z : State) (a c w q y : Addr) (ky : ClassId) (s0 s1 s2 : Addr) (h0 : Heap) (v : Option Value) (h : Heap) : Prop := v = some (.ref s0) ∧ h0 = h
theorem rm_val0_3_0 (l : Launch) (Z : State) (a0 : Array Value) (hw : oHw Z a0) (a c w q y : Addr) (ky : ClassId) (s0 s1 s2 : Addr) (h0 : Heap) (q0 : Exa Z h0 a z6) (q1 : Exa Z h0 c z4) (q2 : Fld Z h0 c z4 "inJoined" "Z" (.int 0)) (q3 : Fld Z h0 c z4 "index" "I" (.int 0)) (q4 : Fld Z h0 a z6 "row" z16 (.ref w)) (q5 : Exa Z h0 w z2) (q6 : Fld Z h0 w z2 "fields" z11 (.ref q)) (q7 : Exa Z h0 q z9) (q8 : Fld Z h0 q z9 "elements" z5 (.ref y)) (q9 : oArr Z h0 y ky (.object z3) [.ref s0, .ref s1, .ref s2]) (q10 : Exa Z h0 s0 z0) : oMet l Z (⟨z6, "value", z20⟩ : MethodName) prog_70_method_2_code 2 (some (.object z0)) r_val0_3_0 [] #[.ref a, .ref c] h0 (Q_val0_3_0 Z a c w q y ky s0 s1 s2 h0) := by
 refine oEnter (plainFor_of_name (by first | (simp [plainName, overriddenIn]; done) | decide +kernel)) (own := z6) (nm := "value") rfl rfl (L := #[.val (.ref a), .val (.ref c)]) (fun m => by first | (simp [entryFrame, mkF, argsToLocals, Value.category]; done) | rfl) ?_
 intro pp ee ss mm bb mtd cc T0 K X0
 have E0 := X0.ext0
 refine o_aloadN K X0 d44_0 rfl rfl rfl ?_
 refine o_aloadN K X0 d44_1 rfl rfl rfl ?_
 refine o_virtual K X0   (w239 hw) (w240 hw) (oNF (w242 hw)) (w242 hw) (w241 hw) (w225 hw) (w243 hw) (by decide) q0 (rm_src0 l Z a0 hw a c w h0 q1 q2 q4) (by decide) rfl (argsL := [.ref c]) rfl (lenOf pd24 rfl) (W := 0) rfl (by decide) (by decide) (by decide) d44_2 rfl ?_
 intro v1 T1 h1 X1 U1
 obtain ⟨rfl, rfl⟩ := U1
 show oGoes pp ee bb ss Z T1 (mkF mm 5 _ [.ref w]) _ _ _
 refine o_virtual K X1   (w249 hw) (w250 hw) (oNF (w252 hw)) (w252 hw) (w251 hw) (w3 hw) (w253 hw) (by decide) q5 (rm_rfl l Z a0 hw w q h0 q6) (by decide) rfl (argsL := []) rfl (lenOf pd25 rfl) (W := 0) rfl (by decide) (by decide) (by decide) d44_5 rfl ?_
 intro v2 T2 h2 X2 U2
 obtain ⟨rfl, rfl⟩ := U2
 show oGoes pp ee bb ss Z T2 (mkF mm 8 _ [.ref q]) _ _ _
 refine o_aloadN K X2 d44_8 rfl rfl rfl ?_
 refine o_virtual K X2   (w254 hw) (w255 hw) (oNF (w257 hw)) (w257 hw) (w256 hw) (w198 hw) (w258 hw) (by decide) q1 (rm_cidx0 l Z a0 hw c h0 q3) (by decide) rfl (argsL := []) rfl (lenOf pd26 rfl) (W := 1) rfl (by decide) (by decide) (by decide) d44_9 rfl ?_
 intro v3 T3 h3 X3 U3
 obtain ⟨rfl, rfl⟩ := U3
 show oGoes pp ee bb ss Z T3 (mkF mm 12 _ [.int 0, .ref q]) _ _ _
 refine o_interface K X3 (y := (⟨z7, "get", z17⟩ : MethodName)) (z := (⟨z9, "get", z17⟩ : MethodName)) (w259 hw) (w260 hw) (w261 hw) rfl (w299 hw) (w300 hw) (w301 hw) (w302 hw) (w303 hw) (w286 hw) (w304 hw) (by decide) q7 (rm_getN_0 l Z a0 hw q y ky s0 s1 s2 h0 q8 q9) (by decide) rfl (argsL := [.int 0]) rfl (lenOf pd27 rfl) (W := 0) rfl (by decide) (by decide) (by decide) d44_12 rfl ?_
 intro v4 T4 h4 X4 U4
 obtain ⟨rfl, rfl⟩ := U4
 show oGoes pp ee bb ss Z T4 (mkF mm 17 _ [.ref s0]) _ _ _
 refine o_checkcast K X4 (w268 hw) (Ins.self q10) d44_17 rfl ?_
 intro T5 X5
 refine o_areturn K X5 (t := (.object z0)) d44_20 rfl rfl rfl ?_ (by decide) (by decide)
 exact ⟨rfl, rfl⟩
def r_val0_3_1 : Room := { frames := 2, cells := 0, slots := 0, locals := 25 }
def Q_val0_3_1 (Z : State) (a c w q y : Addr) (ky : ClassId) (s0 s1 s2 : Addr) (h0 : Heap) (v : Option Value) (h : Heap) : Prop := v = some (.ref s1) ∧ h0 = h
theorem rm_val0_3_1 (l : Launch) (Z : State) (a0 : Array Value) (hw : oHw Z a0) (a c w q y : Addr) (ky : ClassId) (s0 s1 s2 : Addr) (h0 : Heap) (q0 : Exa Z h0 a z6) (q1 : Exa Z h0 c z4) (q2 : Fld Z h0 c z4 "inJoined" "Z" (.int 0)) (q3 : Fld Z h0 c z4 "index" "I" (.int 1)) (q4 : Fld Z h0 a z6 "row" z16 (.ref w)) (q5 : Exa Z h0 w z2) (q6 : Fld Z h0 w z2 "fields" z11 (.ref q)) (q7 : Exa Z h0 q z9) (q8 : Fld Z h0 q z9 "elements" z5 (.ref y)) (q9 : oArr Z h0 y ky (.object z3) [.ref s0, .ref s1, .ref s2]) (q10 : Exa Z h0 s1 z0) : oMet l Z (⟨z6, "value", z20⟩ : MethodName) prog_70_method_2_code 2 (some (.object z0)) r_val0_3_1 [] #[.ref a, .ref c] h0 (Q_val0_3_1 Z a c w q y ky s0 s1 s2 h0) := by
 refine oEnter (plainFor_of_name (by first | (simp [plainName, overriddenIn]; done) | decide +kernel)) (own := z6) (nm := "value") rfl rfl (L := #[.val (.ref a), .val (.ref c)]) (fun m => by first | (simp [entryFrame, mkF, argsToLocals, Value.category]; done) | rfl) ?_
 intro pp ee ss mm bb mtd cc T0 K X0
 have E0 := X0.ext0
 refine o_aloadN K X0 d44_0 rfl rfl rfl ?_
 refine o_aloadN K X0 d44_1 rfl rfl rfl ?_
 refine o_virtual K X0   (w239 hw) (w240 hw) (oNF (w242 hw)) (w242 hw) (w241 hw) (w225 hw) (w243 hw) (by decide) q0 (rm_src0 l Z a0 hw a c w h0 q1 q2 q4) (by decide) rfl (argsL := [.ref c]) rfl (lenOf pd24 rfl) (W := 0) rfl (by decide) (by decide) (by decide) d44_2 rfl ?_
 intro v1 T1 h1 X1 U1
 obtain ⟨rfl, rfl⟩ := U1
 show oGoes pp ee bb ss Z T1 (mkF mm 5 _ [.ref w]) _ _ _
 refine o_virtual K X1   (w249 hw) (w250 hw) (oNF (w252 hw)) (w252 hw) (w251 hw) (w3 hw) (w253 hw) (by decide) q5 (rm_rfl l Z a0 hw w q h0 q6) (by decide) rfl (argsL := []) rfl (lenOf pd25 rfl) (W := 0) rfl (by decide) (by decide) (by decide) d44_5 rfl ?_
 intro v2 T2 h2 X2 U2
 obtain ⟨rfl, rfl⟩ := U2
 show oGoes pp ee bb ss Z T2 (mkF mm 8 _ [.ref q]) _ _ _
 refine o_aloadN K X2 d44_8 rfl rfl rfl ?_
 refine o_virtual K X2   (w254 hw) (w255 hw) (oNF (w257 hw)) (w257 hw) (w256 hw) (w198 hw) (w258 hw) (by decide) q1 (rm_cidx1 l Z a0 hw c h0 q3) (by decide) rfl (argsL := []) rfl (lenOf pd26 rfl) (W := 1) rfl (by decide) (by decide) (by decide) d44_9 rfl ?_
 intro v3 T3 h3 X3 U3
 obtain ⟨rfl, rfl⟩ := U3
 show oGoes pp ee bb ss Z T3 (mkF mm 12 _ [.int 1, .ref q]) _ _ _
 refine o_interface K X3 (y := (⟨z7, "get", z17⟩ : MethodName)) (z := (⟨z9, "get", z17⟩ : MethodName)) (w259 hw) (w260 hw) (w261 hw) rfl (w299 hw) (w300 hw) (w301 hw) (w302 hw) (w303 hw) (w286 hw) (w304 hw) (by decide) q7 (rm_getN_1 l Z a0 hw q y ky s0 s1 s2 h0 q8 q9) (by decide) rfl (argsL := [.int 1]) rfl (lenOf pd27 rfl) (W := 0) rfl (by decide) (by decide) (by decide) d44_12 rfl ?_
 intro v4 T4 h4 X4 U4
 obtain ⟨rfl, rfl⟩ := U4
 show oGoes pp ee bb ss Z T4 (mkF mm 17 _ [.ref s1]) _ _ _
 refine o_checkcast K X4 (w268 hw) (Ins.self q10) d44_17 rfl ?_
 intro T5 X5
 refine o_areturn K X5 (t := (.object z0)) d44_20 rfl rfl rfl ?_ (by decide) (by decide)
 exact ⟨rfl, rfl⟩
def r_val0_3_2 : Room := { frames := 2, cells := 0, slots := 0, locals := 25 }
def Q_val0_3_2 (Z : State) (a c w q y : Addr) (ky : ClassId) (s0 s1 s2 : Addr) (h0 : Heap) (v : Option Value) (h : Heap) : Prop := v = some (.ref s2) ∧ h0 = h
theorem rm_val0_3_2 (l : Launch) (Z : State) (a0 : Array Value) (hw : oHw Z a0) (a c w q y : Addr) (ky : ClassId) (s0 s1 s2 : Addr) (h0 : Heap) (q0 : Exa Z h0 a z6) (q1 : Exa Z h0 c z4) (q2 : Fld Z h0 c z4 "inJoined" "Z" (.int 0)) (q3 : Fld Z h0 c z4 "index" "I" (.int 2)) (q4 : Fld Z h0 a z6 "row" z16 (.ref w)) (q5 : Exa Z h0 w z2) (q6 : Fld Z h0 w z2 "fields" z11 (.ref q)) (q7 : Exa Z h0 q z9) (q8 : Fld Z h0 q z9 "elements" z5 (.ref y)) (q9 : oArr Z h0 y ky (.object z3) [.ref s0, .ref s1, .ref s2]) (q10 : Exa Z h0 s2 z0) : oMet l Z (⟨z6, "value", z20⟩ : MethodName) prog_70_method_2_code 2 (some (.object z0)) r_val0_3_2 [] #[.ref a, .ref c] h0 (Q_val0_3_2 Z a c w q y ky s0 s1 s2 h0) := by
 refine oEnter (plainFor_of_name (by first | (simp [plainName, overriddenIn]; done) | decide +kernel)) (own := z6) (nm := "value") rfl rfl (L := #[.val (.ref a), .val (.ref c)]) (fun m => by first | (simp [entryFrame, mkF, argsToLocals, Value.category]; done) | rfl) ?_
 intro pp ee ss mm bb mtd cc T0 K X0
 have E0 := X0.ext0
 refine o_aloadN K X0 d44_0 rfl rfl rfl ?_
 refine o_aloadN K X0 d44_1 rfl rfl rfl ?_
 refine o_virtual K X0   (w239 hw) (w240 hw) (oNF (w242 hw)) (w242 hw) (w241 hw) (w225 hw) (w243 hw) (by decide) q0 (rm_src0 l Z a0 hw a c w h0 q1 q2 q4) (by decide) rfl (argsL := [.ref c]) rfl (lenOf pd24 rfl) (W := 0) rfl (by decide) (by decide) (by decide) d44_2 rfl ?_
 intro v1 T1 h1 X1 U1
 obtain ⟨rfl, rfl⟩ := U1
 show oGoes pp ee bb ss Z T1 (mkF mm 5 _ [.ref w]) _ _ _
 refine o_virtual K X1   (w249 hw) (w250 hw) (oNF (w252 hw)) (w252 hw) (w251 hw) (w3 hw) (w253 hw) (by decide) q5 (rm_rfl l Z a0 hw w q h0 q6) (by decide) rfl (argsL := []) rfl (lenOf pd25 rfl) (W := 0) rfl (by decide) (by decide) (by decide) d44_5 rfl ?_
 intro v2 T2 h2 X2 U2
 obtain ⟨rfl, rfl⟩ := U2
 show oGoes pp ee bb ss Z T2 (mkF mm 8 _ [.ref q]) _ _ _
 refine o_aloadN K X2 d44_8 rfl rfl rfl ?_
 refine o_virtual K X2   (w254 hw) (w255 hw) (oNF (w257 hw)) (w257 hw) (w256 hw) (w198 hw) (w258 hw) (by decide) q1 (rm_cidx2 l Z a0 hw c h0 q3) (by decide) rfl (argsL := []) rfl (lenOf pd26 rfl) (W := 1) rfl (by decide) (by decide) (by decide) d44_9 rfl ?_
 intro v3 T3 h3 X3 U3
 obtain ⟨rfl, rfl⟩ := U3
 show oGoes pp ee bb ss Z T3 (mkF mm 12 _ [.int 2, .ref q]) _ _ _
 refine o_interface K X3 (y := (⟨z7, "get", z17⟩ : MethodName)) (z := (⟨z9, "get", z17⟩ : MethodName)) (w259 hw) (w260 hw) (w261 hw) rfl (w299 hw) (w300 hw) (w301 hw) (w302 hw) (w303 hw) (w286 hw) (w304 hw) (by decide) q7 (rm_getN_2 l Z a0 hw q y ky s0 s1 s2 h0 q8 q9) (by decide) rfl (argsL := [.int 2]) rfl (lenOf pd27 rfl) (W := 0) rfl (by decide) (by decide) (by decide) d44_12 rfl ?_
 intro v4 T4 h4 X4 U4
 obtain ⟨rfl, rfl⟩ := U4
 show oGoes pp ee bb ss Z T4 (mkF mm 17 _ [.ref s2]) _ _ _
 refine o_checkcast K X4 (w268 hw) (Ins.self q10) d44_17 rfl ?_
 intro T5 X5
 refine o_areturn K X5 (t := (.object z0)) d44_20 rfl rfl rfl ?_ (by decide) (by decide)
 exact ⟨rfl, rfl⟩
def r_val1_1_0 : Room := { frames := 2, cells := 0, slots := 0, locals := 25 }
def Q_val1_1_0 (Z : State) (a c w q s0 em : Addr) (h0 : Heap) (v : Option Value) (h : Heap) : Prop := v = some (.ref s0) ∧ h0 = h
theorem rm_val1_1_0 (l : Launch) (Z : State) (a0 : Array Value) (hw : oHw Z a0) (a c w q s0 em : Addr) (h0 : Heap) (q0 : Exa Z h0 a z6) (q1 : Exa Z h0 c z4) (q2 : Fld Z h0 c z4 "inJoined" "Z" (.int 1)) (q3 : Fld Z h0 c z4 "index" "I" (.int 0)) (q4 : Fld Z h0 a z6 "match" z16 (.ref w)) (q5 : Exa Z h0 w z2) (q6 : Fld Z h0 w z2 "fields" z11 (.ref q)) (q7 : Exa Z h0 q z8) (q8 : Fld Z h0 q z8 "e0" z10 (.ref s0)) (q9 : Fld Z h0 q z8 "e1" z10 (.ref em)) (q10 : Exa Z h0 s0 z0) (q11 : Sta Z Z.heap z18 "EMPTY" z10 (.ref em)) (q12 : Exa Z Z.heap em z3) : oMet l Z (⟨z6, "value", z20⟩ : MethodName) prog_70_method_2_code 2 (some (.object z0)) r_val1_1_0 [] #[.ref a, .ref c] h0 (Q_val1_1_0 Z a c w q s0 em h0) := by
 refine oEnter (plainFor_of_name (by first | (simp [plainName, overriddenIn]; done) | decide +kernel)) (own := z6) (nm := "value") rfl rfl (L := #[.val (.ref a), .val (.ref c)]) (fun m => by first | (simp [entryFrame, mkF, argsToLocals, Value.category]; done) | rfl) ?_
 intro pp ee ss mm bb mtd cc T0 K X0
 have E0 := X0.ext0
 refine o_aloadN K X0 d44_0 rfl rfl rfl ?_
 refine o_aloadN K X0 d44_1 rfl rfl rfl ?_
 refine o_virtual K X0   (w239 hw) (w240 hw) (oNF (w242 hw)) (w242 hw) (w241 hw) (w225 hw) (w243 hw) (by decide) q0 (rm_src1 l Z a0 hw a c w h0 q1 q2 q4) (by decide) rfl (argsL := [.ref c]) rfl (lenOf pd24 rfl) (W := 0) rfl (by decide) (by decide) (by decide) d44_2 rfl ?_
 intro v1 T1 h1 X1 U1
 obtain ⟨rfl, rfl⟩ := U1
 show oGoes pp ee bb ss Z T1 (mkF mm 5 _ [.ref w]) _ _ _
 refine o_virtual K X1   (w249 hw) (w250 hw) (oNF (w252 hw)) (w252 hw) (w251 hw) (w3 hw) (w253 hw) (by decide) q5 (rm_rfl l Z a0 hw w q h0 q6) (by decide) rfl (argsL := []) rfl (lenOf pd25 rfl) (W := 0) rfl (by decide) (by decide) (by decide) d44_5 rfl ?_
 intro v2 T2 h2 X2 U2
 obtain ⟨rfl, rfl⟩ := U2
 show oGoes pp ee bb ss Z T2 (mkF mm 8 _ [.ref q]) _ _ _
 refine o_aloadN K X2 d44_8 rfl rfl rfl ?_
 refine o_virtual K X2   (w254 hw) (w255 hw) (oNF (w257 hw)) (w257 hw) (w256 hw) (w198 hw) (w258 hw) (by decide) q1 (rm_cidx0 l Z a0 hw c h0 q3) (by decide) rfl (argsL := []) rfl (lenOf pd26 rfl) (W := 1) rfl (by decide) (by decide) (by decide) d44_9 rfl ?_
 intro v3 T3 h3 X3 U3
 obtain ⟨rfl, rfl⟩ := U3
 show oGoes pp ee bb ss Z T3 (mkF mm 12 _ [.int 0, .ref q]) _ _ _
 refine o_interface K X3 (y := (⟨z7, "get", z17⟩ : MethodName)) (z := (⟨z8, "get", z17⟩ : MethodName)) (w259 hw) (w260 hw) (w261 hw) rfl (w262 hw) (w263 hw) (w264 hw) (w265 hw) (w266 hw) (w164 hw) (w267 hw) (by decide) q7 (rm_get12_0 l Z a0 hw q s0 h0 q8) (by decide) rfl (argsL := [.int 0]) rfl (lenOf pd27 rfl) (W := 0) rfl (by decide) (by decide) (by decide) d44_12 rfl ?_
 intro v4 T4 h4 X4 U4
 obtain ⟨rfl, rfl⟩ := U4
 show oGoes pp ee bb ss Z T4 (mkF mm 17 _ [.ref s0]) _ _ _
 refine o_checkcast K X4 (w268 hw) (Ins.self q10) d44_17 rfl ?_
 intro T5 X5
 refine o_areturn K X5 (t := (.object z0)) d44_20 rfl rfl rfl ?_ (by decide) (by decide)
 exact ⟨rfl, rfl⟩
def r_val1_2_0 : Room := { frames := 2, cells := 0, slots := 0, locals := 25 }
def Q_val1_2_0 (Z : State) (a c w q s0 s1 em : Addr) (h0 : Heap) (v : Option Value) (h : Heap) : Prop := v = some (.ref s0) ∧ h0 = h
theorem rm_val1_2_0 (l : Launch) (Z : State) (a0 : Array Value) (hw : oHw Z a0) (a c w q s0 s1 em : Addr) (h0 : Heap) (q0 : Exa Z h0 a z6) (q1 : Exa Z h0 c z4) (q2 : Fld Z h0 c z4 "inJoined" "Z" (.int 1)) (q3 : Fld Z h0 c z4 "index" "I" (.int 0)) (q4 : Fld Z h0 a z6 "match" z16 (.ref w)) (q5 : Exa Z h0 w z2) (q6 : Fld Z h0 w z2 "fields" z11 (.ref q)) (q7 : Exa Z h0 q z8) (q8 : Fld Z h0 q z8 "e0" z10 (.ref s0)) (q9 : Fld Z h0 q z8 "e1" z10 (.ref s1)) (q10 : Exa Z h0 s0 z0) (q11 : Z.heap.size ≤ s1) (q12 : Sta Z Z.heap z18 "EMPTY" z10 (.ref em)) (q13 : Exa Z Z.heap em z3) : oMet l Z (⟨z6, "value", z20⟩ : MethodName) prog_70_method_2_code 2 (some (.object z0)) r_val1_2_0 [] #[.ref a, .ref c] h0 (Q_val1_2_0 Z a c w q s0 s1 em h0) := by
 refine oEnter (plainFor_of_name (by first | (simp [plainName, overriddenIn]; done) | decide +kernel)) (own := z6) (nm := "value") rfl rfl (L := #[.val (.ref a), .val (.ref c)]) (fun m => by first | (simp [entryFrame, mkF, argsToLocals, Value.category]; done) | rfl) ?_
 intro pp ee ss mm bb mtd cc T0 K X0
 have E0 := X0.ext0
 refine o_aloadN K X0 d44_0 rfl rfl rfl ?_
 refine o_aloadN K X0 d44_1 rfl rfl rfl ?_
 refine o_virtual K X0   (w239 hw) (w240 hw) (oNF (w242 hw)) (w242 hw) (w241 hw) (w225 hw) (w243 hw) (by decide) q0 (rm_src1 l Z a0 hw a c w h0 q1 q2 q4) (by decide) rfl (argsL := [.ref c]) rfl (lenOf pd24 rfl) (W := 0) rfl (by decide) (by decide) (by decide) d44_2 rfl ?_
 intro v1 T1 h1 X1 U1
 obtain ⟨rfl, rfl⟩ := U1
 show oGoes pp ee bb ss Z T1 (mkF mm 5 _ [.ref w]) _ _ _
 refine o_virtual K X1   (w249 hw) (w250 hw) (oNF (w252 hw)) (w252 hw) (w251 hw) (w3 hw) (w253 hw) (by decide) q5 (rm_rfl l Z a0 hw w q h0 q6) (by decide) rfl (argsL := []) rfl (lenOf pd25 rfl) (W := 0) rfl (by decide) (by decide) (by decide) d44_5 rfl ?_
 intro v2 T2 h2 X2 U2
 obtain ⟨rfl, rfl⟩ := U2
 show oGoes pp ee bb ss Z T2 (mkF mm 8 _ [.ref q]) _ _ _
 refine o_aloadN K X2 d44_8 rfl rfl rfl ?_
 refine o_virtual K X2   (w254 hw) (w255 hw) (oNF (w257 hw)) (w257 hw) (w256 hw) (w198 hw) (w258 hw) (by decide) q1 (rm_cidx0 l Z a0 hw c h0 q3) (by decide) rfl (argsL := []) rfl (lenOf pd26 rfl) (W := 1) rfl (by decide) (by decide) (by decide) d44_9 rfl ?_
 intro v3 T3 h3 X3 U3
 obtain ⟨rfl, rfl⟩ := U3
 show oGoes pp ee bb ss Z T3 (mkF mm 12 _ [.int 0, .ref q]) _ _ _
 refine o_interface K X3 (y := (⟨z7, "get", z17⟩ : MethodName)) (z := (⟨z8, "get", z17⟩ : MethodName)) (w259 hw) (w260 hw) (w261 hw) rfl (w262 hw) (w263 hw) (w264 hw) (w265 hw) (w266 hw) (w164 hw) (w267 hw) (by decide) q7 (rm_get12_0 l Z a0 hw q s0 h0 q8) (by decide) rfl (argsL := [.int 0]) rfl (lenOf pd27 rfl) (W := 0) rfl (by decide) (by decide) (by decide) d44_12 rfl ?_
 intro v4 T4 h4 X4 U4
 obtain ⟨rfl, rfl⟩ := U4
 show oGoes pp ee bb ss Z T4 (mkF mm 17 _ [.ref s0]) _ _ _
 refine o_checkcast K X4 (w268 hw) (Ins.self q10) d44_17 rfl ?_
 intro T5 X5
 refine o_areturn K X5 (t := (.object z0)) d44_20 rfl rfl rfl ?_ (by decide) (by decide)
 exact ⟨rfl, rfl⟩
def r_val1_2_1 : Room := { frames := 2, cells := 0, slots := 0, locals := 25 }
def Q_val1_2_1 (Z : State) (a c w q s0 s1 em : Addr) (h0 : Heap) (v : Option Value) (h : Heap) : Prop := v = some (.ref s1) ∧ h0 = h
theorem rm_val1_2_1 (l : Launch) (Z : State) (a0 : Array Value) (hw : oHw Z a0) (a c w q s0 s1 em : Addr) (h0 : Heap) (q0 : Exa Z h0 a z6) (q1 : Exa Z h0 c z4) (q2 : Fld Z h0 c z4 "inJoined" "Z" (.int 1)) (q3 : Fld Z h0 c z4 "index" "I" (.int 1)) (q4 : Fld Z h0 a z6 "match" z16 (.ref w)) (q5 : Exa Z h0 w z2) (q6 : Fld Z h0 w z2 "fields" z11 (.ref q)) (q7 : Exa Z h0 q z8) (q8 : Fld Z h0 q z8 "e0" z10 (.ref s0)) (q9 : Fld Z h0 q z8 "e1" z10 (.ref s1)) (q10 : Exa Z h0 s1 z0) (q11 : Z.heap.size ≤ s1) (q12 : Sta Z Z.heap z18 "EMPTY" z10 (.ref em)) (q13 : Exa Z Z.heap em z3) : oMet l Z (⟨z6, "value", z20⟩ : MethodName) prog_70_method_2_code 2 (some (.object z0)) r_val1_2_1 [] #[.ref a, .ref c] h0 (Q_val1_2_1 Z a c w q s0 s1 em h0) := by
 refine oEnter (plainFor_of_name (by first | (simp [plainName, overriddenIn]; done) | decide +kernel)) (own := z6) (nm := "value") rfl rfl (L := #[.val (.ref a), .val (.ref c)]) (fun m => by first | (simp [entryFrame, mkF, argsToLocals, Value.category]; done) | rfl) ?_
 intro pp ee ss mm bb mtd cc T0 K X0
 have E0 := X0.ext0
 refine o_aloadN K X0 d44_0 rfl rfl rfl ?_
 refine o_aloadN K X0 d44_1 rfl rfl rfl ?_
 refine o_virtual K X0   (w239 hw) (w240 hw) (oNF (w242 hw)) (w242 hw) (w241 hw) (w225 hw) (w243 hw) (by decide) q0 (rm_src1 l Z a0 hw a c w h0 q1 q2 q4) (by decide) rfl (argsL := [.ref c]) rfl (lenOf pd24 rfl) (W := 0) rfl (by decide) (by decide) (by decide) d44_2 rfl ?_
 intro v1 T1 h1 X1 U1
 obtain ⟨rfl, rfl⟩ := U1
 show oGoes pp ee bb ss Z T1 (mkF mm 5 _ [.ref w]) _ _ _
 refine o_virtual K X1   (w249 hw) (w250 hw) (oNF (w252 hw)) (w252 hw) (w251 hw) (w3 hw) (w253 hw) (by decide) q5 (rm_rfl l Z a0 hw w q h0 q6) (by decide) rfl (argsL := []) rfl (lenOf pd25 rfl) (W := 0) rfl (by decide) (by decide) (by decide) d44_5 rfl ?_
 intro v2 T2 h2 X2 U2
 obtain ⟨rfl, rfl⟩ := U2
 show oGoes pp ee bb ss Z T2 (mkF mm 8 _ [.ref q]) _ _ _
 refine o_aloadN K X2 d44_8 rfl rfl rfl ?_
 refine o_virtual K X2   (w254 hw) (w255 hw) (oNF (w257 hw)) (w257 hw) (w256 hw) (w198 hw) (w258 hw) (by decide) q1 (rm_cidx1 l Z a0 hw c h0 q3) (by decide) rfl (argsL := []) rfl (lenOf pd26 rfl) (W := 1) rfl (by decide) (by decide) (by decide) d44_9 rfl ?_
 intro v3 T3 h3 X3 U3
 obtain ⟨rfl, rfl⟩ := U3
 show oGoes pp ee bb ss Z T3 (mkF mm 12 _ [.int 1, .ref q]) _ _ _
 refine o_interface K X3 (y := (⟨z7, "get", z17⟩ : MethodName)) (z := (⟨z8, "get", z17⟩ : MethodName)) (w259 hw) (w260 hw) (w261 hw) rfl (w262 hw) (w263 hw) (w264 hw) (w265 hw) (w266 hw) (w164 hw) (w267 hw) (by decide) q7 (rm_get12_1 l Z a0 hw q s1 em h0 q9 q11 q12 q13) (by decide) rfl (argsL := [.int 1]) rfl (lenOf pd27 rfl) (W := 0) rfl (by decide) (by decide) (by decide) d44_12 rfl ?_
 intro v4 T4 h4 X4 U4
 obtain ⟨rfl, rfl⟩ := U4
 show oGoes pp ee bb ss Z T4 (mkF mm 17 _ [.ref s1]) _ _ _
 refine o_checkcast K X4 (w268 hw) (Ins.self q10) d44_17 rfl ?_
 intro T5 X5
 refine o_areturn K X5 (t := (.object z0)) d44_20 rfl rfl rfl ?_ (by decide) (by decide)
 exact ⟨rfl, rfl⟩
def r_val1_3_0 : Room := { frames := 2, cells := 0, slots := 0, locals := 25 }
def Q_val1_3_0 (Z : State) (a c w q y : Addr) (ky : ClassId) (s0 s1 s2 : Addr) (h0 : Heap) (v : Option Value) (h : Heap) : Prop := v = some (.ref s0) ∧ h0 = h
theorem rm_val1_3_0 (l : Launch) (Z : State) (a0 : Array Value) (hw : oHw Z a0) (a c w q y : Addr) (ky : ClassId) (s0 s1 s2 : Addr) (h0 : Heap) (q0 : Exa Z h0 a z6) (q1 : Exa Z h0 c z4) (q2 : Fld Z h0 c z4 "inJoined" "Z" (.int 1)) (q3 : Fld Z h0 c z4 "index" "I" (.int 0)) (q4 : Fld Z h0 a z6 "match" z16 (.ref w)) (q5 : Exa Z h0 w z2) (q6 : Fld Z h0 w z2 "fields" z11 (.ref q)) (q7 : Exa Z h0 q z9) (q8 : Fld Z h0 q z9 "elements" z5 (.ref y)) (q9 : oArr Z h0 y ky (.object z3) [.ref s0, .ref s1, .ref s2]) (q10 : Exa Z h0 s0 z0) : oMet l Z (⟨z6, "value", z20⟩ : MethodName) prog_70_method_2_code 2 (some (.object z0)) r_val1_3_0 [] #[.ref a, .ref c] h0 (Q_val1_3_0 Z a c w q y ky s0 s1 s2 h0) := by
 refine oEnter (plainFor_of_name (by first | (simp [plainName, overriddenIn]; done) | decide +kernel)) (own := z6) (nm := "value") rfl rfl (L := #[.val (.ref a), .val (.ref c)]) (fun m => by first | (simp [entryFrame, mkF, argsToLocals, Value.category]; done) | rfl) ?_
 intro pp ee ss mm bb mtd cc T0 K X0
 have E0 := X0.ext0
 refine o_aloadN K X0 d44_0 rfl rfl rfl ?_
 refine o_aloadN K X0 d44_1 rfl rfl rfl ?_
 refine o_virtual K X0   (w239 hw) (w240 hw) (oNF (w242 hw)) (w242 hw) (w241 hw) (w225 hw) (w243 hw) (by decide) q0 (rm_src1 l Z a0 hw a c w h0 q1 q2 q4) (by decide) rfl (argsL := [.ref c]) rfl (lenOf pd24 rfl) (W := 0) rfl (by decide) (by decide) (by decide) d44_2 rfl ?_
 intro v1 T1 h1 X1 U1
 obtain ⟨rfl, rfl⟩ := U1
 show oGoes pp ee bb ss Z T1 (mkF mm 5 _ [.ref w]) _ _ _
 refine o_virtual K X1   (w249 hw) (w250 hw) (oNF (w252 hw)) (w252 hw) (w251 hw) (w3 hw) (w253 hw) (by decide) q5 (rm_rfl l Z a0 hw w q h0 q6) (by decide) rfl (argsL := []) rfl (lenOf pd25 rfl) (W := 0) rfl (by decide) (by decide) (by decide) d44_5 rfl ?_
 intro v2 T2 h2 X2 U2
 obtain ⟨rfl, rfl⟩ := U2
 show oGoes pp ee bb ss Z T2 (mkF mm 8 _ [.ref q]) _ _ _
 refine o_aloadN K X2 d44_8 rfl rfl rfl ?_
 refine o_virtual K X2   (w254 hw) (w255 hw) (oNF (w257 hw)) (w257 hw) (w256 hw) (w198 hw) (w258 hw) (by decide) q1 (rm_cidx0 l Z a0 hw c h0 q3) (by decide) rfl (argsL := []) rfl (lenOf pd26 rfl) (W := 1) rfl (by decide) (by decide) (by decide) d44_9 rfl ?_
 intro v3 T3 h3 X3 U3
 obtain ⟨rfl, rfl⟩ := U3
 show oGoes pp ee bb ss Z T3 (mkF mm 12 _ [.int 0, .ref q]) _ _ _
 refine o_interface K X3 (y := (⟨z7, "get", z17⟩ : MethodName)) (z := (⟨z9, "get", z17⟩ : MethodName)) (w259 hw) (w260 hw) (w261 hw) rfl (w299 hw) (w300 hw) (w301 hw) (w302 hw) (w303 hw) (w286 hw) (w304 hw) (by decide) q7 (rm_getN_0 l Z a0 hw q y ky s0 s1 s2 h0 q8 q9) (by decide) rfl (argsL := [.int 0]) rfl (lenOf pd27 rfl) (W := 0) rfl (by decide) (by decide) (by decide) d44_12 rfl ?_
 intro v4 T4 h4 X4 U4
 obtain ⟨rfl, rfl⟩ := U4
 show oGoes pp ee bb ss Z T4 (mkF mm 17 _ [.ref s0]) _ _ _
 refine o_checkcast K X4 (w268 hw) (Ins.self q10) d44_17 rfl ?_
 intro T5 X5
 refine o_areturn K X5 (t := (.object z0)) d44_20 rfl rfl rfl ?_ (by decide) (by decide)
 exact ⟨rfl, rfl⟩
def r_val1_3_1 : Room := { frames := 2, cells := 0, slots := 0, locals := 25 }
def Q_val1_3_1 (Z : State) (a c w q y : Addr) (ky : ClassId) (s0 s1 s2 : Addr) (h0 : Heap) (v : Option Value) (h : Heap) : Prop := v = some (.ref s1) ∧ h0 = h
theorem rm_val1_3_1 (l : Launch) (Z : State) (a0 : Array Value) (hw : oHw Z a0) (a c w q y : Addr) (ky : ClassId) (s0 s1 s2 : Addr) (h0 : Heap) (q0 : Exa Z h0 a z6) (q1 : Exa Z h0 c z4) (q2 : Fld Z h0 c z4 "inJoined" "Z" (.int 1)) (q3 : Fld Z h0 c z4 "index" "I" (.int 1)) (q4 : Fld Z h0 a z6 "match" z16 (.ref w)) (q5 : Exa Z h0 w z2) (q6 : Fld Z h0 w z2 "fields" z11 (.ref q)) (q7 : Exa Z h0 q z9) (q8 : Fld Z h0 q z9 "elements" z5 (.ref y)) (q9 : oArr Z h0 y ky (.object z3) [.ref s0, .ref s1, .ref s2]) (q10 : Exa Z h0 s1 z0) : oMet l Z (⟨z6, "value", z20⟩ : MethodName) prog_70_method_2_code 2 (some (.object z0)) r_val1_3_1 [] #[.ref a, .ref c] h0 (Q_val1_3_1 Z a c w q y ky s0 s1 s2 h0) := by
 refine oEnter (plainFor_of_name (by first | (simp [plainName, overriddenIn]; done) | decide +kernel)) (own := z6) (nm := "value") rfl rfl (L := #[.val (.ref a), .val (.ref c)]) (fun m => by first | (simp [entryFrame, mkF, argsToLocals, Value.category]; done) | rfl) ?_
 intro pp ee ss mm bb mtd cc T0 K X0
 have E0 := X0.ext0
 refine o_aloadN K X0 d44_0 rfl rfl rfl ?_
 refine o_aloadN K X0 d44_1 rfl rfl rfl ?_
 refine o_virtual K X0   (w239 hw) (w240 hw) (oNF (w242 hw)) (w242 hw) (w241 hw) (w225 hw) (w243 hw) (by decide) q0 (rm_src1 l Z a0 hw a c w h0 q1 q2 q4) (by decide) rfl (argsL := [.ref c]) rfl (lenOf pd24 rfl) (W := 0) rfl (by decide) (by decide) (by decide) d44_2 rfl ?_
 intro v1 T1 h1 X1 U1
 obtain ⟨rfl, rfl⟩ := U1
 show oGoes pp ee bb ss Z T1 (mkF mm 5 _ [.ref w]) _ _ _
 refine o_virtual K X1   (w249 hw) (w250 hw) (oNF (w252 hw)) (w252 hw) (w251 hw) (w3 hw) (w253 hw) (by decide) q5 (rm_rfl l Z a0 hw w q h0 q6) (by decide) rfl (argsL := []) rfl (lenOf pd25 rfl) (W := 0) rfl (by decide) (by decide) (by decide) d44_5 rfl ?_
 intro v2 T2 h2 X2 U2
 obtain ⟨rfl, rfl⟩ := U2
 show oGoes pp ee bb ss Z T2 (mkF mm 8 _ [.ref q]) _ _ _
 refine o_aloadN K X2 d44_8 rfl rfl rfl ?_
 refine o_virtual K X2   (w254 hw) (w255 hw) (oNF (w257 hw)) (w257 hw) (w256 hw) (w198 hw) (w258 hw) (by decide) q1 (rm_cidx1 l Z a0 hw c h0 q3) (by decide) rfl (argsL := []) rfl (lenOf pd26 rfl) (W := 1) rfl (by decide) (by decide) (by decide) d44_9 rfl ?_
 intro v3 T3 h3 X3 U3
 obtain ⟨rfl, rfl⟩ := U3
 show oGoes pp ee bb ss Z T3 (mkF mm 12 _ [.int 1, .ref q]) _ _ _
 refine o_interface K X3 (y := (⟨z7, "get", z17⟩ : MethodName)) (z := (⟨z9, "get", z17⟩ : MethodName)) (w259 hw) (w260 hw) (w261 hw) rfl (w299 hw) (w300 hw) (w301 hw) (w302 hw) (w303 hw) (w286 hw) (w304 hw) (by decide) q7 (rm_getN_1 l Z a0 hw q y ky s0 s1 s2 h0 q8 q9) (by decide) rfl (argsL := [.int 1]) rfl (lenOf pd27 rfl) (W := 0) rfl (by decide) (by decide) (by decide) d44_12 rfl ?_
 intro v4 T4 h4 X4 U4
 obtain ⟨rfl, rfl⟩ := U4
 show oGoes pp ee bb ss Z T4 (mkF mm 17 _ [.ref s1]) _ _ _
 refine o_checkcast K X4 (w268 hw) (Ins.self q10) d44_17 rfl ?_
 intro T5 X5
 refine o_areturn K X5 (t := (.object z0)) d44_20 rfl rfl rfl ?_ (by decide) (by decide)
 exact ⟨rfl, rfl⟩
def r_val1_3_2 : Room := { frames := 2, cells := 0, slots := 0, locals := 25 }
def Q_val1_3_2 (Z : State) (a c w q y : Addr) (ky : ClassId) (s0 s1 s2 : Addr) (h0 : Heap) (v : Option Value) (h : Heap) : Prop := v = some (.ref s2) ∧ h0 = h
theorem rm_val1_3_2 (l : Launch) (Z : State) (a0 : Array Value) (hw : oHw Z a0) (a c w q y : Addr) (ky : ClassId) (s0 s1 s2 : Addr) (h0 : Heap) (q0 : Exa Z h0 a z6) (q1 : Exa Z h0 c z4) (q2 : Fld Z h0 c z4 "inJoined" "Z" (.int 1)) (q3 : Fld Z h0 c z4 "index" "I" (.int 2)) (q4 : Fld Z h0 a z6 "match" z16 (.ref w)) (q5 : Exa Z h0 w z2) (q6 : Fld Z h0 w z2 "fields" z11 (.ref q)) (q7 : Exa Z h0 q z9) (q8 : Fld Z h0 q z9 "elements" z5 (.ref y)) (q9 : oArr Z h0 y ky (.object z3) [.ref s0, .ref s1, .ref s2]) (q10 : Exa Z h0 s2 z0) : oMet l Z (⟨z6, "value", z20⟩ : MethodName) prog_70_method_2_code 2 (some (.object z0)) r_val1_3_2 [] #[.ref a, .ref c] h0 (Q_val1_3_2 Z a c w q y ky s0 s1 s2 h0) := by
 refine oEnter (plainFor_of_name (by first | (simp [plainName, overriddenIn]; done) | decide +kernel)) (own := z6) (nm := "value") rfl rfl (L := #[.val (.ref a), .val (.ref c)]) (fun m => by first | (simp [entryFrame, mkF, argsToLocals, Value.category]; done) | rfl) ?_
 intro pp ee ss mm bb mtd cc T0 K X0
 have E0 := X0.ext0
 refine o_aloadN K X0 d44_0 rfl rfl rfl ?_
 refine o_aloadN K X0 d44_1 rfl rfl rfl ?_
 refine o_virtual K X0   (w239 hw) (w240 hw) (oNF (w242 hw)) (w242 hw) (w241 hw) (w225 hw) (w243 hw) (by decide) q0 (rm_src1 l Z a0 hw a c w h0 q1 q2 q4) (by decide) rfl (argsL := [.ref c]) rfl (lenOf pd24 rfl) (W := 0) rfl (by decide) (by decide) (by decide) d44_2 rfl ?_
 intro v1 T1 h1 X1 U1
 obtain ⟨rfl, rfl⟩ := U1
 show oGoes pp ee bb ss Z T1 (mkF mm 5 _ [.ref w]) _ _ _
 refine o_virtual K X1   (w249 hw) (w250 hw) (oNF (w252 hw)) (w252 hw) (w251 hw) (w3 hw) (w253 hw) (by decide) q5 (rm_rfl l Z a0 hw w q h0 q6) (by decide) rfl (argsL := []) rfl (lenOf pd25 rfl) (W := 0) rfl (by decide) (by decide) (by decide) d44_5 rfl ?_
 intro v2 T2 h2 X2 U2
 obtain ⟨rfl, rfl⟩ := U2
 show oGoes pp ee bb ss Z T2 (mkF mm 8 _ [.ref q]) _ _ _
 refine o_aloadN K X2 d44_8 rfl rfl rfl ?_
 refine o_virtual K X2   (w254 hw) (w255 hw) (oNF (w257 hw)) (w257 hw) (w256 hw) (w198 hw) (w258 hw) (by decide) q1 (rm_cidx2 l Z a0 hw c h0 q3) (by decide) rfl (argsL := []) rfl (lenOf pd26 rfl) (W := 1) rfl (by decide) (by decide) (by decide) d44_9 rfl ?_
 intro v3 T3 h3 X3 U3
 obtain ⟨rfl, rfl⟩ := U3
 show oGoes pp ee bb ss Z T3 (mkF mm 12 _ [.int 2, .ref q]) _ _ _
 refine o_interface K X3 (y := (⟨z7, "get", z17⟩ : MethodName)) (z := (⟨z9, "get", z17⟩ : MethodName)) (w259 hw) (w260 hw) (w261 hw) rfl (w299 hw) (w300 hw) (w301 hw) (w302 hw) (w303 hw) (w286 hw) (w304 hw) (by decide) q7 (rm_getN_2 l Z a0 hw q y ky s0 s1 s2 h0 q8 q9) (by decide) rfl (argsL := [.int 2]) rfl (lenOf pd27 rfl) (W := 0) rfl (by decide) (by decide) (by decide) d44_12 rfl ?_
 intro v4 T4 h4 X4 U4
 obtain ⟨rfl, rfl⟩ := U4
 show oGoes pp ee bb ss Z T4 (mkF mm 17 _ [.ref s2]) _ _ _
 refine o_checkcast K X4 (w268 hw) (Ins.self q10) d44_17 rfl ?_
 intro T5 X5
 refine o_areturn K X5 (t := (.object z0)) d44_20 rfl rfl rfl ?_ (by decide) (by decide)
 exact ⟨rfl, rfl⟩
theorem d45_0 : decode jdk_43_method_13_code 0 = .ok (.aload_n 0, 1) := by decide +kernel
theorem d45_1 : decode jdk_43_method_13_code 1 = .ok (.arraylength, 1) := by decide +kernel
theorem d45_2 : decode jdk_43_method_13_code 2 = .ok (.aload_n 1, 1) := by decide +kernel
theorem d45_3 : decode jdk_43_method_13_code 3 = .ok (.arraylength, 1) := by decide +kernel
theorem d45_4 : decode jdk_43_method_13_code 4 = .ok (.if_icmp .ne 30, 3) := by decide +kernel
theorem d45_7 : decode jdk_43_method_13_code 7 = .ok (.iconst 0, 1) := by decide +kernel
theorem d45_8 : decode jdk_43_method_13_code 8 = .ok (.istore_n 2, 1) := by decide +kernel
theorem d45_9 : decode jdk_43_method_13_code 9 = .ok (.iload_n 2, 1) := by decide +kernel
theorem d45_10 : decode jdk_43_method_13_code 10 = .ok (.aload_n 0, 1) := by decide +kernel
theorem d45_11 : decode jdk_43_method_13_code 11 = .ok (.arraylength, 1) := by decide +kernel
theorem d45_12 : decode jdk_43_method_13_code 12 = .ok (.if_icmp .ge 20, 3) := by decide +kernel
theorem d45_15 : decode jdk_43_method_13_code 15 = .ok (.aload_n 0, 1) := by decide +kernel
theorem d45_16 : decode jdk_43_method_13_code 16 = .ok (.iload_n 2, 1) := by decide +kernel
theorem d45_17 : decode jdk_43_method_13_code 17 = .ok (.baload, 1) := by decide +kernel
theorem d45_18 : decode jdk_43_method_13_code 18 = .ok (.aload_n 1, 1) := by decide +kernel
theorem d45_19 : decode jdk_43_method_13_code 19 = .ok (.iload_n 2, 1) := by decide +kernel
theorem d45_20 : decode jdk_43_method_13_code 20 = .ok (.baload, 1) := by decide +kernel
theorem d45_21 : decode jdk_43_method_13_code 21 = .ok (.if_icmp .eq 5, 3) := by decide +kernel
theorem d45_26 : decode jdk_43_method_13_code 26 = .ok (.iinc 2 1, 3) := by decide +kernel
theorem d45_29 : decode jdk_43_method_13_code 29 = .ok (.goto (-20), 3) := by decide +kernel
theorem d45_32 : decode jdk_43_method_13_code 32 = .ok (.iconst 1, 1) := by decide +kernel
theorem d45_33 : decode jdk_43_method_13_code 33 = .ok (.ireturn, 1) := by decide +kernel
def r_lateq : Room := { frames := 0, cells := 0, slots := 0, locals := 0 }
def Q_lateq (Z : State) (a b : Addr) (ka kb : ClassId) (e0 e1 f0 f1 : Int32) (h0 : Heap) (v : Option Value) (h : Heap) : Prop := v = some (.int 1) ∧ h0 = h
theorem rm_lateq (l : Launch) (Z : State) (a0 : Array Value) (hw : oHw Z a0) (a b : Addr) (ka kb : ClassId) (e0 e1 f0 f1 : Int32) (h0 : Heap) (q0 : oArr Z h0 a ka .byte [.int e0, .int e1]) (q1 : oArr Z h0 b kb .byte [.int f0, .int f1]) (q2 : e0 = f0) (q3 : e1 = f1) : oMet l Z (⟨"java/lang/StringLatin1", "equals", "([B[B)Z"⟩ : MethodName) jdk_43_method_13_code 3 (some .boolean) r_lateq [] #[.ref a, .ref b] h0 (Q_lateq Z a b ka kb e0 e1 f0 f1 h0) := by
 refine oEnter (plainFor_of_name (by first | (simp [plainName, overriddenIn]; done) | decide +kernel)) (own := "java/lang/StringLatin1") (nm := "equals") rfl rfl (L := #[.val (.ref a), .val (.ref b), .unset]) (fun m => by first | (simp [entryFrame, mkF, argsToLocals, Value.category]; done) | rfl) ?_
 intro pp ee ss mm bb mtd cc T0 K X0
 have E0 := X0.ext0
 refine o_aloadN K X0 d45_0 rfl rfl rfl ?_
 refine o_arraylength K X0 q0 (z := 2) rfl d45_1 rfl ?_
 refine o_aloadN K X0 d45_2 rfl rfl rfl ?_
 refine o_arraylength K X0 q1 (z := 2) rfl d45_3 rfl ?_
 refine o_icmp_ne_f K X0 d45_4 rfl (by decide) ?_
 refine o_iconst K X0 d45_7 rfl (z := 0) rfl ?_
 refine o_istoreN K X0 d45_8 rfl (L' := #[vR a, vR b, vI 0]) rfl ?_
 refine o_iloadN K X0 d45_9 rfl rfl ?_
 refine o_aloadN K X0 d45_10 rfl rfl rfl ?_
 refine o_arraylength K X0 q0 (z := 2) rfl d45_11 rfl ?_
 refine o_icmp_ge_f K X0 d45_12 rfl (by decide) ?_
 refine o_aloadN K X0 d45_15 rfl rfl rfl ?_
 refine o_iloadN K X0 d45_16 rfl rfl ?_
 refine o_baload K X0 q0 (by decide) (v := (.int e0)) rfl d45_17 rfl ?_
 refine o_aloadN K X0 d45_18 rfl rfl rfl ?_
 refine o_iloadN K X0 d45_19 rfl rfl ?_
 refine o_baload K X0 q1 (by decide) (v := (.int f0)) rfl d45_20 rfl ?_
 refine o_icmp_eq_t K X0 d45_21 (by decide) (pc' := 26) (by decide) q2 ?_
 refine o_iinc K X0 d45_26 rfl rfl (L' := #[vR a, vR b, vI 1]) (by rw [show (0 : Int32) + Int32.ofInt 1 = (1 : Int32) from (by decide)]; rfl) ?_
 refine o_goto K X0 d45_29 (by decide) (pc' := 9) (by decide) ?_
 refine o_iloadN K X0 d45_9 rfl rfl ?_
 refine o_aloadN K X0 d45_10 rfl rfl rfl ?_
 refine o_arraylength K X0 q0 (z := 2) rfl d45_11 rfl ?_
 refine o_icmp_ge_f K X0 d45_12 rfl (by decide) ?_
 refine o_aloadN K X0 d45_15 rfl rfl rfl ?_
 refine o_iloadN K X0 d45_16 rfl rfl ?_
 refine o_baload K X0 q0 (by decide) (v := (.int e1)) rfl d45_17 rfl ?_
 refine o_aloadN K X0 d45_18 rfl rfl rfl ?_
 refine o_iloadN K X0 d45_19 rfl rfl ?_
 refine o_baload K X0 q1 (by decide) (v := (.int f1)) rfl d45_20 rfl ?_
 refine o_icmp_eq_t K X0 d45_21 (by decide) (pc' := 26) (by decide) q3 ?_
 refine o_iinc K X0 d45_26 rfl rfl (L' := #[vR a, vR b, vI 2]) (by rw [show (1 : Int32) + Int32.ofInt 1 = (2 : Int32) from (by decide)]; rfl) ?_
 refine o_goto K X0 d45_29 (by decide) (pc' := 9) (by decide) ?_
 refine o_iloadN K X0 d45_9 rfl rfl ?_
 refine o_aloadN K X0 d45_10 rfl rfl rfl ?_
 refine o_arraylength K X0 q0 (z := 2) rfl d45_11 rfl ?_
 refine o_icmp_ge_t K X0 d45_12 (by decide) (pc' := 32) (by decide) (by decide) ?_
 refine o_iconst K X0 d45_32 rfl (z := 1) rfl ?_
 refine o_ireturnN K X0 .boolean d45_33 rfl (by simp) (z' := 1) (by decide) ?_ (by decide) (by decide)
 exact ⟨rfl, rfl⟩
theorem d46_0 : decode jdk_42_method_66_code 0 = .ok (.aload_n 0, 1) := by decide +kernel
theorem d46_1 : decode jdk_42_method_66_code 1 = .ok (.aload_n 1, 1) := by decide +kernel
theorem d46_2 : decode jdk_42_method_66_code 2 = .ok (.if_acmp .ne 5, 3) := by decide +kernel
theorem d46_7 : decode jdk_42_method_66_code 7 = .ok (.aload_n 1, 1) := by decide +kernel
theorem d46_8 : decode jdk_42_method_66_code 8 = .ok (.instanceof 10, 3) := by decide +kernel
theorem d46_11 : decode jdk_42_method_66_code 11 = .ok (.ifCond .eq 43, 3) := by decide +kernel
theorem d46_14 : decode jdk_42_method_66_code 14 = .ok (.aload_n 1, 1) := by decide +kernel
theorem d46_15 : decode jdk_42_method_66_code 15 = .ok (.checkcast 10, 3) := by decide +kernel
theorem d46_18 : decode jdk_42_method_66_code 18 = .ok (.astore_n 2, 1) := by decide +kernel
theorem d46_19 : decode jdk_42_method_66_code 19 = .ok (.getstatic 38, 3) := by decide +kernel
theorem d46_22 : decode jdk_42_method_66_code 22 = .ok (.ifCond .eq 14, 3) := by decide +kernel
theorem d46_25 : decode jdk_42_method_66_code 25 = .ok (.aload_n 0, 1) := by decide +kernel
theorem d46_26 : decode jdk_42_method_66_code 26 = .ok (.getfield 15, 3) := by decide +kernel
theorem d46_29 : decode jdk_42_method_66_code 29 = .ok (.aload_n 2, 1) := by decide +kernel
theorem d46_30 : decode jdk_42_method_66_code 30 = .ok (.getfield 15, 3) := by decide +kernel
theorem d46_33 : decode jdk_42_method_66_code 33 = .ok (.if_icmp .ne 21, 3) := by decide +kernel
theorem d46_36 : decode jdk_42_method_66_code 36 = .ok (.aload_n 0, 1) := by decide +kernel
theorem d46_37 : decode jdk_42_method_66_code 37 = .ok (.getfield 9, 3) := by decide +kernel
theorem d46_40 : decode jdk_42_method_66_code 40 = .ok (.aload_n 2, 1) := by decide +kernel
theorem d46_41 : decode jdk_42_method_66_code 41 = .ok (.getfield 9, 3) := by decide +kernel
theorem d46_44 : decode jdk_42_method_66_code 44 = .ok (.invokestatic 541, 3) := by decide +kernel
theorem d46_47 : decode jdk_42_method_66_code 47 = .ok (.ifCond .eq 7, 3) := by decide +kernel
theorem d46_50 : decode jdk_42_method_66_code 50 = .ok (.iconst 1, 1) := by decide +kernel
theorem d46_51 : decode jdk_42_method_66_code 51 = .ok (.goto 4, 3) := by decide +kernel
theorem d46_55 : decode jdk_42_method_66_code 55 = .ok (.ireturn, 1) := by decide +kernel
theorem pd28 : parseMethodDescriptor "([B[B)Z" = some ⟨[(.array .byte), (.array .byte)], some .boolean⟩ := by decide +kernel
def r_streq : Room := { frames := 1, cells := 0, slots := 0, locals := 14 }
def Q_streq (Z : State) (a o va vo : Addr) (ka ko : ClassId) (e0 e1 f0 f1 cs : Int32) (h0 : Heap) (v : Option Value) (h : Heap) : Prop := v = some (.int 1) ∧ h0 = h
theorem rm_streq (l : Launch) (Z : State) (a0 : Array Value) (hw : oHw Z a0) (a o va vo : Addr) (ka ko : ClassId) (e0 e1 f0 f1 cs : Int32) (h0 : Heap) (q0 : Exa Z h0 a z0) (q1 : Fld Z h0 a z0 "value" "[B" (.ref va)) (q2 : Fld Z h0 a z0 "coder" "B" (.int 0)) (q3 : oArr Z h0 va ka .byte [.int e0, .int e1]) (q4 : Exa Z h0 o z0) (q5 : Fld Z h0 o z0 "value" "[B" (.ref vo)) (q6 : Fld Z h0 o z0 "coder" "B" (.int 0)) (q7 : oArr Z h0 vo ko .byte [.int f0, .int f1]) (q8 : a ≠ o) (q9 : e0 = f0) (q10 : e1 = f1) (q11 : Sta Z Z.heap z0 "COMPACT_STRINGS" "Z" (.int cs)) (q12 : ¬ (cs = (0 : Int32))) : oMet l Z (⟨z0, "equals", "(Ljava/lang/Object;)Z"⟩ : MethodName) jdk_42_method_66_code 3 (some .boolean) r_streq [] #[.ref a, .ref o] h0 (Q_streq Z a o va vo ka ko e0 e1 f0 f1 cs h0) := by
 refine oEnter (plainFor_of_name (by first | (simp [plainName, overriddenIn]; done) | decide +kernel)) (own := z0) (nm := "equals") rfl rfl (L := #[.val (.ref a), .val (.ref o), .unset]) (fun m => by first | (simp [entryFrame, mkF, argsToLocals, Value.category]; done) | rfl) ?_
 intro pp ee ss mm bb mtd cc T0 K X0
 have E0 := X0.ext0
 refine o_aloadN K X0 d46_0 rfl rfl rfl ?_
 refine o_aloadN K X0 d46_1 rfl rfl rfl ?_
 refine o_acmp K X0 false d46_2 (by decide) rfl rfl (decide_eq_false fun q => q8 (Value.ref.inj q)) (pc' := 7) (by decide) ?_
 refine o_aloadN K X0 d46_7 rfl rfl rfl ?_
 refine o_instanceof K X0 (w206 hw) (Ins.self q4) d46_8 rfl ?_
 intro T1 X1
 refine o_if_eq_f K X1 d46_11 rfl (by decide) ?_
 refine o_aloadN K X1 d46_14 rfl rfl rfl ?_
 refine o_checkcast K X1 (w206 hw) (Ins.self q4) d46_15 rfl ?_
 intro T2 X2
 refine o_astoreN K X2 d46_18 rfl rfl (L' := #[vR a, vR o, vR o]) rfl ?_
 refine o_getstatic K X2 (host := "") (Or.inl (w50 hw)) Via.refl (q11.ext X2.ext0) d46_19 rfl ?_
 intro T3 X3
 refine o_if_eq_f K X3 d46_22 rfl q12 ?_
 refine o_aloadN K X3 d46_25 rfl rfl rfl ?_
 refine o_getfield K X3 (host := "") (Or.inl (w62 hw)) Via.refl q2 d46_26 rfl ?_
 intro T4 X4
 refine o_aloadN K X4 d46_29 rfl rfl rfl ?_
 refine o_getfield K X4 (host := "") (Or.inl (w62 hw)) Via.refl q6 d46_30 rfl ?_
 intro T5 X5
 refine o_icmp_ne_f K X5 d46_33 rfl (by decide) ?_
 refine o_aloadN K X5 d46_36 rfl rfl rfl ?_
 refine o_getfield K X5 (host := "") (Or.inl (w64 hw)) Via.refl q1 d46_37 rfl ?_
 intro T6 X6
 refine o_aloadN K X6 d46_40 rfl rfl rfl ?_
 refine o_getfield K X6 (host := "") (Or.inl (w64 hw)) Via.refl q5 d46_41 rfl ?_
 intro T7 X7
 refine o_static K X7  (w274 hw) (w275 hw) (w204 hw) (w276 hw) (by decide) (rm_lateq l Z a0 hw va vo ka ko e0 e1 f0 f1 h0 q3 q7 q9 q10) (by decide) rfl (argsL := [.ref va, .ref vo]) rfl (lenOf pd28 rfl) (W := 0) rfl (by decide) (by decide) (by decide) d46_44 rfl ?_
 intro v8 T8 h8 X8 U8
 obtain ⟨rfl, rfl⟩ := U8
 show oGoes pp ee bb ss Z T8 (mkF mm 47 _ [.int 1]) _ _ _
 refine o_if_eq_f K X8 d46_47 rfl (by decide) ?_
 refine o_iconst K X8 d46_50 rfl (z := 1) rfl ?_
 refine o_goto K X8 d46_51 (by decide) (pc' := 55) (by decide) ?_
 refine o_ireturnN K X8 .boolean d46_55 rfl (by simp) (z' := 1) (by decide) ?_ (by decide) (by decide)
 exact ⟨rfl, rfl⟩
theorem pd29 : parseMethodDescriptor "(C)Ljava/lang/String;" = some ⟨[.char], some (.object z0)⟩ := by decide +kernel
theorem pd30 : parseMethodDescriptor "(Ljava/lang/String;IZ)V" = some ⟨[(.object z0), .int, .boolean], none⟩ := by decide +kernel
theorem pd31 : parseMethodDescriptor z21 = some ⟨[(.object z2), (.object z2)], none⟩ := by decide +kernel
theorem pd32 : parseMethodDescriptor z20 = some ⟨[(.object z4)], some (.object z0)⟩ := by decide +kernel
def Q_lw0_1 (Z : State) (i0 i1 i2 : Int32) (i3 : Int64) (i4 i5 n m nm size idx : Int32) (mt : Value) (w q s0 vz0 : Addr) (kz0 : ClassId) (cs : Int32) (em : Addr) (h0 : Heap) (v : Option Value) (h : Heap) : Prop := v = some (.int 1)
theorem tl_lw0_1 (l : Launch) (Z : State) (a0 : Array Value) (hw : oHw Z a0) (i0 i1 i2 : Int32) (i3 : Int64) (i4 i5 n m nm size idx : Int32) (mt : Value) (w q s0 vz0 : Addr) (kz0 : ClassId) (cs : Int32) (em : Addr) (h0 : Heap) (q0 : idx = (0 : Int32)) (q1 : Exa Z h0 w z2) (q2 : Fld Z h0 w z2 "fields" z11 (.ref q)) (q3 : Exa Z h0 q z8) (q4 : Fld Z h0 q z8 "e0" z10 (.ref s0)) (q5 : Fld Z h0 q z8 "e1" z10 (.ref em)) (q6 : Exa Z h0 s0 z0) (q7 : Fld Z h0 s0 z0 "value" "[B" (.ref vz0)) (q8 : Fld Z h0 s0 z0 "coder" "B" (.int 0)) (q9 : oArr Z h0 vz0 kz0 .byte [(.int (nar .byte (97 : Int32))), (.int (nar .byte (oFx i3 (0 : Int32))))]) (q10 : Z.heap.size ≤ s0) (q11 : Sta Z Z.heap z0 "COMPACT_STRINGS" "Z" (.int cs)) (q12 : ¬ (cs = (0 : Int32))) (q13 : Sta Z Z.heap z18 "EMPTY" z10 (.ref em)) (q14 : Exa Z Z.heap em z3) (q15 : mt.isRef = true) {Q : Option Value → Heap → Prop} (hQ : ∀ v h, Q_lw0_1 Z i0 i1 i2 i3 i4 i5 n m nm size idx mt w q s0 vz0 kz0 cs em h0 v h → Q v h) {pp : Program} {ee : Env} {ss : State} {mm : MethodId} {bb : List Frame} {mtd : Method} {cc : Code} {A : Array Value} {T0 : State} (K : oCtx pp ss mm mtd cc Z z12 code maxLocals "law" ret x) (X0 : oSt pp l ee room_1 ss mm A bb mtd cc Z T0 h0 46 150) : oGoes pp ee bb ss Z T0 (mkF mm 126 #[vI i0, vI i1, vI i2, vJ i3, sS, vI i4, vI i5, vI n, vI m, vI 0, vI nm, vI size, vI idx, vR w, .val mt, uS, uS, uS, uS] []) Q room_1.cells room_1.slots := by
 have E0 := X0.ext0
 rcases q0 with rfl
 refine o_new K X0 (w196 hw) (w197 hw) (w198 hw) at_126 rfl (by decide) (by decide) ?_
 intro T1 h1 b1 X1 g1 E1 A1 D1 G1
 have F1_file : Fld Z h1 b1 z4 "file" "Ljava/lang/String;" .null := (D1 (Or.inr (w218 hw)) (ty := (.object z0)) (by decide))
 have F1_index : Fld Z h1 b1 z4 "index" "I" (.int 0) := (D1 (Or.inr (w220 hw)) (ty := .int) (by decide))
 have F1_inJoined : Fld Z h1 b1 z4 "inJoined" "Z" (.int 0) := (D1 (Or.inr (w222 hw)) (ty := .boolean) (by decide))
 refine o_dup K X1 at_129 rfl rfl ?_
 refine o_iloadN K X1 at_130 rfl rfl ?_
 refine o_bipush K X1 at_131 rfl (z := 8) rfl ?_
 refine o_iushr K X1 at_133 rfl (z := ((i2.toUInt32 >>> ((8 : Int32) &&& 31).toUInt32).toInt32)) rfl ?_
 refine o_sipush K X1 at_134 rfl (z := 255) rfl ?_
 refine o_iand K X1 at_137 rfl (z := (((i2.toUInt32 >>> ((8 : Int32) &&& 31).toUInt32).toInt32) &&& (255 : Int32))) rfl ?_
 refine o_i2c K X1 at_138 rfl (z := (((i2.toUInt32 >>> ((8 : Int32) &&& 31).toUInt32).toInt32) &&& (255 : Int32))) (oNarMask ((i2.toUInt32 >>> ((8 : Int32) &&& 31).toUInt32).toInt32) (by decide)) ?_
 refine o_static K X1  (w199 hw) (w200 hw) (w39 hw) (w201 hw) (by decide) (rm_valueof l Z a0 hw (((i2.toUInt32 >>> ((8 : Int32) &&& 31).toUInt32).toInt32) &&& (255 : Int32)) cs h1 (oMask255 _) q11 q12) (by decide) rfl (argsL := [(.int (((i2.toUInt32 >>> ((8 : Int32) &&& 31).toUInt32).toInt32) &&& (255 : Int32)))]) rfl (lenOf pd29 rfl) (W := 2) rfl (by decide) (by decide) (by decide) at_139 rfl ?_
 intro v2 T2 h2 X2 U2
 obtain ⟨r_2, vb_2, k_2, rfl, u2_0, u2_1, u2_2, u2_3, u2_4, u2_5, u2_6⟩ := U2
 have G2_r : Z.heap.size ≤ r_2 := Nat.le_trans X1.ext0.1 u2_1
 have G2_vb : Z.heap.size ≤ vb_2 := Nat.le_trans X1.ext0.1 u2_5
 show oGoes pp ee bb ss Z T2 (mkF mm 142 _ [.ref r_2, .ref b1, .ref b1]) _ _ _
 refine o_iload K X2 at_142 rfl rfl ?_
 refine o_iload K X2 at_144 rfl rfl ?_
 have m3 := (A1.keep u2_0)
 have m4 := (F1_file.keep u2_0 nin0)
 have m5 := (F1_index.keep u2_0 nin0)
 have m6 := (F1_inJoined.keep u2_0 nin0)
 refine o_special K X2 (y := (⟨z4, "<init>", "(Ljava/lang/String;IZ)V"⟩ : MethodName)) rfl (w213 hw) (w214 hw) (w198 hw) (w215 hw) (by decide) (rm_dcol0 l Z a0 hw b1 r_2 0 h2 m3 G1 m4 m5 m6) (by decide) rfl (argsL := [.ref r_2, .int 0, .int 0]) rfl (lenOf pd30 rfl) (W := 1) rfl (by decide) (by decide) (by decide) at_146 rfl ?_
 intro v7 T7 h7 X7 U7
 obtain ⟨rfl, u7_0, u7_1, u7_2, u7_3, u7_4⟩ := U7
 show oGoes pp ee bb ss Z T7 (mkF mm 149 _ [.ref b1]) _ _ _
 refine o_astore K X7 at_149 rfl rfl (L' := #[vI i0, vI i1, vI i2, vJ i3, sS, vI i4, vI i5, vI n, vI m, vI 0, vI nm, vI size, vI 0, vR w, .val mt, vR b1, uS, uS, uS]) rfl ?_
 refine o_new K X7 (w223 hw) (w224 hw) (w225 hw) at_151 rfl (by decide) (by decide) ?_
 intro T8 h8 b8 X8 g8 E8 A8 D8 G8
 have F8_row : Fld Z h8 b8 z6 "row" z16 .null := (D8 (Or.inr (w231 hw)) (ty := (.object z2)) (by decide))
 have F8_match : Fld Z h8 b8 z6 "match" z16 .null := (D8 (Or.inr (w233 hw)) (ty := (.object z2)) (by decide))
 refine o_dup K X8 at_154 rfl rfl ?_
 refine o_aload K X8 at_155 rfl rfl rfl ?_
 refine o_aload K X8 at_157 rfl rfl q15 ?_
 refine o_special K X8 (y := (⟨z6, "<init>", z21⟩ : MethodName)) rfl (w226 hw) (w227 hw) (w225 hw) (w228 hw) (by decide) (rm_drow l Z a0 hw b8 w mt h8 q15 A8 G8 F8_row F8_match) (by decide) rfl (argsL := [.ref w, mt]) rfl (lenOf pd31 rfl) (W := 1) rfl (by decide) (by decide) (by decide) at_159 rfl ?_
 intro v9 T9 h9 X9 U9
 obtain ⟨rfl, u9_0, u9_1, u9_2, u9_3⟩ := U9
 show oGoes pp ee bb ss Z T9 (mkF mm 162 _ [.ref b8]) _ _ _
 refine o_astore K X9 at_162 rfl rfl (L' := #[vI i0, vI i1, vI i2, vJ i3, sS, vI i4, vI i5, vI n, vI m, vI 0, vI nm, vI size, vI 0, vR w, .val mt, vR b1, vR b8, uS, uS]) rfl ?_
 refine o_aload K X9 at_164 rfl rfl rfl ?_
 refine o_aload K X9 at_166 rfl rfl rfl ?_
 have m10 := ((u7_1.ext E8).keep u9_0)
 have n11 := oLn A1.lt (Nat.le_trans u2_0.1 u7_0.1) (oLe g8)
 have m12 := ((u7_4.ext E8).keep u9_0 (ninS n11 nin0))
 have m13 := ((u7_3.ext E8).keep u9_0 (ninS n11 nin0))
 have m14 := (((((q1.ext E1).keep u2_0).keep u7_0).ext E8).keep u9_0)
 have n15 := oLz q1.lt (oLe g1)
 have y0_3 := Nat.le_trans (Nat.le_trans E1.1 u2_0.1) u7_0.1
 have n16 := oLn q1.lt y0_3 (oLe g8)
 have m17 := (((((q2.ext E1).keep u2_0 nin0).keep u7_0 (ninS n15 nin0)).ext E8).keep u9_0 (ninS n16 nin0))
 have m18 := (((((q3.ext E1).keep u2_0).keep u7_0).ext E8).keep u9_0)
 have n19 := oLz q3.lt (oLe g1)
 have n20 := oLn q3.lt y0_3 (oLe g8)
 have m21 := (((((q4.ext E1).keep u2_0 nin0).keep u7_0 (ninS n19 nin0)).ext E8).keep u9_0 (ninS n20 nin0))
 have m22 := (((((q5.ext E1).keep u2_0 nin0).keep u7_0 (ninS n19 nin0)).ext E8).keep u9_0 (ninS n20 nin0))
 have m23 := (((((q6.ext E1).keep u2_0).keep u7_0).ext E8).keep u9_0)
 refine o_virtual K X9   (w234 hw) (w235 hw) (oNF (w237 hw)) (w237 hw) (w236 hw) (w225 hw) (w238 hw) (by decide) u9_1 (rm_val0_1_0 l Z a0 hw b8 b1 w q s0 em h9 u9_1 m10 m12 m13 u9_2 m14 m17 m18 m21 m22 m23 q13 q14) (by decide) rfl (argsL := [.ref b1]) rfl (lenOf pd32 rfl) (W := 0) rfl (by decide) (by decide) (by decide) at_168 rfl ?_
 intro v24 T24 h24 X24 U24
 obtain ⟨rfl, rfl⟩ := U24
 show oGoes pp ee bb ss Z T24 (mkF mm 171 _ [.ref s0]) _ _ _
 refine o_astore K X24 at_171 rfl rfl (L' := #[vI i0, vI i1, vI i2, vJ i3, sS, vI i4, vI i5, vI n, vI m, vI 0, vI nm, vI size, vI 0, vR w, .val mt, vR b1, vR b8, vR s0, uS]) rfl ?_
 refine o_iload K X24 at_173 rfl rfl ?_
 refine o_if_eq_t K X24 at_175 (by decide) (pc' := 195) (by decide) (by decide) ?_
 refine o_bipush K X24 at_195 rfl (z := 97) rfl ?_
 refine o_iload K X24 at_197 rfl rfl ?_
 refine o_iadd K X24 at_199 rfl (z := 97) (by decide) ?_
 refine o_i2c K X24 at_200 rfl (z := 97) (by decide) ?_
 refine o_lloadN K X24 at_201 rfl rfl ?_
 refine o_iload K X24 at_202 rfl rfl ?_
 refine o_static K X24  (w34 hw) (w35 hw) (w6 hw) (w36 hw) (by decide) (rm_field l Z a0 hw 97 i3 0 cs h9 (by decide) (by decide) q11 q12) (by decide) rfl (argsL := [.int 97, (.long i3), .int 0]) rfl (lenOf pd13 rfl) (W := 0) rfl (by decide) (by decide) (by decide) at_204 rfl ?_
 intro v25 T25 h25 X25 U25
 obtain ⟨s_25, sv_25, kv_25, rfl, u25_0, u25_1, u25_2, u25_3, u25_4, u25_5, u25_6⟩ := U25
 have G25_s : Z.heap.size ≤ s_25 := Nat.le_trans X24.ext0.1 u25_1
 have G25_sv : Z.heap.size ≤ sv_25 := Nat.le_trans X24.ext0.1 u25_2
 show oGoes pp ee bb ss Z T25 (mkF mm 207 _ [.ref s_25]) _ _ _
 refine o_astore K X25 at_207 rfl rfl (L' := #[vI i0, vI i1, vI i2, vJ i3, sS, vI i4, vI i5, vI n, vI m, vI 0, vI nm, vI size, vI 0, vR w, .val mt, vR b1, vR b8, vR s0, vR s_25]) rfl ?_
 refine o_aload K X25 at_209 rfl rfl rfl ?_
 refine o_aload K X25 at_211 rfl rfl rfl ?_
 have m26 := (m23.keep u25_0)
 have n27 := oLz q6.lt (oLe g1)
 have n28 := oLn q6.lt y0_3 (oLe g8)
 have m29 := ((((((q7.ext E1).keep u2_0 nin0).keep u7_0 (ninS n27 nin0)).ext E8).keep u9_0 (ninS n28 nin0)).keep u25_0 nin0)
 have m30 := ((((((q8.ext E1).keep u2_0 nin0).keep u7_0 (ninS n27 nin0)).ext E8).keep u9_0 (ninS n28 nin0)).keep u25_0 nin0)
 have n31 := oLz q9.lt (oLe g1)
 have n32 := oLn q9.lt y0_3 (oLe g8)
 have m33 := ((((((q9.ext E1).keep u2_0 nin0).keep u7_0 (ninS n31 nin0)).ext E8).keep u9_0 (ninS n32 nin0)).keep u25_0 nin0)
 have y0_5 := Nat.le_trans (Nat.le_trans y0_3 E8.1) u9_0.1
 have n34 := oLsn q6.lt y0_5 u25_1
 refine o_virtual K X25   (w269 hw) (w270 hw) (oNF (w272 hw)) (w272 hw) (w271 hw) (w39 hw) (w273 hw) (by decide) u25_3 (rm_streq l Z a0 hw s_25 s0 sv_25 vz0 kv_25 kz0 (nar .byte (97 : Int32)) (nar .byte (oFx i3 (0 : Int32))) (nar .byte (97 : Int32)) (nar .byte (oFx i3 (0 : Int32))) cs h25 u25_3 u25_4 u25_5 u25_6 m26 m29 m30 m33 n34 rfl rfl q11 q12) (by decide) rfl (argsL := [.ref s0]) rfl (lenOf pd14 rfl) (W := 0) rfl (by decide) (by decide) (by decide) at_213 rfl ?_
 intro v35 T35 h35 X35 U35
 obtain ⟨rfl, rfl⟩ := U35
 show oGoes pp ee bb ss Z T35 (mkF mm 216 _ [.int 1]) _ _ _
 refine o_ireturnN K X35 .boolean at_216 rfl (by simp) (z' := 1) (by decide) ?_ (by decide) (by decide)
 exact hQ _ _ rfl
def Q_lw0_2 (Z : State) (i0 i1 i2 : Int32) (i3 : Int64) (i4 i5 n m nm size idx : Int32) (mt : Value) (w q s0 vz0 : Addr) (kz0 : ClassId) (s1 vz1 : Addr) (kz1 : ClassId) (cs : Int32) (em : Addr) (h0 : Heap) (v : Option Value) (h : Heap) : Prop := v = some (.int 1)
theorem tl_lw0_2 (l : Launch) (Z : State) (a0 : Array Value) (hw : oHw Z a0) (i0 i1 i2 : Int32) (i3 : Int64) (i4 i5 n m nm size idx : Int32) (mt : Value) (w q s0 vz0 : Addr) (kz0 : ClassId) (s1 vz1 : Addr) (kz1 : ClassId) (cs : Int32) (em : Addr) (h0 : Heap) (q0 : idx = (0 : Int32) ∨ idx = (1 : Int32)) (q1 : Exa Z h0 w z2) (q2 : Fld Z h0 w z2 "fields" z11 (.ref q)) (q3 : Exa Z h0 q z8) (q4 : Fld Z h0 q z8 "e0" z10 (.ref s0)) (q5 : Fld Z h0 q z8 "e1" z10 (.ref s1)) (q6 : Exa Z h0 s0 z0) (q7 : Fld Z h0 s0 z0 "value" "[B" (.ref vz0)) (q8 : Fld Z h0 s0 z0 "coder" "B" (.int 0)) (q9 : oArr Z h0 vz0 kz0 .byte [(.int (nar .byte (97 : Int32))), (.int (nar .byte (oFx i3 (0 : Int32))))]) (q10 : Exa Z h0 s1 z0) (q11 : Fld Z h0 s1 z0 "value" "[B" (.ref vz1)) (q12 : Fld Z h0 s1 z0 "coder" "B" (.int 0)) (q13 : oArr Z h0 vz1 kz1 .byte [(.int (nar .byte (98 : Int32))), (.int (nar .byte (oFx i3 (1 : Int32))))]) (q14 : Z.heap.size ≤ s0) (q15 : Z.heap.size ≤ s1) (q16 : Sta Z Z.heap z0 "COMPACT_STRINGS" "Z" (.int cs)) (q17 : ¬ (cs = (0 : Int32))) (q18 : Sta Z Z.heap z18 "EMPTY" z10 (.ref em)) (q19 : Exa Z Z.heap em z3) (q20 : mt.isRef = true) {Q : Option Value → Heap → Prop} (hQ : ∀ v h, Q_lw0_2 Z i0 i1 i2 i3 i4 i5 n m nm size idx mt w q s0 vz0 kz0 s1 vz1 kz1 cs em h0 v h → Q v h) {pp : Program} {ee : Env} {ss : State} {mm : MethodId} {bb : List Frame} {mtd : Method} {cc : Code} {A : Array Value} {T0 : State} (K : oCtx pp ss mm mtd cc Z z12 code maxLocals "law" ret x) (X0 : oSt pp l ee room_1 ss mm A bb mtd cc Z T0 h0 46 150) : oGoes pp ee bb ss Z T0 (mkF mm 126 #[vI i0, vI i1, vI i2, vJ i3, sS, vI i4, vI i5, vI n, vI m, vI 0, vI nm, vI size, vI idx, vR w, .val mt, uS, uS, uS, uS] []) Q room_1.cells room_1.slots := by
 have E0 := X0.ext0
 rcases q0 with rfl | rfl
 refine o_new K X0 (w196 hw) (w197 hw) (w198 hw) at_126 rfl (by decide) (by decide) ?_
 intro T1 h1 b1 X1 g1 E1 A1 D1 G1
 have F1_file : Fld Z h1 b1 z4 "file" "Ljava/lang/String;" .null := (D1 (Or.inr (w218 hw)) (ty := (.object z0)) (by decide))
 have F1_index : Fld Z h1 b1 z4 "index" "I" (.int 0) := (D1 (Or.inr (w220 hw)) (ty := .int) (by decide))
 have F1_inJoined : Fld Z h1 b1 z4 "inJoined" "Z" (.int 0) := (D1 (Or.inr (w222 hw)) (ty := .boolean) (by decide))
 refine o_dup K X1 at_129 rfl rfl ?_
 refine o_iloadN K X1 at_130 rfl rfl ?_
 refine o_bipush K X1 at_131 rfl (z := 8) rfl ?_
 refine o_iushr K X1 at_133 rfl (z := ((i2.toUInt32 >>> ((8 : Int32) &&& 31).toUInt32).toInt32)) rfl ?_
 refine o_sipush K X1 at_134 rfl (z := 255) rfl ?_
 refine o_iand K X1 at_137 rfl (z := (((i2.toUInt32 >>> ((8 : Int32) &&& 31).toUInt32).toInt32) &&& (255 : Int32))) rfl ?_
 refine o_i2c K X1 at_138 rfl (z := (((i2.toUInt32 >>> ((8 : Int32) &&& 31).toUInt32).toInt32) &&& (255 : Int32))) (oNarMask ((i2.toUInt32 >>> ((8 : Int32) &&& 31).toUInt32).toInt32) (by decide)) ?_
 refine o_static K X1  (w199 hw) (w200 hw) (w39 hw) (w201 hw) (by decide) (rm_valueof l Z a0 hw (((i2.toUInt32 >>> ((8 : Int32) &&& 31).toUInt32).toInt32) &&& (255 : Int32)) cs h1 (oMask255 _) q16 q17) (by decide) rfl (argsL := [(.int (((i2.toUInt32 >>> ((8 : Int32) &&& 31).toUInt32).toInt32) &&& (255 : Int32)))]) rfl (lenOf pd29 rfl) (W := 2) rfl (by decide) (by decide) (by decide) at_139 rfl ?_
 intro v2 T2 h2 X2 U2
 obtain ⟨r_2, vb_2, k_2, rfl, u2_0, u2_1, u2_2, u2_3, u2_4, u2_5, u2_6⟩ := U2
 have G2_r : Z.heap.size ≤ r_2 := Nat.le_trans X1.ext0.1 u2_1
 have G2_vb : Z.heap.size ≤ vb_2 := Nat.le_trans X1.ext0.1 u2_5
 show oGoes pp ee bb ss Z T2 (mkF mm 142 _ [.ref r_2, .ref b1, .ref b1]) _ _ _
 refine o_iload K X2 at_142 rfl rfl ?_
 refine o_iload K X2 at_144 rfl rfl ?_
 have m3 := (A1.keep u2_0)
 have m4 := (F1_file.keep u2_0 nin0)
 have m5 := (F1_index.keep u2_0 nin0)
 have m6 := (F1_inJoined.keep u2_0 nin0)
 refine o_special K X2 (y := (⟨z4, "<init>", "(Ljava/lang/String;IZ)V"⟩ : MethodName)) rfl (w213 hw) (w214 hw) (w198 hw) (w215 hw) (by decide) (rm_dcol0 l Z a0 hw b1 r_2 0 h2 m3 G1 m4 m5 m6) (by decide) rfl (argsL := [.ref r_2, .int 0, .int 0]) rfl (lenOf pd30 rfl) (W := 1) rfl (by decide) (by decide) (by decide) at_146 rfl ?_
 intro v7 T7 h7 X7 U7
 obtain ⟨rfl, u7_0, u7_1, u7_2, u7_3, u7_4⟩ := U7
 show oGoes pp ee bb ss Z T7 (mkF mm 149 _ [.ref b1]) _ _ _
 refine o_astore K X7 at_149 rfl rfl (L' := #[vI i0, vI i1, vI i2, vJ i3, sS, vI i4, vI i5, vI n, vI m, vI 0, vI nm, vI size, vI 0, vR w, .val mt, vR b1, uS, uS, uS]) rfl ?_
 refine o_new K X7 (w223 hw) (w224 hw) (w225 hw) at_151 rfl (by decide) (by decide) ?_
 intro T8 h8 b8 X8 g8 E8 A8 D8 G8
 have F8_row : Fld Z h8 b8 z6 "row" z16 .null := (D8 (Or.inr (w231 hw)) (ty := (.object z2)) (by decide))
 have F8_match : Fld Z h8 b8 z6 "match" z16 .null := (D8 (Or.inr (w233 hw)) (ty := (.object z2)) (by decide))
 refine o_dup K X8 at_154 rfl rfl ?_
 refine o_aload K X8 at_155 rfl rfl rfl ?_
 refine o_aload K X8 at_157 rfl rfl q20 ?_
 refine o_special K X8 (y := (⟨z6, "<init>", z21⟩ : MethodName)) rfl (w226 hw) (w227 hw) (w225 hw) (w228 hw) (by decide) (rm_drow l Z a0 hw b8 w mt h8 q20 A8 G8 F8_row F8_match) (by decide) rfl (argsL := [.ref w, mt]) rfl (lenOf pd31 rfl) (W := 1) rfl (by decide) (by decide) (by decide) at_159 rfl ?_
 intro v9 T9 h9 X9 U9
 obtain ⟨rfl, u9_0, u9_1, u9_2, u9_3⟩ := U9
 show oGoes pp ee bb ss Z T9 (mkF mm 162 _ [.ref b8]) _ _ _
 refine o_astore K X9 at_162 rfl rfl (L' := #[vI i0, vI i1, vI i2, vJ i3, sS, vI i4, vI i5, vI n, vI m, vI 0, vI nm, vI size, vI 0, vR w, .val mt, vR b1, vR b8, uS, uS]) rfl ?_
 refine o_aload K X9 at_164 rfl rfl rfl ?_
 refine o_aload K X9 at_166 rfl rfl rfl ?_
 have m10 := ((u7_1.ext E8).keep u9_0)
 have n11 := oLn A1.lt (Nat.le_trans u2_0.1 u7_0.1) (oLe g8)
 have m12 := ((u7_4.ext E8).keep u9_0 (ninS n11 nin0))
 have m13 := ((u7_3.ext E8).keep u9_0 (ninS n11 nin0))
 have m14 := (((((q1.ext E1).keep u2_0).keep u7_0).ext E8).keep u9_0)
 have n15 := oLz q1.lt (oLe g1)
 have y0_3 := Nat.le_trans (Nat.le_trans E1.1 u2_0.1) u7_0.1
 have n16 := oLn q1.lt y0_3 (oLe g8)
 have m17 := (((((q2.ext E1).keep u2_0 nin0).keep u7_0 (ninS n15 nin0)).ext E8).keep u9_0 (ninS n16 nin0))
 have m18 := (((((q3.ext E1).keep u2_0).keep u7_0).ext E8).keep u9_0)
 have n19 := oLz q3.lt (oLe g1)
 have n20 := oLn q3.lt y0_3 (oLe g8)
 have m21 := (((((q4.ext E1).keep u2_0 nin0).keep u7_0 (ninS n19 nin0)).ext E8).keep u9_0 (ninS n20 nin0))
 have m22 := (((((q5.ext E1).keep u2_0 nin0).keep u7_0 (ninS n19 nin0)).ext E8).keep u9_0 (ninS n20 nin0))
 have m23 := (((((q6.ext E1).keep u2_0).keep u7_0).ext E8).keep u9_0)
 refine o_virtual K X9   (w234 hw) (w235 hw) (oNF (w237 hw)) (w237 hw) (w236 hw) (w225 hw) (w238 hw) (by decide) u9_1 (rm_val0_2_0 l Z a0 hw b8 b1 w q s0 s1 em h9 u9_1 m10 m12 m13 u9_2 m14 m17 m18 m21 m22 m23 q15 q18 q19) (by decide) rfl (argsL := [.ref b1]) rfl (lenOf pd32 rfl) (W := 0) rfl (by decide) (by decide) (by decide) at_168 rfl ?_
 intro v24 T24 h24 X24 U24
 obtain ⟨rfl, rfl⟩ := U24
 show oGoes pp ee bb ss Z T24 (mkF mm 171 _ [.ref s0]) _ _ _
 refine o_astore K X24 at_171 rfl rfl (L' := #[vI i0, vI i1, vI i2, vJ i3, sS, vI i4, vI i5, vI n, vI m, vI 0, vI nm, vI size, vI 0, vR w, .val mt, vR b1, vR b8, vR s0, uS]) rfl ?_
 refine o_iload K X24 at_173 rfl rfl ?_
 refine o_if_eq_t K X24 at_175 (by decide) (pc' := 195) (by decide) (by decide) ?_
 refine o_bipush K X24 at_195 rfl (z := 97) rfl ?_
 refine o_iload K X24 at_197 rfl rfl ?_
 refine o_iadd K X24 at_199 rfl (z := 97) (by decide) ?_
 refine o_i2c K X24 at_200 rfl (z := 97) (by decide) ?_
 refine o_lloadN K X24 at_201 rfl rfl ?_
 refine o_iload K X24 at_202 rfl rfl ?_
 refine o_static K X24  (w34 hw) (w35 hw) (w6 hw) (w36 hw) (by decide) (rm_field l Z a0 hw 97 i3 0 cs h9 (by decide) (by decide) q16 q17) (by decide) rfl (argsL := [.int 97, (.long i3), .int 0]) rfl (lenOf pd13 rfl) (W := 0) rfl (by decide) (by decide) (by decide) at_204 rfl ?_
 intro v25 T25 h25 X25 U25
 obtain ⟨s_25, sv_25, kv_25, rfl, u25_0, u25_1, u25_2, u25_3, u25_4, u25_5, u25_6⟩ := U25
 have G25_s : Z.heap.size ≤ s_25 := Nat.le_trans X24.ext0.1 u25_1
 have G25_sv : Z.heap.size ≤ sv_25 := Nat.le_trans X24.ext0.1 u25_2
 show oGoes pp ee bb ss Z T25 (mkF mm 207 _ [.ref s_25]) _ _ _
 refine o_astore K X25 at_207 rfl rfl (L' := #[vI i0, vI i1, vI i2, vJ i3, sS, vI i4, vI i5, vI n, vI m, vI 0, vI nm, vI size, vI 0, vR w, .val mt, vR b1, vR b8, vR s0, vR s_25]) rfl ?_
 refine o_aload K X25 at_209 rfl rfl rfl ?_
 refine o_aload K X25 at_211 rfl rfl rfl ?_
 have m26 := (m23.keep u25_0)
 have n27 := oLz q6.lt (oLe g1)
 have n28 := oLn q6.lt y0_3 (oLe g8)
 have m29 := ((((((q7.ext E1).keep u2_0 nin0).keep u7_0 (ninS n27 nin0)).ext E8).keep u9_0 (ninS n28 nin0)).keep u25_0 nin0)
 have m30 := ((((((q8.ext E1).keep u2_0 nin0).keep u7_0 (ninS n27 nin0)).ext E8).keep u9_0 (ninS n28 nin0)).keep u25_0 nin0)
 have n31 := oLz q9.lt (oLe g1)
 have n32 := oLn q9.lt y0_3 (oLe g8)
 have m33 := ((((((q9.ext E1).keep u2_0 nin0).keep u7_0 (ninS n31 nin0)).ext E8).keep u9_0 (ninS n32 nin0)).keep u25_0 nin0)
 have y0_5 := Nat.le_trans (Nat.le_trans y0_3 E8.1) u9_0.1
 have n34 := oLsn q6.lt y0_5 u25_1
 refine o_virtual K X25   (w269 hw) (w270 hw) (oNF (w272 hw)) (w272 hw) (w271 hw) (w39 hw) (w273 hw) (by decide) u25_3 (rm_streq l Z a0 hw s_25 s0 sv_25 vz0 kv_25 kz0 (nar .byte (97 : Int32)) (nar .byte (oFx i3 (0 : Int32))) (nar .byte (97 : Int32)) (nar .byte (oFx i3 (0 : Int32))) cs h25 u25_3 u25_4 u25_5 u25_6 m26 m29 m30 m33 n34 rfl rfl q16 q17) (by decide) rfl (argsL := [.ref s0]) rfl (lenOf pd14 rfl) (W := 0) rfl (by decide) (by decide) (by decide) at_213 rfl ?_
 intro v35 T35 h35 X35 U35
 obtain ⟨rfl, rfl⟩ := U35
 show oGoes pp ee bb ss Z T35 (mkF mm 216 _ [.int 1]) _ _ _
 refine o_ireturnN K X35 .boolean at_216 rfl (by simp) (z' := 1) (by decide) ?_ (by decide) (by decide)
 exact hQ _ _ rfl
 refine o_new K X0 (w196 hw) (w197 hw) (w198 hw) at_126 rfl (by decide) (by decide) ?_
 intro T36 h36 b36 X36 g36 E36 A36 D36 G36
 have F36_file : Fld Z h36 b36 z4 "file" "Ljava/lang/String;" .null := (D36 (Or.inr (w218 hw)) (ty := (.object z0)) (by decide))
 have F36_index : Fld Z h36 b36 z4 "index" "I" (.int 0) := (D36 (Or.inr (w220 hw)) (ty := .int) (by decide))
 have F36_inJoined : Fld Z h36 b36 z4 "inJoined" "Z" (.int 0) := (D36 (Or.inr (w222 hw)) (ty := .boolean) (by decide))
 refine o_dup K X36 at_129 rfl rfl ?_
 refine o_iloadN K X36 at_130 rfl rfl ?_
 refine o_bipush K X36 at_131 rfl (z := 8) rfl ?_
 refine o_iushr K X36 at_133 rfl (z := ((i2.toUInt32 >>> ((8 : Int32) &&& 31).toUInt32).toInt32)) rfl ?_
 refine o_sipush K X36 at_134 rfl (z := 255) rfl ?_
 refine o_iand K X36 at_137 rfl (z := (((i2.toUInt32 >>> ((8 : Int32) &&& 31).toUInt32).toInt32) &&& (255 : Int32))) rfl ?_
 refine o_i2c K X36 at_138 rfl (z := (((i2.toUInt32 >>> ((8 : Int32) &&& 31).toUInt32).toInt32) &&& (255 : Int32))) (oNarMask ((i2.toUInt32 >>> ((8 : Int32) &&& 31).toUInt32).toInt32) (by decide)) ?_
 refine o_static K X36  (w199 hw) (w200 hw) (w39 hw) (w201 hw) (by decide) (rm_valueof l Z a0 hw (((i2.toUInt32 >>> ((8 : Int32) &&& 31).toUInt32).toInt32) &&& (255 : Int32)) cs h36 (oMask255 _) q16 q17) (by decide) rfl (argsL := [(.int (((i2.toUInt32 >>> ((8 : Int32) &&& 31).toUInt32).toInt32) &&& (255 : Int32)))]) rfl (lenOf pd29 rfl) (W := 2) rfl (by decide) (by decide) (by decide) at_139 rfl ?_
 intro v37 T37 h37 X37 U37
 obtain ⟨r_37, vb_37, k_37, rfl, u37_0, u37_1, u37_2, u37_3, u37_4, u37_5, u37_6⟩ := U37
 have G37_r : Z.heap.size ≤ r_37 := Nat.le_trans X36.ext0.1 u37_1
 have G37_vb : Z.heap.size ≤ vb_37 := Nat.le_trans X36.ext0.1 u37_5
 show oGoes pp ee bb ss Z T37 (mkF mm 142 _ [.ref r_37, .ref b36, .ref b36]) _ _ _
 refine o_iload K X37 at_142 rfl rfl ?_
 refine o_iload K X37 at_144 rfl rfl ?_
 have m38 := (A36.keep u37_0)
 have m39 := (F36_file.keep u37_0 nin0)
 have m40 := (F36_index.keep u37_0 nin0)
 have m41 := (F36_inJoined.keep u37_0 nin0)
 refine o_special K X37 (y := (⟨z4, "<init>", "(Ljava/lang/String;IZ)V"⟩ : MethodName)) rfl (w213 hw) (w214 hw) (w198 hw) (w215 hw) (by decide) (rm_dcol0 l Z a0 hw b36 r_37 1 h37 m38 G36 m39 m40 m41) (by decide) rfl (argsL := [.ref r_37, .int 1, .int 0]) rfl (lenOf pd30 rfl) (W := 1) rfl (by decide) (by decide) (by decide) at_146 rfl ?_
 intro v42 T42 h42 X42 U42
 obtain ⟨rfl, u42_0, u42_1, u42_2, u42_3, u42_4⟩ := U42
 show oGoes pp ee bb ss Z T42 (mkF mm 149 _ [.ref b36]) _ _ _
 refine o_astore K X42 at_149 rfl rfl (L' := #[vI i0, vI i1, vI i2, vJ i3, sS, vI i4, vI i5, vI n, vI m, vI 0, vI nm, vI size, vI 1, vR w, .val mt, vR b36, uS, uS, uS]) rfl ?_
 refine o_new K X42 (w223 hw) (w224 hw) (w225 hw) at_151 rfl (by decide) (by decide) ?_
 intro T43 h43 b43 X43 g43 E43 A43 D43 G43
 have F43_row : Fld Z h43 b43 z6 "row" z16 .null := (D43 (Or.inr (w231 hw)) (ty := (.object z2)) (by decide))
 have F43_match : Fld Z h43 b43 z6 "match" z16 .null := (D43 (Or.inr (w233 hw)) (ty := (.object z2)) (by decide))
 refine o_dup K X43 at_154 rfl rfl ?_
 refine o_aload K X43 at_155 rfl rfl rfl ?_
 refine o_aload K X43 at_157 rfl rfl q20 ?_
 refine o_special K X43 (y := (⟨z6, "<init>", z21⟩ : MethodName)) rfl (w226 hw) (w227 hw) (w225 hw) (w228 hw) (by decide) (rm_drow l Z a0 hw b43 w mt h43 q20 A43 G43 F43_row F43_match) (by decide) rfl (argsL := [.ref w, mt]) rfl (lenOf pd31 rfl) (W := 1) rfl (by decide) (by decide) (by decide) at_159 rfl ?_
 intro v44 T44 h44 X44 U44
 obtain ⟨rfl, u44_0, u44_1, u44_2, u44_3⟩ := U44
 show oGoes pp ee bb ss Z T44 (mkF mm 162 _ [.ref b43]) _ _ _
 refine o_astore K X44 at_162 rfl rfl (L' := #[vI i0, vI i1, vI i2, vJ i3, sS, vI i4, vI i5, vI n, vI m, vI 0, vI nm, vI size, vI 1, vR w, .val mt, vR b36, vR b43, uS, uS]) rfl ?_
 refine o_aload K X44 at_164 rfl rfl rfl ?_
 refine o_aload K X44 at_166 rfl rfl rfl ?_
 have m45 := ((u42_1.ext E43).keep u44_0)
 have n46 := oLn A36.lt (Nat.le_trans u37_0.1 u42_0.1) (oLe g43)
 have m47 := ((u42_4.ext E43).keep u44_0 (ninS n46 nin0))
 have m48 := ((u42_3.ext E43).keep u44_0 (ninS n46 nin0))
 have m49 := (((((q1.ext E36).keep u37_0).keep u42_0).ext E43).keep u44_0)
 have n50 := oLz q1.lt (oLe g36)
 have y0_3 := Nat.le_trans (Nat.le_trans E36.1 u37_0.1) u42_0.1
 have n51 := oLn q1.lt y0_3 (oLe g43)
 have m52 := (((((q2.ext E36).keep u37_0 nin0).keep u42_0 (ninS n50 nin0)).ext E43).keep u44_0 (ninS n51 nin0))
 have m53 := (((((q3.ext E36).keep u37_0).keep u42_0).ext E43).keep u44_0)
 have n54 := oLz q3.lt (oLe g36)
 have n55 := oLn q3.lt y0_3 (oLe g43)
 have m56 := (((((q4.ext E36).keep u37_0 nin0).keep u42_0 (ninS n54 nin0)).ext E43).keep u44_0 (ninS n55 nin0))
 have m57 := (((((q5.ext E36).keep u37_0 nin0).keep u42_0 (ninS n54 nin0)).ext E43).keep u44_0 (ninS n55 nin0))
 have m58 := (((((q10.ext E36).keep u37_0).keep u42_0).ext E43).keep u44_0)
 refine o_virtual K X44   (w234 hw) (w235 hw) (oNF (w237 hw)) (w237 hw) (w236 hw) (w225 hw) (w238 hw) (by decide) u44_1 (rm_val0_2_1 l Z a0 hw b43 b36 w q s0 s1 em h44 u44_1 m45 m47 m48 u44_2 m49 m52 m53 m56 m57 m58 q15 q18 q19) (by decide) rfl (argsL := [.ref b36]) rfl (lenOf pd32 rfl) (W := 0) rfl (by decide) (by decide) (by decide) at_168 rfl ?_
 intro v59 T59 h59 X59 U59
 obtain ⟨rfl, rfl⟩ := U59
 show oGoes pp ee bb ss Z T59 (mkF mm 171 _ [.ref s1]) _ _ _
 refine o_astore K X59 at_171 rfl rfl (L' := #[vI i0, vI i1, vI i2, vJ i3, sS, vI i4, vI i5, vI n, vI m, vI 0, vI nm, vI size, vI 1, vR w, .val mt, vR b36, vR b43, vR s1, uS]) rfl ?_
 refine o_iload K X59 at_173 rfl rfl ?_
 refine o_if_eq_t K X59 at_175 (by decide) (pc' := 195) (by decide) (by decide) ?_
 refine o_bipush K X59 at_195 rfl (z := 97) rfl ?_
 refine o_iload K X59 at_197 rfl rfl ?_
 refine o_iadd K X59 at_199 rfl (z := 98) (by decide) ?_
 refine o_i2c K X59 at_200 rfl (z := 98) (by decide) ?_
 refine o_lloadN K X59 at_201 rfl rfl ?_
 refine o_iload K X59 at_202 rfl rfl ?_
 refine o_static K X59  (w34 hw) (w35 hw) (w6 hw) (w36 hw) (by decide) (rm_field l Z a0 hw 98 i3 1 cs h44 (by decide) (by decide) q16 q17) (by decide) rfl (argsL := [.int 98, (.long i3), .int 1]) rfl (lenOf pd13 rfl) (W := 0) rfl (by decide) (by decide) (by decide) at_204 rfl ?_
 intro v60 T60 h60 X60 U60
 obtain ⟨s_60, sv_60, kv_60, rfl, u60_0, u60_1, u60_2, u60_3, u60_4, u60_5, u60_6⟩ := U60
 have G60_s : Z.heap.size ≤ s_60 := Nat.le_trans X59.ext0.1 u60_1
 have G60_sv : Z.heap.size ≤ sv_60 := Nat.le_trans X59.ext0.1 u60_2
 show oGoes pp ee bb ss Z T60 (mkF mm 207 _ [.ref s_60]) _ _ _
 refine o_astore K X60 at_207 rfl rfl (L' := #[vI i0, vI i1, vI i2, vJ i3, sS, vI i4, vI i5, vI n, vI m, vI 0, vI nm, vI size, vI 1, vR w, .val mt, vR b36, vR b43, vR s1, vR s_60]) rfl ?_
 refine o_aload K X60 at_209 rfl rfl rfl ?_
 refine o_aload K X60 at_211 rfl rfl rfl ?_
 have m61 := (m58.keep u60_0)
 have n62 := oLz q10.lt (oLe g36)
 have n63 := oLn q10.lt y0_3 (oLe g43)
 have m64 := ((((((q11.ext E36).keep u37_0 nin0).keep u42_0 (ninS n62 nin0)).ext E43).keep u44_0 (ninS n63 nin0)).keep u60_0 nin0)
 have m65 := ((((((q12.ext E36).keep u37_0 nin0).keep u42_0 (ninS n62 nin0)).ext E43).keep u44_0 (ninS n63 nin0)).keep u60_0 nin0)
 have n66 := oLz q13.lt (oLe g36)
 have n67 := oLn q13.lt y0_3 (oLe g43)
 have m68 := ((((((q13.ext E36).keep u37_0 nin0).keep u42_0 (ninS n66 nin0)).ext E43).keep u44_0 (ninS n67 nin0)).keep u60_0 nin0)
 have y0_5 := Nat.le_trans (Nat.le_trans y0_3 E43.1) u44_0.1
 have n69 := oLsn q10.lt y0_5 u60_1
 refine o_virtual K X60   (w269 hw) (w270 hw) (oNF (w272 hw)) (w272 hw) (w271 hw) (w39 hw) (w273 hw) (by decide) u60_3 (rm_streq l Z a0 hw s_60 s1 sv_60 vz1 kv_60 kz1 (nar .byte (98 : Int32)) (nar .byte (oFx i3 (1 : Int32))) (nar .byte (98 : Int32)) (nar .byte (oFx i3 (1 : Int32))) cs h60 u60_3 u60_4 u60_5 u60_6 m61 m64 m65 m68 n69 rfl rfl q16 q17) (by decide) rfl (argsL := [.ref s1]) rfl (lenOf pd14 rfl) (W := 0) rfl (by decide) (by decide) (by decide) at_213 rfl ?_
 intro v70 T70 h70 X70 U70
 obtain ⟨rfl, rfl⟩ := U70
 show oGoes pp ee bb ss Z T70 (mkF mm 216 _ [.int 1]) _ _ _
 refine o_ireturnN K X70 .boolean at_216 rfl (by simp) (z' := 1) (by decide) ?_ (by decide) (by decide)
 exact hQ _ _ rfl
def Q_lw0_3 (Z : State) (i0 i1 i2 : Int32) (i3 : Int64) (i4 i5 n m nm size idx : Int32) (mt : Value) (w q y : Addr) (ky : ClassId) (s0 vz0 : Addr) (kz0 : ClassId) (s1 vz1 : Addr) (kz1 : ClassId) (s2 vz2 : Addr) (kz2 : ClassId) (cs : Int32) (h0 : Heap) (v : Option Value) (h : Heap) : Prop := v = some (.int 1)
theorem tl_lw0_3 (l : Launch) (Z : State) (a0 : Array Value) (hw : oHw Z a0) (i0 i1 i2 : Int32) (i3 : Int64) (i4 i5 n m nm size idx : Int32) (mt : Value) (w q y : Addr) (ky : ClassId) (s0 vz0 : Addr) (kz0 : ClassId) (s1 vz1 : Addr) (kz1 : ClassId) (s2 vz2 : Addr) (kz2 : ClassId) (cs : Int32) (h0 : Heap) (q0 : idx = (0 : Int32) ∨ idx = (1 : Int32) ∨ idx = (2 : Int32)) (q1 : Exa Z h0 w z2) (q2 : Fld Z h0 w z2 "fields" z11 (.ref q)) (q3 : Exa Z h0 q z9) (q4 : Fld Z h0 q z9 "elements" z5 (.ref y)) (q5 : oArr Z h0 y ky (.object z3) [.ref s0, .ref s1, .ref s2]) (q6 : Exa Z h0 s0 z0) (q7 : Fld Z h0 s0 z0 "value" "[B" (.ref vz0)) (q8 : Fld Z h0 s0 z0 "coder" "B" (.int 0)) (q9 : oArr Z h0 vz0 kz0 .byte [(.int (nar .byte (97 : Int32))), (.int (nar .byte (oFx i3 (0 : Int32))))]) (q10 : Exa Z h0 s1 z0) (q11 : Fld Z h0 s1 z0 "value" "[B" (.ref vz1)) (q12 : Fld Z h0 s1 z0 "coder" "B" (.int 0)) (q13 : oArr Z h0 vz1 kz1 .byte [(.int (nar .byte (98 : Int32))), (.int (nar .byte (oFx i3 (1 : Int32))))]) (q14 : Exa Z h0 s2 z0) (q15 : Fld Z h0 s2 z0 "value" "[B" (.ref vz2)) (q16 : Fld Z h0 s2 z0 "coder" "B" (.int 0)) (q17 : oArr Z h0 vz2 kz2 .byte [(.int (nar .byte (99 : Int32))), (.int (nar .byte (oFx i3 (2 : Int32))))]) (q18 : Z.heap.size ≤ s0) (q19 : Z.heap.size ≤ s1) (q20 : Z.heap.size ≤ s2) (q21 : Sta Z Z.heap z0 "COMPACT_STRINGS" "Z" (.int cs)) (q22 : ¬ (cs = (0 : Int32))) (q23 : mt.isRef = true) {Q : Option Value → Heap → Prop} (hQ : ∀ v h, Q_lw0_3 Z i0 i1 i2 i3 i4 i5 n m nm size idx mt w q y ky s0 vz0 kz0 s1 vz1 kz1 s2 vz2 kz2 cs h0 v h → Q v h) {pp : Program} {ee : Env} {ss : State} {mm : MethodId} {bb : List Frame} {mtd : Method} {cc : Code} {A : Array Value} {T0 : State} (K : oCtx pp ss mm mtd cc Z z12 code maxLocals "law" ret x) (X0 : oSt pp l ee room_1 ss mm A bb mtd cc Z T0 h0 46 150) : oGoes pp ee bb ss Z T0 (mkF mm 126 #[vI i0, vI i1, vI i2, vJ i3, sS, vI i4, vI i5, vI n, vI m, vI 0, vI nm, vI size, vI idx, vR w, .val mt, uS, uS, uS, uS] []) Q room_1.cells room_1.slots := by
 have E0 := X0.ext0
 rcases q0 with rfl | rfl | rfl
 refine o_new K X0 (w196 hw) (w197 hw) (w198 hw) at_126 rfl (by decide) (by decide) ?_
 intro T1 h1 b1 X1 g1 E1 A1 D1 G1
 have F1_file : Fld Z h1 b1 z4 "file" "Ljava/lang/String;" .null := (D1 (Or.inr (w218 hw)) (ty := (.object z0)) (by decide))
 have F1_index : Fld Z h1 b1 z4 "index" "I" (.int 0) := (D1 (Or.inr (w220 hw)) (ty := .int) (by decide))
 have F1_inJoined : Fld Z h1 b1 z4 "inJoined" "Z" (.int 0) := (D1 (Or.inr (w222 hw)) (ty := .boolean) (by decide))
 refine o_dup K X1 at_129 rfl rfl ?_
 refine o_iloadN K X1 at_130 rfl rfl ?_
 refine o_bipush K X1 at_131 rfl (z := 8) rfl ?_
 refine o_iushr K X1 at_133 rfl (z := ((i2.toUInt32 >>> ((8 : Int32) &&& 31).toUInt32).toInt32)) rfl ?_
 refine o_sipush K X1 at_134 rfl (z := 255) rfl ?_
 refine o_iand K X1 at_137 rfl (z := (((i2.toUInt32 >>> ((8 : Int32) &&& 31).toUInt32).toInt32) &&& (255 : Int32))) rfl ?_
 refine o_i2c K X1 at_138 rfl (z := (((i2.toUInt32 >>> ((8 : Int32) &&& 31).toUInt32).toInt32) &&& (255 : Int32))) (oNarMask ((i2.toUInt32 >>> ((8 : Int32) &&& 31).toUInt32).toInt32) (by decide)) ?_
 refine o_static K X1  (w199 hw) (w200 hw) (w39 hw) (w201 hw) (by decide) (rm_valueof l Z a0 hw (((i2.toUInt32 >>> ((8 : Int32) &&& 31).toUInt32).toInt32) &&& (255 : Int32)) cs h1 (oMask255 _) q21 q22) (by decide) rfl (argsL := [(.int (((i2.toUInt32 >>> ((8 : Int32) &&& 31).toUInt32).toInt32) &&& (255 : Int32)))]) rfl (lenOf pd29 rfl) (W := 2) rfl (by decide) (by decide) (by decide) at_139 rfl ?_
 intro v2 T2 h2 X2 U2
 obtain ⟨r_2, vb_2, k_2, rfl, u2_0, u2_1, u2_2, u2_3, u2_4, u2_5, u2_6⟩ := U2
 have G2_r : Z.heap.size ≤ r_2 := Nat.le_trans X1.ext0.1 u2_1
 have G2_vb : Z.heap.size ≤ vb_2 := Nat.le_trans X1.ext0.1 u2_5
 show oGoes pp ee bb ss Z T2 (mkF mm 142 _ [.ref r_2, .ref b1, .ref b1]) _ _ _
 refine o_iload K X2 at_142 rfl rfl ?_
 refine o_iload K X2 at_144 rfl rfl ?_
 have m3 := (A1.keep u2_0)
 have m4 := (F1_file.keep u2_0 nin0)
 have m5 := (F1_index.keep u2_0 nin0)
 have m6 := (F1_inJoined.keep u2_0 nin0)
 refine o_special K X2 (y := (⟨z4, "<init>", "(Ljava/lang/String;IZ)V"⟩ : MethodName)) rfl (w213 hw) (w214 hw) (w198 hw) (w215 hw) (by decide) (rm_dcol0 l Z a0 hw b1 r_2 0 h2 m3 G1 m4 m5 m6) (by decide) rfl (argsL := [.ref r_2, .int 0, .int 0]) rfl (lenOf pd30 rfl) (W := 1) rfl (by decide) (by decide) (by decide) at_146 rfl ?_
 intro v7 T7 h7 X7 U7
 obtain ⟨rfl, u7_0, u7_1, u7_2, u7_3, u7_4⟩ := U7
 show oGoes pp ee bb ss Z T7 (mkF mm 149 _ [.ref b1]) _ _ _
 refine o_astore K X7 at_149 rfl rfl (L' := #[vI i0, vI i1, vI i2, vJ i3, sS, vI i4, vI i5, vI n, vI m, vI 0, vI nm, vI size, vI 0, vR w, .val mt, vR b1, uS, uS, uS]) rfl ?_
 refine o_new K X7 (w223 hw) (w224 hw) (w225 hw) at_151 rfl (by decide) (by decide) ?_
 intro T8 h8 b8 X8 g8 E8 A8 D8 G8
 have F8_row : Fld Z h8 b8 z6 "row" z16 .null := (D8 (Or.inr (w231 hw)) (ty := (.object z2)) (by decide))
 have F8_match : Fld Z h8 b8 z6 "match" z16 .null := (D8 (Or.inr (w233 hw)) (ty := (.object z2)) (by decide))
 refine o_dup K X8 at_154 rfl rfl ?_
 refine o_aload K X8 at_155 rfl rfl rfl ?_
 refine o_aload K X8 at_157 rfl rfl q23 ?_
 refine o_special K X8 (y := (⟨z6, "<init>", z21⟩ : MethodName)) rfl (w226 hw) (w227 hw) (w225 hw) (w228 hw) (by decide) (rm_drow l Z a0 hw b8 w mt h8 q23 A8 G8 F8_row F8_match) (by decide) rfl (argsL := [.ref w, mt]) rfl (lenOf pd31 rfl) (W := 1) rfl (by decide) (by decide) (by decide) at_159 rfl ?_
 intro v9 T9 h9 X9 U9
 obtain ⟨rfl, u9_0, u9_1, u9_2, u9_3⟩ := U9
 show oGoes pp ee bb ss Z T9 (mkF mm 162 _ [.ref b8]) _ _ _
 refine o_astore K X9 at_162 rfl rfl (L' := #[vI i0, vI i1, vI i2, vJ i3, sS, vI i4, vI i5, vI n, vI m, vI 0, vI nm, vI size, vI 0, vR w, .val mt, vR b1, vR b8, uS, uS]) rfl ?_
 refine o_aload K X9 at_164 rfl rfl rfl ?_
 refine o_aload K X9 at_166 rfl rfl rfl ?_
 have m10 := ((u7_1.ext E8).keep u9_0)
 have n11 := oLn A1.lt (Nat.le_trans u2_0.1 u7_0.1) (oLe g8)
 have m12 := ((u7_4.ext E8).keep u9_0 (ninS n11 nin0))
 have m13 := ((u7_3.ext E8).keep u9_0 (ninS n11 nin0))
 have m14 := (((((q1.ext E1).keep u2_0).keep u7_0).ext E8).keep u9_0)
 have n15 := oLz q1.lt (oLe g1)
 have y0_3 := Nat.le_trans (Nat.le_trans E1.1 u2_0.1) u7_0.1
 have n16 := oLn q1.lt y0_3 (oLe g8)
 have m17 := (((((q2.ext E1).keep u2_0 nin0).keep u7_0 (ninS n15 nin0)).ext E8).keep u9_0 (ninS n16 nin0))
 have m18 := (((((q3.ext E1).keep u2_0).keep u7_0).ext E8).keep u9_0)
 have n19 := oLz q3.lt (oLe g1)
 have n20 := oLn q3.lt y0_3 (oLe g8)
 have m21 := (((((q4.ext E1).keep u2_0 nin0).keep u7_0 (ninS n19 nin0)).ext E8).keep u9_0 (ninS n20 nin0))
 have n22 := oLz q5.lt (oLe g1)
 have n23 := oLn q5.lt y0_3 (oLe g8)
 have m24 := (((((q5.ext E1).keep u2_0 nin0).keep u7_0 (ninS n22 nin0)).ext E8).keep u9_0 (ninS n23 nin0))
 have m25 := (((((q6.ext E1).keep u2_0).keep u7_0).ext E8).keep u9_0)
 refine o_virtual K X9   (w234 hw) (w235 hw) (oNF (w237 hw)) (w237 hw) (w236 hw) (w225 hw) (w238 hw) (by decide) u9_1 (rm_val0_3_0 l Z a0 hw b8 b1 w q y ky s0 s1 s2 h9 u9_1 m10 m12 m13 u9_2 m14 m17 m18 m21 m24 m25) (by decide) rfl (argsL := [.ref b1]) rfl (lenOf pd32 rfl) (W := 0) rfl (by decide) (by decide) (by decide) at_168 rfl ?_
 intro v26 T26 h26 X26 U26
 obtain ⟨rfl, rfl⟩ := U26
 show oGoes pp ee bb ss Z T26 (mkF mm 171 _ [.ref s0]) _ _ _
 refine o_astore K X26 at_171 rfl rfl (L' := #[vI i0, vI i1, vI i2, vJ i3, sS, vI i4, vI i5, vI n, vI m, vI 0, vI nm, vI size, vI 0, vR w, .val mt, vR b1, vR b8, vR s0, uS]) rfl ?_
 refine o_iload K X26 at_173 rfl rfl ?_
 refine o_if_eq_t K X26 at_175 (by decide) (pc' := 195) (by decide) (by decide) ?_
 refine o_bipush K X26 at_195 rfl (z := 97) rfl ?_
 refine o_iload K X26 at_197 rfl rfl ?_
 refine o_iadd K X26 at_199 rfl (z := 97) (by decide) ?_
 refine o_i2c K X26 at_200 rfl (z := 97) (by decide) ?_
 refine o_lloadN K X26 at_201 rfl rfl ?_
 refine o_iload K X26 at_202 rfl rfl ?_
 refine o_static K X26  (w34 hw) (w35 hw) (w6 hw) (w36 hw) (by decide) (rm_field l Z a0 hw 97 i3 0 cs h9 (by decide) (by decide) q21 q22) (by decide) rfl (argsL := [.int 97, (.long i3), .int 0]) rfl (lenOf pd13 rfl) (W := 0) rfl (by decide) (by decide) (by decide) at_204 rfl ?_
 intro v27 T27 h27 X27 U27
 obtain ⟨s_27, sv_27, kv_27, rfl, u27_0, u27_1, u27_2, u27_3, u27_4, u27_5, u27_6⟩ := U27
 have G27_s : Z.heap.size ≤ s_27 := Nat.le_trans X26.ext0.1 u27_1
 have G27_sv : Z.heap.size ≤ sv_27 := Nat.le_trans X26.ext0.1 u27_2
 show oGoes pp ee bb ss Z T27 (mkF mm 207 _ [.ref s_27]) _ _ _
 refine o_astore K X27 at_207 rfl rfl (L' := #[vI i0, vI i1, vI i2, vJ i3, sS, vI i4, vI i5, vI n, vI m, vI 0, vI nm, vI size, vI 0, vR w, .val mt, vR b1, vR b8, vR s0, vR s_27]) rfl ?_
 refine o_aload K X27 at_209 rfl rfl rfl ?_
 refine o_aload K X27 at_211 rfl rfl rfl ?_
 have m28 := (m25.keep u27_0)
 have n29 := oLz q6.lt (oLe g1)
 have n30 := oLn q6.lt y0_3 (oLe g8)
 have m31 := ((((((q7.ext E1).keep u2_0 nin0).keep u7_0 (ninS n29 nin0)).ext E8).keep u9_0 (ninS n30 nin0)).keep u27_0 nin0)
 have m32 := ((((((q8.ext E1).keep u2_0 nin0).keep u7_0 (ninS n29 nin0)).ext E8).keep u9_0 (ninS n30 nin0)).keep u27_0 nin0)
 have n33 := oLz q9.lt (oLe g1)
 have n34 := oLn q9.lt y0_3 (oLe g8)
 have m35 := ((((((q9.ext E1).keep u2_0 nin0).keep u7_0 (ninS n33 nin0)).ext E8).keep u9_0 (ninS n34 nin0)).keep u27_0 nin0)
 have y0_5 := Nat.le_trans (Nat.le_trans y0_3 E8.1) u9_0.1
 have n36 := oLsn q6.lt y0_5 u27_1
 refine o_virtual K X27   (w269 hw) (w270 hw) (oNF (w272 hw)) (w272 hw) (w271 hw) (w39 hw) (w273 hw) (by decide) u27_3 (rm_streq l Z a0 hw s_27 s0 sv_27 vz0 kv_27 kz0 (nar .byte (97 : Int32)) (nar .byte (oFx i3 (0 : Int32))) (nar .byte (97 : Int32)) (nar .byte (oFx i3 (0 : Int32))) cs h27 u27_3 u27_4 u27_5 u27_6 m28 m31 m32 m35 n36 rfl rfl q21 q22) (by decide) rfl (argsL := [.ref s0]) rfl (lenOf pd14 rfl) (W := 0) rfl (by decide) (by decide) (by decide) at_213 rfl ?_
 intro v37 T37 h37 X37 U37
 obtain ⟨rfl, rfl⟩ := U37
 show oGoes pp ee bb ss Z T37 (mkF mm 216 _ [.int 1]) _ _ _
 refine o_ireturnN K X37 .boolean at_216 rfl (by simp) (z' := 1) (by decide) ?_ (by decide) (by decide)
 exact hQ _ _ rfl
 refine o_new K X0 (w196 hw) (w197 hw) (w198 hw) at_126 rfl (by decide) (by decide) ?_
 intro T38 h38 b38 X38 g38 E38 A38 D38 G38
 have F38_file : Fld Z h38 b38 z4 "file" "Ljava/lang/String;" .null := (D38 (Or.inr (w218 hw)) (ty := (.object z0)) (by decide))
 have F38_index : Fld Z h38 b38 z4 "index" "I" (.int 0) := (D38 (Or.inr (w220 hw)) (ty := .int) (by decide))
 have F38_inJoined : Fld Z h38 b38 z4 "inJoined" "Z" (.int 0) := (D38 (Or.inr (w222 hw)) (ty := .boolean) (by decide))
 refine o_dup K X38 at_129 rfl rfl ?_
 refine o_iloadN K X38 at_130 rfl rfl ?_
 refine o_bipush K X38 at_131 rfl (z := 8) rfl ?_
 refine o_iushr K X38 at_133 rfl (z := ((i2.toUInt32 >>> ((8 : Int32) &&& 31).toUInt32).toInt32)) rfl ?_
 refine o_sipush K X38 at_134 rfl (z := 255) rfl ?_
 refine o_iand K X38 at_137 rfl (z := (((i2.toUInt32 >>> ((8 : Int32) &&& 31).toUInt32).toInt32) &&& (255 : Int32))) rfl ?_
 refine o_i2c K X38 at_138 rfl (z := (((i2.toUInt32 >>> ((8 : Int32) &&& 31).toUInt32).toInt32) &&& (255 : Int32))) (oNarMask ((i2.toUInt32 >>> ((8 : Int32) &&& 31).toUInt32).toInt32) (by decide)) ?_
 refine o_static K X38  (w199 hw) (w200 hw) (w39 hw) (w201 hw) (by decide) (rm_valueof l Z a0 hw (((i2.toUInt32 >>> ((8 : Int32) &&& 31).toUInt32).toInt32) &&& (255 : Int32)) cs h38 (oMask255 _) q21 q22) (by decide) rfl (argsL := [(.int (((i2.toUInt32 >>> ((8 : Int32) &&& 31).toUInt32).toInt32) &&& (255 : Int32)))]) rfl (lenOf pd29 rfl) (W := 2) rfl (by decide) (by decide) (by decide) at_139 rfl ?_
 intro v39 T39 h39 X39 U39
 obtain ⟨r_39, vb_39, k_39, rfl, u39_0, u39_1, u39_2, u39_3, u39_4, u39_5, u39_6⟩ := U39
 have G39_r : Z.heap.size ≤ r_39 := Nat.le_trans X38.ext0.1 u39_1
 have G39_vb : Z.heap.size ≤ vb_39 := Nat.le_trans X38.ext0.1 u39_5
 show oGoes pp ee bb ss Z T39 (mkF mm 142 _ [.ref r_39, .ref b38, .ref b38]) _ _ _
 refine o_iload K X39 at_142 rfl rfl ?_
 refine o_iload K X39 at_144 rfl rfl ?_
 have m40 := (A38.keep u39_0)
 have m41 := (F38_file.keep u39_0 nin0)
 have m42 := (F38_index.keep u39_0 nin0)
 have m43 := (F38_inJoined.keep u39_0 nin0)
 refine o_special K X39 (y := (⟨z4, "<init>", "(Ljava/lang/String;IZ)V"⟩ : MethodName)) rfl (w213 hw) (w214 hw) (w198 hw) (w215 hw) (by decide) (rm_dcol0 l Z a0 hw b38 r_39 1 h39 m40 G38 m41 m42 m43) (by decide) rfl (argsL := [.ref r_39, .int 1, .int 0]) rfl (lenOf pd30 rfl) (W := 1) rfl (by decide) (by decide) (by decide) at_146 rfl ?_
 intro v44 T44 h44 X44 U44
 obtain ⟨rfl, u44_0, u44_1, u44_2, u44_3, u44_4⟩ := U44
 show oGoes pp ee bb ss Z T44 (mkF mm 149 _ [.ref b38]) _ _ _
 refine o_astore K X44 at_149 rfl rfl (L' := #[vI i0, vI i1, vI i2, vJ i3, sS, vI i4, vI i5, vI n, vI m, vI 0, vI nm, vI size, vI 1, vR w, .val mt, vR b38, uS, uS, uS]) rfl ?_
 refine o_new K X44 (w223 hw) (w224 hw) (w225 hw) at_151 rfl (by decide) (by decide) ?_
 intro T45 h45 b45 X45 g45 E45 A45 D45 G45
 have F45_row : Fld Z h45 b45 z6 "row" z16 .null := (D45 (Or.inr (w231 hw)) (ty := (.object z2)) (by decide))
 have F45_match : Fld Z h45 b45 z6 "match" z16 .null := (D45 (Or.inr (w233 hw)) (ty := (.object z2)) (by decide))
 refine o_dup K X45 at_154 rfl rfl ?_
 refine o_aload K X45 at_155 rfl rfl rfl ?_
 refine o_aload K X45 at_157 rfl rfl q23 ?_
 refine o_special K X45 (y := (⟨z6, "<init>", z21⟩ : MethodName)) rfl (w226 hw) (w227 hw) (w225 hw) (w228 hw) (by decide) (rm_drow l Z a0 hw b45 w mt h45 q23 A45 G45 F45_row F45_match) (by decide) rfl (argsL := [.ref w, mt]) rfl (lenOf pd31 rfl) (W := 1) rfl (by decide) (by decide) (by decide) at_159 rfl ?_
 intro v46 T46 h46 X46 U46
 obtain ⟨rfl, u46_0, u46_1, u46_2, u46_3⟩ := U46
 show oGoes pp ee bb ss Z T46 (mkF mm 162 _ [.ref b45]) _ _ _
 refine o_astore K X46 at_162 rfl rfl (L' := #[vI i0, vI i1, vI i2, vJ i3, sS, vI i4, vI i5, vI n, vI m, vI 0, vI nm, vI size, vI 1, vR w, .val mt, vR b38, vR b45, uS, uS]) rfl ?_
 refine o_aload K X46 at_164 rfl rfl rfl ?_
 refine o_aload K X46 at_166 rfl rfl rfl ?_
 have m47 := ((u44_1.ext E45).keep u46_0)
 have n48 := oLn A38.lt (Nat.le_trans u39_0.1 u44_0.1) (oLe g45)
 have m49 := ((u44_4.ext E45).keep u46_0 (ninS n48 nin0))
 have m50 := ((u44_3.ext E45).keep u46_0 (ninS n48 nin0))
 have m51 := (((((q1.ext E38).keep u39_0).keep u44_0).ext E45).keep u46_0)
 have n52 := oLz q1.lt (oLe g38)
 have y0_3 := Nat.le_trans (Nat.le_trans E38.1 u39_0.1) u44_0.1
 have n53 := oLn q1.lt y0_3 (oLe g45)
 have m54 := (((((q2.ext E38).keep u39_0 nin0).keep u44_0 (ninS n52 nin0)).ext E45).keep u46_0 (ninS n53 nin0))
 have m55 := (((((q3.ext E38).keep u39_0).keep u44_0).ext E45).keep u46_0)
 have n56 := oLz q3.lt (oLe g38)
 have n57 := oLn q3.lt y0_3 (oLe g45)
 have m58 := (((((q4.ext E38).keep u39_0 nin0).keep u44_0 (ninS n56 nin0)).ext E45).keep u46_0 (ninS n57 nin0))
 have n59 := oLz q5.lt (oLe g38)
 have n60 := oLn q5.lt y0_3 (oLe g45)
 have m61 := (((((q5.ext E38).keep u39_0 nin0).keep u44_0 (ninS n59 nin0)).ext E45).keep u46_0 (ninS n60 nin0))
 have m62 := (((((q10.ext E38).keep u39_0).keep u44_0).ext E45).keep u46_0)
 refine o_virtual K X46   (w234 hw) (w235 hw) (oNF (w237 hw)) (w237 hw) (w236 hw) (w225 hw) (w238 hw) (by decide) u46_1 (rm_val0_3_1 l Z a0 hw b45 b38 w q y ky s0 s1 s2 h46 u46_1 m47 m49 m50 u46_2 m51 m54 m55 m58 m61 m62) (by decide) rfl (argsL := [.ref b38]) rfl (lenOf pd32 rfl) (W := 0) rfl (by decide) (by decide) (by decide) at_168 rfl ?_
 intro v63 T63 h63 X63 U63
 obtain ⟨rfl, rfl⟩ := U63
 show oGoes pp ee bb ss Z T63 (mkF mm 171 _ [.ref s1]) _ _ _
 refine o_astore K X63 at_171 rfl rfl (L' := #[vI i0, vI i1, vI i2, vJ i3, sS, vI i4, vI i5, vI n, vI m, vI 0, vI nm, vI size, vI 1, vR w, .val mt, vR b38, vR b45, vR s1, uS]) rfl ?_
 refine o_iload K X63 at_173 rfl rfl ?_
 refine o_if_eq_t K X63 at_175 (by decide) (pc' := 195) (by decide) (by decide) ?_
 refine o_bipush K X63 at_195 rfl (z := 97) rfl ?_
 refine o_iload K X63 at_197 rfl rfl ?_
 refine o_iadd K X63 at_199 rfl (z := 98) (by decide) ?_
 refine o_i2c K X63 at_200 rfl (z := 98) (by decide) ?_
 refine o_lloadN K X63 at_201 rfl rfl ?_
 refine o_iload K X63 at_202 rfl rfl ?_
 refine o_static K X63  (w34 hw) (w35 hw) (w6 hw) (w36 hw) (by decide) (rm_field l Z a0 hw 98 i3 1 cs h46 (by decide) (by decide) q21 q22) (by decide) rfl (argsL := [.int 98, (.long i3), .int 1]) rfl (lenOf pd13 rfl) (W := 0) rfl (by decide) (by decide) (by decide) at_204 rfl ?_
 intro v64 T64 h64 X64 U64
 obtain ⟨s_64, sv_64, kv_64, rfl, u64_0, u64_1, u64_2, u64_3, u64_4, u64_5, u64_6⟩ := U64
 have G64_s : Z.heap.size ≤ s_64 := Nat.le_trans X63.ext0.1 u64_1
 have G64_sv : Z.heap.size ≤ sv_64 := Nat.le_trans X63.ext0.1 u64_2
 show oGoes pp ee bb ss Z T64 (mkF mm 207 _ [.ref s_64]) _ _ _
 refine o_astore K X64 at_207 rfl rfl (L' := #[vI i0, vI i1, vI i2, vJ i3, sS, vI i4, vI i5, vI n, vI m, vI 0, vI nm, vI size, vI 1, vR w, .val mt, vR b38, vR b45, vR s1, vR s_64]) rfl ?_
 refine o_aload K X64 at_209 rfl rfl rfl ?_
 refine o_aload K X64 at_211 rfl rfl rfl ?_
 have m65 := (m62.keep u64_0)
 have n66 := oLz q10.lt (oLe g38)
 have n67 := oLn q10.lt y0_3 (oLe g45)
 have m68 := ((((((q11.ext E38).keep u39_0 nin0).keep u44_0 (ninS n66 nin0)).ext E45).keep u46_0 (ninS n67 nin0)).keep u64_0 nin0)
 have m69 := ((((((q12.ext E38).keep u39_0 nin0).keep u44_0 (ninS n66 nin0)).ext E45).keep u46_0 (ninS n67 nin0)).keep u64_0 nin0)
 have n70 := oLz q13.lt (oLe g38)
 have n71 := oLn q13.lt y0_3 (oLe g45)
 have m72 := ((((((q13.ext E38).keep u39_0 nin0).keep u44_0 (ninS n70 nin0)).ext E45).keep u46_0 (ninS n71 nin0)).keep u64_0 nin0)
 have y0_5 := Nat.le_trans (Nat.le_trans y0_3 E45.1) u46_0.1
 have n73 := oLsn q10.lt y0_5 u64_1
 refine o_virtual K X64   (w269 hw) (w270 hw) (oNF (w272 hw)) (w272 hw) (w271 hw) (w39 hw) (w273 hw) (by decide) u64_3 (rm_streq l Z a0 hw s_64 s1 sv_64 vz1 kv_64 kz1 (nar .byte (98 : Int32)) (nar .byte (oFx i3 (1 : Int32))) (nar .byte (98 : Int32)) (nar .byte (oFx i3 (1 : Int32))) cs h64 u64_3 u64_4 u64_5 u64_6 m65 m68 m69 m72 n73 rfl rfl q21 q22) (by decide) rfl (argsL := [.ref s1]) rfl (lenOf pd14 rfl) (W := 0) rfl (by decide) (by decide) (by decide) at_213 rfl ?_
 intro v74 T74 h74 X74 U74
 obtain ⟨rfl, rfl⟩ := U74
 show oGoes pp ee bb ss Z T74 (mkF mm 216 _ [.int 1]) _ _ _
 refine o_ireturnN K X74 .boolean at_216 rfl (by simp) (z' := 1) (by decide) ?_ (by decide) (by decide)
 exact hQ _ _ rfl
 refine o_new K X0 (w196 hw) (w197 hw) (w198 hw) at_126 rfl (by decide) (by decide) ?_
 intro T75 h75 b75 X75 g75 E75 A75 D75 G75
 have F75_file : Fld Z h75 b75 z4 "file" "Ljava/lang/String;" .null := (D75 (Or.inr (w218 hw)) (ty := (.object z0)) (by decide))
 have F75_index : Fld Z h75 b75 z4 "index" "I" (.int 0) := (D75 (Or.inr (w220 hw)) (ty := .int) (by decide))
 have F75_inJoined : Fld Z h75 b75 z4 "inJoined" "Z" (.int 0) := (D75 (Or.inr (w222 hw)) (ty := .boolean) (by decide))
 refine o_dup K X75 at_129 rfl rfl ?_
 refine o_iloadN K X75 at_130 rfl rfl ?_
 refine o_bipush K X75 at_131 rfl (z := 8) rfl ?_
 refine o_iushr K X75 at_133 rfl (z := ((i2.toUInt32 >>> ((8 : Int32) &&& 31).toUInt32).toInt32)) rfl ?_
 refine o_sipush K X75 at_134 rfl (z := 255) rfl ?_
 refine o_iand K X75 at_137 rfl (z := (((i2.toUInt32 >>> ((8 : Int32) &&& 31).toUInt32).toInt32) &&& (255 : Int32))) rfl ?_
 refine o_i2c K X75 at_138 rfl (z := (((i2.toUInt32 >>> ((8 : Int32) &&& 31).toUInt32).toInt32) &&& (255 : Int32))) (oNarMask ((i2.toUInt32 >>> ((8 : Int32) &&& 31).toUInt32).toInt32) (by decide)) ?_
 refine o_static K X75  (w199 hw) (w200 hw) (w39 hw) (w201 hw) (by decide) (rm_valueof l Z a0 hw (((i2.toUInt32 >>> ((8 : Int32) &&& 31).toUInt32).toInt32) &&& (255 : Int32)) cs h75 (oMask255 _) q21 q22) (by decide) rfl (argsL := [(.int (((i2.toUInt32 >>> ((8 : Int32) &&& 31).toUInt32).toInt32) &&& (255 : Int32)))]) rfl (lenOf pd29 rfl) (W := 2) rfl (by decide) (by decide) (by decide) at_139 rfl ?_
 intro v76 T76 h76 X76 U76
 obtain ⟨r_76, vb_76, k_76, rfl, u76_0, u76_1, u76_2, u76_3, u76_4, u76_5, u76_6⟩ := U76
 have G76_r : Z.heap.size ≤ r_76 := Nat.le_trans X75.ext0.1 u76_1
 have G76_vb : Z.heap.size ≤ vb_76 := Nat.le_trans X75.ext0.1 u76_5
 show oGoes pp ee bb ss Z T76 (mkF mm 142 _ [.ref r_76, .ref b75, .ref b75]) _ _ _
 refine o_iload K X76 at_142 rfl rfl ?_
 refine o_iload K X76 at_144 rfl rfl ?_
 have m77 := (A75.keep u76_0)
 have m78 := (F75_file.keep u76_0 nin0)
 have m79 := (F75_index.keep u76_0 nin0)
 have m80 := (F75_inJoined.keep u76_0 nin0)
 refine o_special K X76 (y := (⟨z4, "<init>", "(Ljava/lang/String;IZ)V"⟩ : MethodName)) rfl (w213 hw) (w214 hw) (w198 hw) (w215 hw) (by decide) (rm_dcol0 l Z a0 hw b75 r_76 2 h76 m77 G75 m78 m79 m80) (by decide) rfl (argsL := [.ref r_76, .int 2, .int 0]) rfl (lenOf pd30 rfl) (W := 1) rfl (by decide) (by decide) (by decide) at_146 rfl ?_
 intro v81 T81 h81 X81 U81
 obtain ⟨rfl, u81_0, u81_1, u81_2, u81_3, u81_4⟩ := U81
 show oGoes pp ee bb ss Z T81 (mkF mm 149 _ [.ref b75]) _ _ _
 refine o_astore K X81 at_149 rfl rfl (L' := #[vI i0, vI i1, vI i2, vJ i3, sS, vI i4, vI i5, vI n, vI m, vI 0, vI nm, vI size, vI 2, vR w, .val mt, vR b75, uS, uS, uS]) rfl ?_
 refine o_new K X81 (w223 hw) (w224 hw) (w225 hw) at_151 rfl (by decide) (by decide) ?_
 intro T82 h82 b82 X82 g82 E82 A82 D82 G82
 have F82_row : Fld Z h82 b82 z6 "row" z16 .null := (D82 (Or.inr (w231 hw)) (ty := (.object z2)) (by decide))
 have F82_match : Fld Z h82 b82 z6 "match" z16 .null := (D82 (Or.inr (w233 hw)) (ty := (.object z2)) (by decide))
 refine o_dup K X82 at_154 rfl rfl ?_
 refine o_aload K X82 at_155 rfl rfl rfl ?_
 refine o_aload K X82 at_157 rfl rfl q23 ?_
 refine o_special K X82 (y := (⟨z6, "<init>", z21⟩ : MethodName)) rfl (w226 hw) (w227 hw) (w225 hw) (w228 hw) (by decide) (rm_drow l Z a0 hw b82 w mt h82 q23 A82 G82 F82_row F82_match) (by decide) rfl (argsL := [.ref w, mt]) rfl (lenOf pd31 rfl) (W := 1) rfl (by decide) (by decide) (by decide) at_159 rfl ?_
 intro v83 T83 h83 X83 U83
 obtain ⟨rfl, u83_0, u83_1, u83_2, u83_3⟩ := U83
 show oGoes pp ee bb ss Z T83 (mkF mm 162 _ [.ref b82]) _ _ _
 refine o_astore K X83 at_162 rfl rfl (L' := #[vI i0, vI i1, vI i2, vJ i3, sS, vI i4, vI i5, vI n, vI m, vI 0, vI nm, vI size, vI 2, vR w, .val mt, vR b75, vR b82, uS, uS]) rfl ?_
 refine o_aload K X83 at_164 rfl rfl rfl ?_
 refine o_aload K X83 at_166 rfl rfl rfl ?_
 have m84 := ((u81_1.ext E82).keep u83_0)
 have n85 := oLn A75.lt (Nat.le_trans u76_0.1 u81_0.1) (oLe g82)
 have m86 := ((u81_4.ext E82).keep u83_0 (ninS n85 nin0))
 have m87 := ((u81_3.ext E82).keep u83_0 (ninS n85 nin0))
 have m88 := (((((q1.ext E75).keep u76_0).keep u81_0).ext E82).keep u83_0)
 have n89 := oLz q1.lt (oLe g75)
 have y0_3 := Nat.le_trans (Nat.le_trans E75.1 u76_0.1) u81_0.1
 have n90 := oLn q1.lt y0_3 (oLe g82)
 have m91 := (((((q2.ext E75).keep u76_0 nin0).keep u81_0 (ninS n89 nin0)).ext E82).keep u83_0 (ninS n90 nin0))
 have m92 := (((((q3.ext E75).keep u76_0).keep u81_0).ext E82).keep u83_0)
 have n93 := oLz q3.lt (oLe g75)
 have n94 := oLn q3.lt y0_3 (oLe g82)
 have m95 := (((((q4.ext E75).keep u76_0 nin0).keep u81_0 (ninS n93 nin0)).ext E82).keep u83_0 (ninS n94 nin0))
 have n96 := oLz q5.lt (oLe g75)
 have n97 := oLn q5.lt y0_3 (oLe g82)
 have m98 := (((((q5.ext E75).keep u76_0 nin0).keep u81_0 (ninS n96 nin0)).ext E82).keep u83_0 (ninS n97 nin0))
 have m99 := (((((q14.ext E75).keep u76_0).keep u81_0).ext E82).keep u83_0)
 refine o_virtual K X83   (w234 hw) (w235 hw) (oNF (w237 hw)) (w237 hw) (w236 hw) (w225 hw) (w238 hw) (by decide) u83_1 (rm_val0_3_2 l Z a0 hw b82 b75 w q y ky s0 s1 s2 h83 u83_1 m84 m86 m87 u83_2 m88 m91 m92 m95 m98 m99) (by decide) rfl (argsL := [.ref b75]) rfl (lenOf pd32 rfl) (W := 0) rfl (by decide) (by decide) (by decide) at_168 rfl ?_
 intro v100 T100 h100 X100 U100
 obtain ⟨rfl, rfl⟩ := U100
 show oGoes pp ee bb ss Z T100 (mkF mm 171 _ [.ref s2]) _ _ _
 refine o_astore K X100 at_171 rfl rfl (L' := #[vI i0, vI i1, vI i2, vJ i3, sS, vI i4, vI i5, vI n, vI m, vI 0, vI nm, vI size, vI 2, vR w, .val mt, vR b75, vR b82, vR s2, uS]) rfl ?_
 refine o_iload K X100 at_173 rfl rfl ?_
 refine o_if_eq_t K X100 at_175 (by decide) (pc' := 195) (by decide) (by decide) ?_
 refine o_bipush K X100 at_195 rfl (z := 97) rfl ?_
 refine o_iload K X100 at_197 rfl rfl ?_
 refine o_iadd K X100 at_199 rfl (z := 99) (by decide) ?_
 refine o_i2c K X100 at_200 rfl (z := 99) (by decide) ?_
 refine o_lloadN K X100 at_201 rfl rfl ?_
 refine o_iload K X100 at_202 rfl rfl ?_
 refine o_static K X100  (w34 hw) (w35 hw) (w6 hw) (w36 hw) (by decide) (rm_field l Z a0 hw 99 i3 2 cs h83 (by decide) (by decide) q21 q22) (by decide) rfl (argsL := [.int 99, (.long i3), .int 2]) rfl (lenOf pd13 rfl) (W := 0) rfl (by decide) (by decide) (by decide) at_204 rfl ?_
 intro v101 T101 h101 X101 U101
 obtain ⟨s_101, sv_101, kv_101, rfl, u101_0, u101_1, u101_2, u101_3, u101_4, u101_5, u101_6⟩ := U101
 have G101_s : Z.heap.size ≤ s_101 := Nat.le_trans X100.ext0.1 u101_1
 have G101_sv : Z.heap.size ≤ sv_101 := Nat.le_trans X100.ext0.1 u101_2
 show oGoes pp ee bb ss Z T101 (mkF mm 207 _ [.ref s_101]) _ _ _
 refine o_astore K X101 at_207 rfl rfl (L' := #[vI i0, vI i1, vI i2, vJ i3, sS, vI i4, vI i5, vI n, vI m, vI 0, vI nm, vI size, vI 2, vR w, .val mt, vR b75, vR b82, vR s2, vR s_101]) rfl ?_
 refine o_aload K X101 at_209 rfl rfl rfl ?_
 refine o_aload K X101 at_211 rfl rfl rfl ?_
 have m102 := (m99.keep u101_0)
 have n103 := oLz q14.lt (oLe g75)
 have n104 := oLn q14.lt y0_3 (oLe g82)
 have m105 := ((((((q15.ext E75).keep u76_0 nin0).keep u81_0 (ninS n103 nin0)).ext E82).keep u83_0 (ninS n104 nin0)).keep u101_0 nin0)
 have m106 := ((((((q16.ext E75).keep u76_0 nin0).keep u81_0 (ninS n103 nin0)).ext E82).keep u83_0 (ninS n104 nin0)).keep u101_0 nin0)
 have n107 := oLz q17.lt (oLe g75)
 have n108 := oLn q17.lt y0_3 (oLe g82)
 have m109 := ((((((q17.ext E75).keep u76_0 nin0).keep u81_0 (ninS n107 nin0)).ext E82).keep u83_0 (ninS n108 nin0)).keep u101_0 nin0)
 have y0_5 := Nat.le_trans (Nat.le_trans y0_3 E82.1) u83_0.1
 have n110 := oLsn q14.lt y0_5 u101_1
 refine o_virtual K X101   (w269 hw) (w270 hw) (oNF (w272 hw)) (w272 hw) (w271 hw) (w39 hw) (w273 hw) (by decide) u101_3 (rm_streq l Z a0 hw s_101 s2 sv_101 vz2 kv_101 kz2 (nar .byte (99 : Int32)) (nar .byte (oFx i3 (2 : Int32))) (nar .byte (99 : Int32)) (nar .byte (oFx i3 (2 : Int32))) cs h101 u101_3 u101_4 u101_5 u101_6 m102 m105 m106 m109 n110 rfl rfl q21 q22) (by decide) rfl (argsL := [.ref s2]) rfl (lenOf pd14 rfl) (W := 0) rfl (by decide) (by decide) (by decide) at_213 rfl ?_
 intro v111 T111 h111 X111 U111
 obtain ⟨rfl, rfl⟩ := U111
 show oGoes pp ee bb ss Z T111 (mkF mm 216 _ [.int 1]) _ _ _
 refine o_ireturnN K X111 .boolean at_216 rfl (by simp) (z' := 1) (by decide) ?_ (by decide) (by decide)
 exact hQ _ _ rfl
def Q_lw1_1 (Z : State) (i0 i1 i2 : Int32) (i3 : Int64) (i4 i5 n m size idx : Int32) (rw w q s0 vz0 : Addr) (kz0 : ClassId) (cs : Int32) (em : Addr) (h0 : Heap) (v : Option Value) (h : Heap) : Prop := v = some (.int 1)
theorem tl_lw1_1 (l : Launch) (Z : State) (a0 : Array Value) (hw : oHw Z a0) (i0 i1 i2 : Int32) (i3 : Int64) (i4 i5 n m size idx : Int32) (rw w q s0 vz0 : Addr) (kz0 : ClassId) (cs : Int32) (em : Addr) (h0 : Heap) (q0 : idx = (0 : Int32)) (q1 : Exa Z h0 w z2) (q2 : Fld Z h0 w z2 "fields" z11 (.ref q)) (q3 : Exa Z h0 q z8) (q4 : Fld Z h0 q z8 "e0" z10 (.ref s0)) (q5 : Fld Z h0 q z8 "e1" z10 (.ref em)) (q6 : Exa Z h0 s0 z0) (q7 : Fld Z h0 s0 z0 "value" "[B" (.ref vz0)) (q8 : Fld Z h0 s0 z0 "coder" "B" (.int 0)) (q9 : oArr Z h0 vz0 kz0 .byte [(.int (nar .byte (100 : Int32))), (.int (nar .byte (oFx i3 (3 : Int32))))]) (q10 : Z.heap.size ≤ s0) (q11 : Sta Z Z.heap z0 "COMPACT_STRINGS" "Z" (.int cs)) (q12 : ¬ (cs = (0 : Int32))) (q13 : Sta Z Z.heap z18 "EMPTY" z10 (.ref em)) (q14 : Exa Z Z.heap em z3) {Q : Option Value → Heap → Prop} (hQ : ∀ v h, Q_lw1_1 Z i0 i1 i2 i3 i4 i5 n m size idx rw w q s0 vz0 kz0 cs em h0 v h → Q v h) {pp : Program} {ee : Env} {ss : State} {mm : MethodId} {bb : List Frame} {mtd : Method} {cc : Code} {A : Array Value} {T0 : State} (K : oCtx pp ss mm mtd cc Z z12 code maxLocals "law" ret x) (X0 : oSt pp l ee room_1 ss mm A bb mtd cc Z T0 h0 46 150) : oGoes pp ee bb ss Z T0 (mkF mm 126 #[vI i0, vI i1, vI i2, vJ i3, sS, vI i4, vI i5, vI n, vI m, vI 1, vI 0, vI size, vI idx, vR rw, vR w, uS, uS, uS, uS] []) Q room_1.cells room_1.slots := by
 have E0 := X0.ext0
 rcases q0 with rfl
 refine o_new K X0 (w196 hw) (w197 hw) (w198 hw) at_126 rfl (by decide) (by decide) ?_
 intro T1 h1 b1 X1 g1 E1 A1 D1 G1
 have F1_file : Fld Z h1 b1 z4 "file" "Ljava/lang/String;" .null := (D1 (Or.inr (w218 hw)) (ty := (.object z0)) (by decide))
 have F1_index : Fld Z h1 b1 z4 "index" "I" (.int 0) := (D1 (Or.inr (w220 hw)) (ty := .int) (by decide))
 have F1_inJoined : Fld Z h1 b1 z4 "inJoined" "Z" (.int 0) := (D1 (Or.inr (w222 hw)) (ty := .boolean) (by decide))
 refine o_dup K X1 at_129 rfl rfl ?_
 refine o_iloadN K X1 at_130 rfl rfl ?_
 refine o_bipush K X1 at_131 rfl (z := 8) rfl ?_
 refine o_iushr K X1 at_133 rfl (z := ((i2.toUInt32 >>> ((8 : Int32) &&& 31).toUInt32).toInt32)) rfl ?_
 refine o_sipush K X1 at_134 rfl (z := 255) rfl ?_
 refine o_iand K X1 at_137 rfl (z := (((i2.toUInt32 >>> ((8 : Int32) &&& 31).toUInt32).toInt32) &&& (255 : Int32))) rfl ?_
 refine o_i2c K X1 at_138 rfl (z := (((i2.toUInt32 >>> ((8 : Int32) &&& 31).toUInt32).toInt32) &&& (255 : Int32))) (oNarMask ((i2.toUInt32 >>> ((8 : Int32) &&& 31).toUInt32).toInt32) (by decide)) ?_
 refine o_static K X1  (w199 hw) (w200 hw) (w39 hw) (w201 hw) (by decide) (rm_valueof l Z a0 hw (((i2.toUInt32 >>> ((8 : Int32) &&& 31).toUInt32).toInt32) &&& (255 : Int32)) cs h1 (oMask255 _) q11 q12) (by decide) rfl (argsL := [(.int (((i2.toUInt32 >>> ((8 : Int32) &&& 31).toUInt32).toInt32) &&& (255 : Int32)))]) rfl (lenOf pd29 rfl) (W := 2) rfl (by decide) (by decide) (by decide) at_139 rfl ?_
 intro v2 T2 h2 X2 U2
 obtain ⟨r_2, vb_2, k_2, rfl, u2_0, u2_1, u2_2, u2_3, u2_4, u2_5, u2_6⟩ := U2
 have G2_r : Z.heap.size ≤ r_2 := Nat.le_trans X1.ext0.1 u2_1
 have G2_vb : Z.heap.size ≤ vb_2 := Nat.le_trans X1.ext0.1 u2_5
 show oGoes pp ee bb ss Z T2 (mkF mm 142 _ [.ref r_2, .ref b1, .ref b1]) _ _ _
 refine o_iload K X2 at_142 rfl rfl ?_
 refine o_iload K X2 at_144 rfl rfl ?_
 have m3 := (A1.keep u2_0)
 have m4 := (F1_file.keep u2_0 nin0)
 have m5 := (F1_index.keep u2_0 nin0)
 have m6 := (F1_inJoined.keep u2_0 nin0)
 refine o_special K X2 (y := (⟨z4, "<init>", "(Ljava/lang/String;IZ)V"⟩ : MethodName)) rfl (w213 hw) (w214 hw) (w198 hw) (w215 hw) (by decide) (rm_dcol1 l Z a0 hw b1 r_2 0 h2 m3 G1 m4 m5 m6) (by decide) rfl (argsL := [.ref r_2, .int 0, .int 1]) rfl (lenOf pd30 rfl) (W := 1) rfl (by decide) (by decide) (by decide) at_146 rfl ?_
 intro v7 T7 h7 X7 U7
 obtain ⟨rfl, u7_0, u7_1, u7_2, u7_3, u7_4⟩ := U7
 show oGoes pp ee bb ss Z T7 (mkF mm 149 _ [.ref b1]) _ _ _
 refine o_astore K X7 at_149 rfl rfl (L' := #[vI i0, vI i1, vI i2, vJ i3, sS, vI i4, vI i5, vI n, vI m, vI 1, vI 0, vI size, vI 0, vR rw, vR w, vR b1, uS, uS, uS]) rfl ?_
 refine o_new K X7 (w223 hw) (w224 hw) (w225 hw) at_151 rfl (by decide) (by decide) ?_
 intro T8 h8 b8 X8 g8 E8 A8 D8 G8
 have F8_row : Fld Z h8 b8 z6 "row" z16 .null := (D8 (Or.inr (w231 hw)) (ty := (.object z2)) (by decide))
 have F8_match : Fld Z h8 b8 z6 "match" z16 .null := (D8 (Or.inr (w233 hw)) (ty := (.object z2)) (by decide))
 refine o_dup K X8 at_154 rfl rfl ?_
 refine o_aload K X8 at_155 rfl rfl rfl ?_
 refine o_aload K X8 at_157 rfl rfl rfl ?_
 refine o_special K X8 (y := (⟨z6, "<init>", z21⟩ : MethodName)) rfl (w226 hw) (w227 hw) (w225 hw) (w228 hw) (by decide) (rm_drow l Z a0 hw b8 rw (.ref w) h8 rfl A8 G8 F8_row F8_match) (by decide) rfl (argsL := [.ref rw, .ref w]) rfl (lenOf pd31 rfl) (W := 1) rfl (by decide) (by decide) (by decide) at_159 rfl ?_
 intro v9 T9 h9 X9 U9
 obtain ⟨rfl, u9_0, u9_1, u9_2, u9_3⟩ := U9
 show oGoes pp ee bb ss Z T9 (mkF mm 162 _ [.ref b8]) _ _ _
 refine o_astore K X9 at_162 rfl rfl (L' := #[vI i0, vI i1, vI i2, vJ i3, sS, vI i4, vI i5, vI n, vI m, vI 1, vI 0, vI size, vI 0, vR rw, vR w, vR b1, vR b8, uS, uS]) rfl ?_
 refine o_aload K X9 at_164 rfl rfl rfl ?_
 refine o_aload K X9 at_166 rfl rfl rfl ?_
 have m10 := ((u7_1.ext E8).keep u9_0)
 have n11 := oLn A1.lt (Nat.le_trans u2_0.1 u7_0.1) (oLe g8)
 have m12 := ((u7_4.ext E8).keep u9_0 (ninS n11 nin0))
 have m13 := ((u7_3.ext E8).keep u9_0 (ninS n11 nin0))
 have m14 := (((((q1.ext E1).keep u2_0).keep u7_0).ext E8).keep u9_0)
 have n15 := oLz q1.lt (oLe g1)
 have y0_3 := Nat.le_trans (Nat.le_trans E1.1 u2_0.1) u7_0.1
 have n16 := oLn q1.lt y0_3 (oLe g8)
 have m17 := (((((q2.ext E1).keep u2_0 nin0).keep u7_0 (ninS n15 nin0)).ext E8).keep u9_0 (ninS n16 nin0))
 have m18 := (((((q3.ext E1).keep u2_0).keep u7_0).ext E8).keep u9_0)
 have n19 := oLz q3.lt (oLe g1)
 have n20 := oLn q3.lt y0_3 (oLe g8)
 have m21 := (((((q4.ext E1).keep u2_0 nin0).keep u7_0 (ninS n19 nin0)).ext E8).keep u9_0 (ninS n20 nin0))
 have m22 := (((((q5.ext E1).keep u2_0 nin0).keep u7_0 (ninS n19 nin0)).ext E8).keep u9_0 (ninS n20 nin0))
 have m23 := (((((q6.ext E1).keep u2_0).keep u7_0).ext E8).keep u9_0)
 refine o_virtual K X9   (w234 hw) (w235 hw) (oNF (w237 hw)) (w237 hw) (w236 hw) (w225 hw) (w238 hw) (by decide) u9_1 (rm_val1_1_0 l Z a0 hw b8 b1 w q s0 em h9 u9_1 m10 m12 m13 u9_3 m14 m17 m18 m21 m22 m23 q13 q14) (by decide) rfl (argsL := [.ref b1]) rfl (lenOf pd32 rfl) (W := 0) rfl (by decide) (by decide) (by decide) at_168 rfl ?_
 intro v24 T24 h24 X24 U24
 obtain ⟨rfl, rfl⟩ := U24
 show oGoes pp ee bb ss Z T24 (mkF mm 171 _ [.ref s0]) _ _ _
 refine o_astore K X24 at_171 rfl rfl (L' := #[vI i0, vI i1, vI i2, vJ i3, sS, vI i4, vI i5, vI n, vI m, vI 1, vI 0, vI size, vI 0, vR rw, vR w, vR b1, vR b8, vR s0, uS]) rfl ?_
 refine o_iload K X24 at_173 rfl rfl ?_
 refine o_if_eq_f K X24 at_175 rfl (by decide) ?_
 refine o_bipush K X24 at_178 rfl (z := 100) rfl ?_
 refine o_iload K X24 at_180 rfl rfl ?_
 refine o_iadd K X24 at_182 rfl (z := 100) (by decide) ?_
 refine o_i2c K X24 at_183 rfl (z := 100) (by decide) ?_
 refine o_lloadN K X24 at_184 rfl rfl ?_
 refine o_iconst K X24 at_185 rfl (z := 3) rfl ?_
 refine o_iload K X24 at_186 rfl rfl ?_
 refine o_iadd K X24 at_188 rfl (z := 3) (by decide) ?_
 refine o_static K X24  (w34 hw) (w35 hw) (w6 hw) (w36 hw) (by decide) (rm_field l Z a0 hw 100 i3 3 cs h9 (by decide) (by decide) q11 q12) (by decide) rfl (argsL := [.int 100, (.long i3), .int 3]) rfl (lenOf pd13 rfl) (W := 0) rfl (by decide) (by decide) (by decide) at_189 rfl ?_
 intro v25 T25 h25 X25 U25
 obtain ⟨s_25, sv_25, kv_25, rfl, u25_0, u25_1, u25_2, u25_3, u25_4, u25_5, u25_6⟩ := U25
 have G25_s : Z.heap.size ≤ s_25 := Nat.le_trans X24.ext0.1 u25_1
 have G25_sv : Z.heap.size ≤ sv_25 := Nat.le_trans X24.ext0.1 u25_2
 show oGoes pp ee bb ss Z T25 (mkF mm 192 _ [.ref s_25]) _ _ _
 refine o_goto K X25 at_192 (by decide) (pc' := 207) (by decide) ?_
 refine o_astore K X25 at_207 rfl rfl (L' := #[vI i0, vI i1, vI i2, vJ i3, sS, vI i4, vI i5, vI n, vI m, vI 1, vI 0, vI size, vI 0, vR rw, vR w, vR b1, vR b8, vR s0, vR s_25]) rfl ?_
 refine o_aload K X25 at_209 rfl rfl rfl ?_
 refine o_aload K X25 at_211 rfl rfl rfl ?_
 have m26 := (m23.keep u25_0)
 have n27 := oLz q6.lt (oLe g1)
 have n28 := oLn q6.lt y0_3 (oLe g8)
 have m29 := ((((((q7.ext E1).keep u2_0 nin0).keep u7_0 (ninS n27 nin0)).ext E8).keep u9_0 (ninS n28 nin0)).keep u25_0 nin0)
 have m30 := ((((((q8.ext E1).keep u2_0 nin0).keep u7_0 (ninS n27 nin0)).ext E8).keep u9_0 (ninS n28 nin0)).keep u25_0 nin0)
 have n31 := oLz q9.lt (oLe g1)
 have n32 := oLn q9.lt y0_3 (oLe g8)
 have m33 := ((((((q9.ext E1).keep u2_0 nin0).keep u7_0 (ninS n31 nin0)).ext E8).keep u9_0 (ninS n32 nin0)).keep u25_0 nin0)
 have y0_5 := Nat.le_trans (Nat.le_trans y0_3 E8.1) u9_0.1
 have n34 := oLsn q6.lt y0_5 u25_1
 refine o_virtual K X25   (w269 hw) (w270 hw) (oNF (w272 hw)) (w272 hw) (w271 hw) (w39 hw) (w273 hw) (by decide) u25_3 (rm_streq l Z a0 hw s_25 s0 sv_25 vz0 kv_25 kz0 (nar .byte (100 : Int32)) (nar .byte (oFx i3 (3 : Int32))) (nar .byte (100 : Int32)) (nar .byte (oFx i3 (3 : Int32))) cs h25 u25_3 u25_4 u25_5 u25_6 m26 m29 m30 m33 n34 rfl rfl q11 q12) (by decide) rfl (argsL := [.ref s0]) rfl (lenOf pd14 rfl) (W := 0) rfl (by decide) (by decide) (by decide) at_213 rfl ?_
 intro v35 T35 h35 X35 U35
 obtain ⟨rfl, rfl⟩ := U35
 show oGoes pp ee bb ss Z T35 (mkF mm 216 _ [.int 1]) _ _ _
 refine o_ireturnN K X35 .boolean at_216 rfl (by simp) (z' := 1) (by decide) ?_ (by decide) (by decide)
 exact hQ _ _ rfl
def Q_lw1_2 (Z : State) (i0 i1 i2 : Int32) (i3 : Int64) (i4 i5 n m size idx : Int32) (rw w q s0 vz0 : Addr) (kz0 : ClassId) (s1 vz1 : Addr) (kz1 : ClassId) (cs : Int32) (em : Addr) (h0 : Heap) (v : Option Value) (h : Heap) : Prop := v = some (.int 1)
theorem tl_lw1_2 (l : Launch) (Z : State) (a0 : Array Value) (hw : oHw Z a0) (i0 i1 i2 : Int32) (i3 : Int64) (i4 i5 n m size idx : Int32) (rw w q s0 vz0 : Addr) (kz0 : ClassId) (s1 vz1 : Addr) (kz1 : ClassId) (cs : Int32) (em : Addr) (h0 : Heap) (q0 : idx = (0 : Int32) ∨ idx = (1 : Int32)) (q1 : Exa Z h0 w z2) (q2 : Fld Z h0 w z2 "fields" z11 (.ref q)) (q3 : Exa Z h0 q z8) (q4 : Fld Z h0 q z8 "e0" z10 (.ref s0)) (q5 : Fld Z h0 q z8 "e1" z10 (.ref s1)) (q6 : Exa Z h0 s0 z0) (q7 : Fld Z h0 s0 z0 "value" "[B" (.ref vz0)) (q8 : Fld Z h0 s0 z0 "coder" "B" (.int 0)) (q9 : oArr Z h0 vz0 kz0 .byte [(.int (nar .byte (100 : Int32))), (.int (nar .byte (oFx i3 (3 : Int32))))]) (q10 : Exa Z h0 s1 z0) (q11 : Fld Z h0 s1 z0 "value" "[B" (.ref vz1)) (q12 : Fld Z h0 s1 z0 "coder" "B" (.int 0)) (q13 : oArr Z h0 vz1 kz1 .byte [(.int (nar .byte (101 : Int32))), (.int (nar .byte (oFx i3 (4 : Int32))))]) (q14 : Z.heap.size ≤ s0) (q15 : Z.heap.size ≤ s1) (q16 : Sta Z Z.heap z0 "COMPACT_STRINGS" "Z" (.int cs)) (q17 : ¬ (cs = (0 : Int32))) (q18 : Sta Z Z.heap z18 "EMPTY" z10 (.ref em)) (q19 : Exa Z Z.heap em z3) {Q : Option Value → Heap → Prop} (hQ : ∀ v h, Q_lw1_2 Z i0 i1 i2 i3 i4 i5 n m size idx rw w q s0 vz0 kz0 s1 vz1 kz1 cs em h0 v h → Q v h) {pp : Program} {ee : Env} {ss : State} {mm : MethodId} {bb : List Frame} {mtd : Method} {cc : Code} {A : Array Value} {T0 : State} (K : oCtx pp ss mm mtd cc Z z12 code maxLocals "law" ret x) (X0 : oSt pp l ee room_1 ss mm A bb mtd cc Z T0 h0 46 150) : oGoes pp ee bb ss Z T0 (mkF mm 126 #[vI i0, vI i1, vI i2, vJ i3, sS, vI i4, vI i5, vI n, vI m, vI 1, vI 0, vI size, vI idx, vR rw, vR w, uS, uS, uS, uS] []) Q room_1.cells room_1.slots := by
 have E0 := X0.ext0
 rcases q0 with rfl | rfl
 refine o_new K X0 (w196 hw) (w197 hw) (w198 hw) at_126 rfl (by decide) (by decide) ?_
 intro T1 h1 b1 X1 g1 E1 A1 D1 G1
 have F1_file : Fld Z h1 b1 z4 "file" "Ljava/lang/String;" .null := (D1 (Or.inr (w218 hw)) (ty := (.object z0)) (by decide))
 have F1_index : Fld Z h1 b1 z4 "index" "I" (.int 0) := (D1 (Or.inr (w220 hw)) (ty := .int) (by decide))
 have F1_inJoined : Fld Z h1 b1 z4 "inJoined" "Z" (.int 0) := (D1 (Or.inr (w222 hw)) (ty := .boolean) (by decide))
 refine o_dup K X1 at_129 rfl rfl ?_
 refine o_iloadN K X1 at_130 rfl rfl ?_
 refine o_bipush K X1 at_131 rfl (z := 8) rfl ?_
 refine o_iushr K X1 at_133 rfl (z := ((i2.toUInt32 >>> ((8 : Int32) &&& 31).toUInt32).toInt32)) rfl ?_
 refine o_sipush K X1 at_134 rfl (z := 255) rfl ?_
 refine o_iand K X1 at_137 rfl (z := (((i2.toUInt32 >>> ((8 : Int32) &&& 31).toUInt32).toInt32) &&& (255 : Int32))) rfl ?_
 refine o_i2c K X1 at_138 rfl (z := (((i2.toUInt32 >>> ((8 : Int32) &&& 31).toUInt32).toInt32) &&& (255 : Int32))) (oNarMask ((i2.toUInt32 >>> ((8 : Int32) &&& 31).toUInt32).toInt32) (by decide)) ?_
 refine o_static K X1  (w199 hw) (w200 hw) (w39 hw) (w201 hw) (by decide) (rm_valueof l Z a0 hw (((i2.toUInt32 >>> ((8 : Int32) &&& 31).toUInt32).toInt32) &&& (255 : Int32)) cs h1 (oMask255 _) q16 q17) (by decide) rfl (argsL := [(.int (((i2.toUInt32 >>> ((8 : Int32) &&& 31).toUInt32).toInt32) &&& (255 : Int32)))]) rfl (lenOf pd29 rfl) (W := 2) rfl (by decide) (by decide) (by decide) at_139 rfl ?_
 intro v2 T2 h2 X2 U2
 obtain ⟨r_2, vb_2, k_2, rfl, u2_0, u2_1, u2_2, u2_3, u2_4, u2_5, u2_6⟩ := U2
 have G2_r : Z.heap.size ≤ r_2 := Nat.le_trans X1.ext0.1 u2_1
 have G2_vb : Z.heap.size ≤ vb_2 := Nat.le_trans X1.ext0.1 u2_5
 show oGoes pp ee bb ss Z T2 (mkF mm 142 _ [.ref r_2, .ref b1, .ref b1]) _ _ _
 refine o_iload K X2 at_142 rfl rfl ?_
 refine o_iload K X2 at_144 rfl rfl ?_
 have m3 := (A1.keep u2_0)
 have m4 := (F1_file.keep u2_0 nin0)
 have m5 := (F1_index.keep u2_0 nin0)
 have m6 := (F1_inJoined.keep u2_0 nin0)
 refine o_special K X2 (y := (⟨z4, "<init>", "(Ljava/lang/String;IZ)V"⟩ : MethodName)) rfl (w213 hw) (w214 hw) (w198 hw) (w215 hw) (by decide) (rm_dcol1 l Z a0 hw b1 r_2 0 h2 m3 G1 m4 m5 m6) (by decide) rfl (argsL := [.ref r_2, .int 0, .int 1]) rfl (lenOf pd30 rfl) (W := 1) rfl (by decide) (by decide) (by decide) at_146 rfl ?_
 intro v7 T7 h7 X7 U7
 obtain ⟨rfl, u7_0, u7_1, u7_2, u7_3, u7_4⟩ := U7
 show oGoes pp ee bb ss Z T7 (mkF mm 149 _ [.ref b1]) _ _ _
 refine o_astore K X7 at_149 rfl rfl (L' := #[vI i0, vI i1, vI i2, vJ i3, sS, vI i4, vI i5, vI n, vI m, vI 1, vI 0, vI size, vI 0, vR rw, vR w, vR b1, uS, uS, uS]) rfl ?_
 refine o_new K X7 (w223 hw) (w224 hw) (w225 hw) at_151 rfl (by decide) (by decide) ?_
 intro T8 h8 b8 X8 g8 E8 A8 D8 G8
 have F8_row : Fld Z h8 b8 z6 "row" z16 .null := (D8 (Or.inr (w231 hw)) (ty := (.object z2)) (by decide))
 have F8_match : Fld Z h8 b8 z6 "match" z16 .null := (D8 (Or.inr (w233 hw)) (ty := (.object z2)) (by decide))
 refine o_dup K X8 at_154 rfl rfl ?_
 refine o_aload K X8 at_155 rfl rfl rfl ?_
 refine o_aload K X8 at_157 rfl rfl rfl ?_
 refine o_special K X8 (y := (⟨z6, "<init>", z21⟩ : MethodName)) rfl (w226 hw) (w227 hw) (w225 hw) (w228 hw) (by decide) (rm_drow l Z a0 hw b8 rw (.ref w) h8 rfl A8 G8 F8_row F8_match) (by decide) rfl (argsL := [.ref rw, .ref w]) rfl (lenOf pd31 rfl) (W := 1) rfl (by decide) (by decide) (by decide) at_159 rfl ?_
 intro v9 T9 h9 X9 U9
 obtain ⟨rfl, u9_0, u9_1, u9_2, u9_3⟩ := U9
 show oGoes pp ee bb ss Z T9 (mkF mm 162 _ [.ref b8]) _ _ _
 refine o_astore K X9 at_162 rfl rfl (L' := #[vI i0, vI i1, vI i2, vJ i3, sS, vI i4, vI i5, vI n, vI m, vI 1, vI 0, vI size, vI 0, vR rw, vR w, vR b1, vR b8, uS, uS]) rfl ?_
 refine o_aload K X9 at_164 rfl rfl rfl ?_
 refine o_aload K X9 at_166 rfl rfl rfl ?_
 have m10 := ((u7_1.ext E8).keep u9_0)
 have n11 := oLn A1.lt (Nat.le_trans u2_0.1 u7_0.1) (oLe g8)
 have m12 := ((u7_4.ext E8).keep u9_0 (ninS n11 nin0))
 have m13 := ((u7_3.ext E8).keep u9_0 (ninS n11 nin0))
 have m14 := (((((q1.ext E1).keep u2_0).keep u7_0).ext E8).keep u9_0)
 have n15 := oLz q1.lt (oLe g1)
 have y0_3 := Nat.le_trans (Nat.le_trans E1.1 u2_0.1) u7_0.1
 have n16 := oLn q1.lt y0_3 (oLe g8)
 have m17 := (((((q2.ext E1).keep u2_0 nin0).keep u7_0 (ninS n15 nin0)).ext E8).keep u9_0 (ninS n16 nin0))
 have m18 := (((((q3.ext E1).keep u2_0).keep u7_0).ext E8).keep u9_0)
 have n19 := oLz q3.lt (oLe g1)
 have n20 := oLn q3.lt y0_3 (oLe g8)
 have m21 := (((((q4.ext E1).keep u2_0 nin0).keep u7_0 (ninS n19 nin0)).ext E8).keep u9_0 (ninS n20 nin0))
 have m22 := (((((q5.ext E1).keep u2_0 nin0).keep u7_0 (ninS n19 nin0)).ext E8).keep u9_0 (ninS n20 nin0))
 have m23 := (((((q6.ext E1).keep u2_0).keep u7_0).ext E8).keep u9_0)
 refine o_virtual K X9   (w234 hw) (w235 hw) (oNF (w237 hw)) (w237 hw) (w236 hw) (w225 hw) (w238 hw) (by decide) u9_1 (rm_val1_2_0 l Z a0 hw b8 b1 w q s0 s1 em h9 u9_1 m10 m12 m13 u9_3 m14 m17 m18 m21 m22 m23 q15 q18 q19) (by decide) rfl (argsL := [.ref b1]) rfl (lenOf pd32 rfl) (W := 0) rfl (by decide) (by decide) (by decide) at_168 rfl ?_
 intro v24 T24 h24 X24 U24
 obtain ⟨rfl, rfl⟩ := U24
 show oGoes pp ee bb ss Z T24 (mkF mm 171 _ [.ref s0]) _ _ _
 refine o_astore K X24 at_171 rfl rfl (L' := #[vI i0, vI i1, vI i2, vJ i3, sS, vI i4, vI i5, vI n, vI m, vI 1, vI 0, vI size, vI 0, vR rw, vR w, vR b1, vR b8, vR s0, uS]) rfl ?_
 refine o_iload K X24 at_173 rfl rfl ?_
 refine o_if_eq_f K X24 at_175 rfl (by decide) ?_
 refine o_bipush K X24 at_178 rfl (z := 100) rfl ?_
 refine o_iload K X24 at_180 rfl rfl ?_
 refine o_iadd K X24 at_182 rfl (z := 100) (by decide) ?_
 refine o_i2c K X24 at_183 rfl (z := 100) (by decide) ?_
 refine o_lloadN K X24 at_184 rfl rfl ?_
 refine o_iconst K X24 at_185 rfl (z := 3) rfl ?_
 refine o_iload K X24 at_186 rfl rfl ?_
 refine o_iadd K X24 at_188 rfl (z := 3) (by decide) ?_
 refine o_static K X24  (w34 hw) (w35 hw) (w6 hw) (w36 hw) (by decide) (rm_field l Z a0 hw 100 i3 3 cs h9 (by decide) (by decide) q16 q17) (by decide) rfl (argsL := [.int 100, (.long i3), .int 3]) rfl (lenOf pd13 rfl) (W := 0) rfl (by decide) (by decide) (by decide) at_189 rfl ?_
 intro v25 T25 h25 X25 U25
 obtain ⟨s_25, sv_25, kv_25, rfl, u25_0, u25_1, u25_2, u25_3, u25_4, u25_5, u25_6⟩ := U25
 have G25_s : Z.heap.size ≤ s_25 := Nat.le_trans X24.ext0.1 u25_1
 have G25_sv : Z.heap.size ≤ sv_25 := Nat.le_trans X24.ext0.1 u25_2
 show oGoes pp ee bb ss Z T25 (mkF mm 192 _ [.ref s_25]) _ _ _
 refine o_goto K X25 at_192 (by decide) (pc' := 207) (by decide) ?_
 refine o_astore K X25 at_207 rfl rfl (L' := #[vI i0, vI i1, vI i2, vJ i3, sS, vI i4, vI i5, vI n, vI m, vI 1, vI 0, vI size, vI 0, vR rw, vR w, vR b1, vR b8, vR s0, vR s_25]) rfl ?_
 refine o_aload K X25 at_209 rfl rfl rfl ?_
 refine o_aload K X25 at_211 rfl rfl rfl ?_
 have m26 := (m23.keep u25_0)
 have n27 := oLz q6.lt (oLe g1)
 have n28 := oLn q6.lt y0_3 (oLe g8)
 have m29 := ((((((q7.ext E1).keep u2_0 nin0).keep u7_0 (ninS n27 nin0)).ext E8).keep u9_0 (ninS n28 nin0)).keep u25_0 nin0)
 have m30 := ((((((q8.ext E1).keep u2_0 nin0).keep u7_0 (ninS n27 nin0)).ext E8).keep u9_0 (ninS n28 nin0)).keep u25_0 nin0)
 have n31 := oLz q9.lt (oLe g1)
 have n32 := oLn q9.lt y0_3 (oLe g8)
 have m33 := ((((((q9.ext E1).keep u2_0 nin0).keep u7_0 (ninS n31 nin0)).ext E8).keep u9_0 (ninS n32 nin0)).keep u25_0 nin0)
 have y0_5 := Nat.le_trans (Nat.le_trans y0_3 E8.1) u9_0.1
 have n34 := oLsn q6.lt y0_5 u25_1
 refine o_virtual K X25   (w269 hw) (w270 hw) (oNF (w272 hw)) (w272 hw) (w271 hw) (w39 hw) (w273 hw) (by decide) u25_3 (rm_streq l Z a0 hw s_25 s0 sv_25 vz0 kv_25 kz0 (nar .byte (100 : Int32)) (nar .byte (oFx i3 (3 : Int32))) (nar .byte (100 : Int32)) (nar .byte (oFx i3 (3 : Int32))) cs h25 u25_3 u25_4 u25_5 u25_6 m26 m29 m30 m33 n34 rfl rfl q16 q17) (by decide) rfl (argsL := [.ref s0]) rfl (lenOf pd14 rfl) (W := 0) rfl (by decide) (by decide) (by decide) at_213 rfl ?_
 intro v35 T35 h35 X35 U35
 obtain ⟨rfl, rfl⟩ := U35
 show oGoes pp ee bb ss Z T35 (mkF mm 216 _ [.int 1]) _ _ _
 refine o_ireturnN K X35 .boolean at_216 rfl (by simp) (z' := 1) (by decide) ?_ (by decide) (by decide)
 exact hQ _ _ rfl
 refine o_new K X0 (w196 hw) (w197 hw) (w198 hw) at_126 rfl (by decide) (by decide) ?_
 intro T36 h36 b36 X36 g36 E36 A36 D36 G36
 have F36_file : Fld Z h36 b36 z4 "file" "Ljava/lang/String;" .null := (D36 (Or.inr (w218 hw)) (ty := (.object z0)) (by decide))
 have F36_index : Fld Z h36 b36 z4 "index" "I" (.int 0) := (D36 (Or.inr (w220 hw)) (ty := .int) (by decide))
 have F36_inJoined : Fld Z h36 b36 z4 "inJoined" "Z" (.int 0) := (D36 (Or.inr (w222 hw)) (ty := .boolean) (by decide))
 refine o_dup K X36 at_129 rfl rfl ?_
 refine o_iloadN K X36 at_130 rfl rfl ?_
 refine o_bipush K X36 at_131 rfl (z := 8) rfl ?_
 refine o_iushr K X36 at_133 rfl (z := ((i2.toUInt32 >>> ((8 : Int32) &&& 31).toUInt32).toInt32)) rfl ?_
 refine o_sipush K X36 at_134 rfl (z := 255) rfl ?_
 refine o_iand K X36 at_137 rfl (z := (((i2.toUInt32 >>> ((8 : Int32) &&& 31).toUInt32).toInt32) &&& (255 : Int32))) rfl ?_
 refine o_i2c K X36 at_138 rfl (z := (((i2.toUInt32 >>> ((8 : Int32) &&& 31).toUInt32).toInt32) &&& (255 : Int32))) (oNarMask ((i2.toUInt32 >>> ((8 : Int32) &&& 31).toUInt32).toInt32) (by decide)) ?_
 refine o_static K X36  (w199 hw) (w200 hw) (w39 hw) (w201 hw) (by decide) (rm_valueof l Z a0 hw (((i2.toUInt32 >>> ((8 : Int32) &&& 31).toUInt32).toInt32) &&& (255 : Int32)) cs h36 (oMask255 _) q16 q17) (by decide) rfl (argsL := [(.int (((i2.toUInt32 >>> ((8 : Int32) &&& 31).toUInt32).toInt32) &&& (255 : Int32)))]) rfl (lenOf pd29 rfl) (W := 2) rfl (by decide) (by decide) (by decide) at_139 rfl ?_
 intro v37 T37 h37 X37 U37
 obtain ⟨r_37, vb_37, k_37, rfl, u37_0, u37_1, u37_2, u37_3, u37_4, u37_5, u37_6⟩ := U37
 have G37_r : Z.heap.size ≤ r_37 := Nat.le_trans X36.ext0.1 u37_1
 have G37_vb : Z.heap.size ≤ vb_37 := Nat.le_trans X36.ext0.1 u37_5
 show oGoes pp ee bb ss Z T37 (mkF mm 142 _ [.ref r_37, .ref b36, .ref b36]) _ _ _
 refine o_iload K X37 at_142 rfl rfl ?_
 refine o_iload K X37 at_144 rfl rfl ?_
 have m38 := (A36.keep u37_0)
 have m39 := (F36_file.keep u37_0 nin0)
 have m40 := (F36_index.keep u37_0 nin0)
 have m41 := (F36_inJoined.keep u37_0 nin0)
 refine o_special K X37 (y := (⟨z4, "<init>", "(Ljava/lang/String;IZ)V"⟩ : MethodName)) rfl (w213 hw) (w214 hw) (w198 hw) (w215 hw) (by decide) (rm_dcol1 l Z a0 hw b36 r_37 1 h37 m38 G36 m39 m40 m41) (by decide) rfl (argsL := [.ref r_37, .int 1, .int 1]) rfl (lenOf pd30 rfl) (W := 1) rfl (by decide) (by decide) (by decide) at_146 rfl ?_
 intro v42 T42 h42 X42 U42
 obtain ⟨rfl, u42_0, u42_1, u42_2, u42_3, u42_4⟩ := U42
 show oGoes pp ee bb ss Z T42 (mkF mm 149 _ [.ref b36]) _ _ _
 refine o_astore K X42 at_149 rfl rfl (L' := #[vI i0, vI i1, vI i2, vJ i3, sS, vI i4, vI i5, vI n, vI m, vI 1, vI 0, vI size, vI 1, vR rw, vR w, vR b36, uS, uS, uS]) rfl ?_
 refine o_new K X42 (w223 hw) (w224 hw) (w225 hw) at_151 rfl (by decide) (by decide) ?_
 intro T43 h43 b43 X43 g43 E43 A43 D43 G43
 have F43_row : Fld Z h43 b43 z6 "row" z16 .null := (D43 (Or.inr (w231 hw)) (ty := (.object z2)) (by decide))
 have F43_match : Fld Z h43 b43 z6 "match" z16 .null := (D43 (Or.inr (w233 hw)) (ty := (.object z2)) (by decide))
 refine o_dup K X43 at_154 rfl rfl ?_
 refine o_aload K X43 at_155 rfl rfl rfl ?_
 refine o_aload K X43 at_157 rfl rfl rfl ?_
 refine o_special K X43 (y := (⟨z6, "<init>", z21⟩ : MethodName)) rfl (w226 hw) (w227 hw) (w225 hw) (w228 hw) (by decide) (rm_drow l Z a0 hw b43 rw (.ref w) h43 rfl A43 G43 F43_row F43_match) (by decide) rfl (argsL := [.ref rw, .ref w]) rfl (lenOf pd31 rfl) (W := 1) rfl (by decide) (by decide) (by decide) at_159 rfl ?_
 intro v44 T44 h44 X44 U44
 obtain ⟨rfl, u44_0, u44_1, u44_2, u44_3⟩ := U44
 show oGoes pp ee bb ss Z T44 (mkF mm 162 _ [.ref b43]) _ _ _
 refine o_astore K X44 at_162 rfl rfl (L' := #[vI i0, vI i1, vI i2, vJ i3, sS, vI i4, vI i5, vI n, vI m, vI 1, vI 0, vI size, vI 1, vR rw, vR w, vR b36, vR b43, uS, uS]) rfl ?_
 refine o_aload K X44 at_164 rfl rfl rfl ?_
 refine o_aload K X44 at_166 rfl rfl rfl ?_
 have m45 := ((u42_1.ext E43).keep u44_0)
 have n46 := oLn A36.lt (Nat.le_trans u37_0.1 u42_0.1) (oLe g43)
 have m47 := ((u42_4.ext E43).keep u44_0 (ninS n46 nin0))
 have m48 := ((u42_3.ext E43).keep u44_0 (ninS n46 nin0))
 have m49 := (((((q1.ext E36).keep u37_0).keep u42_0).ext E43).keep u44_0)
 have n50 := oLz q1.lt (oLe g36)
 have y0_3 := Nat.le_trans (Nat.le_trans E36.1 u37_0.1) u42_0.1
 have n51 := oLn q1.lt y0_3 (oLe g43)
 have m52 := (((((q2.ext E36).keep u37_0 nin0).keep u42_0 (ninS n50 nin0)).ext E43).keep u44_0 (ninS n51 nin0))
 have m53 := (((((q3.ext E36).keep u37_0).keep u42_0).ext E43).keep u44_0)
 have n54 := oLz q3.lt (oLe g36)
 have n55 := oLn q3.lt y0_3 (oLe g43)
 have m56 := (((((q4.ext E36).keep u37_0 nin0).keep u42_0 (ninS n54 nin0)).ext E43).keep u44_0 (ninS n55 nin0))
 have m57 := (((((q5.ext E36).keep u37_0 nin0).keep u42_0 (ninS n54 nin0)).ext E43).keep u44_0 (ninS n55 nin0))
 have m58 := (((((q10.ext E36).keep u37_0).keep u42_0).ext E43).keep u44_0)
 refine o_virtual K X44   (w234 hw) (w235 hw) (oNF (w237 hw)) (w237 hw) (w236 hw) (w225 hw) (w238 hw) (by decide) u44_1 (rm_val1_2_1 l Z a0 hw b43 b36 w q s0 s1 em h44 u44_1 m45 m47 m48 u44_3 m49 m52 m53 m56 m57 m58 q15 q18 q19) (by decide) rfl (argsL := [.ref b36]) rfl (lenOf pd32 rfl) (W := 0) rfl (by decide) (by decide) (by decide) at_168 rfl ?_
 intro v59 T59 h59 X59 U59
 obtain ⟨rfl, rfl⟩ := U59
 show oGoes pp ee bb ss Z T59 (mkF mm 171 _ [.ref s1]) _ _ _
 refine o_astore K X59 at_171 rfl rfl (L' := #[vI i0, vI i1, vI i2, vJ i3, sS, vI i4, vI i5, vI n, vI m, vI 1, vI 0, vI size, vI 1, vR rw, vR w, vR b36, vR b43, vR s1, uS]) rfl ?_
 refine o_iload K X59 at_173 rfl rfl ?_
 refine o_if_eq_f K X59 at_175 rfl (by decide) ?_
 refine o_bipush K X59 at_178 rfl (z := 100) rfl ?_
 refine o_iload K X59 at_180 rfl rfl ?_
 refine o_iadd K X59 at_182 rfl (z := 101) (by decide) ?_
 refine o_i2c K X59 at_183 rfl (z := 101) (by decide) ?_
 refine o_lloadN K X59 at_184 rfl rfl ?_
 refine o_iconst K X59 at_185 rfl (z := 3) rfl ?_
 refine o_iload K X59 at_186 rfl rfl ?_
 refine o_iadd K X59 at_188 rfl (z := 4) (by decide) ?_
 refine o_static K X59  (w34 hw) (w35 hw) (w6 hw) (w36 hw) (by decide) (rm_field l Z a0 hw 101 i3 4 cs h44 (by decide) (by decide) q16 q17) (by decide) rfl (argsL := [.int 101, (.long i3), .int 4]) rfl (lenOf pd13 rfl) (W := 0) rfl (by decide) (by decide) (by decide) at_189 rfl ?_
 intro v60 T60 h60 X60 U60
 obtain ⟨s_60, sv_60, kv_60, rfl, u60_0, u60_1, u60_2, u60_3, u60_4, u60_5, u60_6⟩ := U60
 have G60_s : Z.heap.size ≤ s_60 := Nat.le_trans X59.ext0.1 u60_1
 have G60_sv : Z.heap.size ≤ sv_60 := Nat.le_trans X59.ext0.1 u60_2
 show oGoes pp ee bb ss Z T60 (mkF mm 192 _ [.ref s_60]) _ _ _
 refine o_goto K X60 at_192 (by decide) (pc' := 207) (by decide) ?_
 refine o_astore K X60 at_207 rfl rfl (L' := #[vI i0, vI i1, vI i2, vJ i3, sS, vI i4, vI i5, vI n, vI m, vI 1, vI 0, vI size, vI 1, vR rw, vR w, vR b36, vR b43, vR s1, vR s_60]) rfl ?_
 refine o_aload K X60 at_209 rfl rfl rfl ?_
 refine o_aload K X60 at_211 rfl rfl rfl ?_
 have m61 := (m58.keep u60_0)
 have n62 := oLz q10.lt (oLe g36)
 have n63 := oLn q10.lt y0_3 (oLe g43)
 have m64 := ((((((q11.ext E36).keep u37_0 nin0).keep u42_0 (ninS n62 nin0)).ext E43).keep u44_0 (ninS n63 nin0)).keep u60_0 nin0)
 have m65 := ((((((q12.ext E36).keep u37_0 nin0).keep u42_0 (ninS n62 nin0)).ext E43).keep u44_0 (ninS n63 nin0)).keep u60_0 nin0)
 have n66 := oLz q13.lt (oLe g36)
 have n67 := oLn q13.lt y0_3 (oLe g43)
 have m68 := ((((((q13.ext E36).keep u37_0 nin0).keep u42_0 (ninS n66 nin0)).ext E43).keep u44_0 (ninS n67 nin0)).keep u60_0 nin0)
 have y0_5 := Nat.le_trans (Nat.le_trans y0_3 E43.1) u44_0.1
 have n69 := oLsn q10.lt y0_5 u60_1
 refine o_virtual K X60   (w269 hw) (w270 hw) (oNF (w272 hw)) (w272 hw) (w271 hw) (w39 hw) (w273 hw) (by decide) u60_3 (rm_streq l Z a0 hw s_60 s1 sv_60 vz1 kv_60 kz1 (nar .byte (101 : Int32)) (nar .byte (oFx i3 (4 : Int32))) (nar .byte (101 : Int32)) (nar .byte (oFx i3 (4 : Int32))) cs h60 u60_3 u60_4 u60_5 u60_6 m61 m64 m65 m68 n69 rfl rfl q16 q17) (by decide) rfl (argsL := [.ref s1]) rfl (lenOf pd14 rfl) (W := 0) rfl (by decide) (by decide) (by decide) at_213 rfl ?_
 intro v70 T70 h70 X70 U70
 obtain ⟨rfl, rfl⟩ := U70
 show oGoes pp ee bb ss Z T70 (mkF mm 216 _ [.int 1]) _ _ _
 refine o_ireturnN K X70 .boolean at_216 rfl (by simp) (z' := 1) (by decide) ?_ (by decide) (by decide)
 exact hQ _ _ rfl
def Q_lw1_3 (Z : State) (i0 i1 i2 : Int32) (i3 : Int64) (i4 i5 n m size idx : Int32) (rw w q y : Addr) (ky : ClassId) (s0 vz0 : Addr) (kz0 : ClassId) (s1 vz1 : Addr) (kz1 : ClassId) (s2 vz2 : Addr) (kz2 : ClassId) (cs : Int32) (h0 : Heap) (v : Option Value) (h : Heap) : Prop := v = some (.int 1)
theorem tl_lw1_3 (l : Launch) (Z : State) (a0 : Array Value) (hw : oHw Z a0) (i0 i1 i2 : Int32) (i3 : Int64) (i4 i5 n m size idx : Int32) (rw w q y : Addr) (ky : ClassId) (s0 vz0 : Addr) (kz0 : ClassId) (s1 vz1 : Addr) (kz1 : ClassId) (s2 vz2 : Addr) (kz2 : ClassId) (cs : Int32) (h0 : Heap) (q0 : idx = (0 : Int32) ∨ idx = (1 : Int32) ∨ idx = (2 : Int32)) (q1 : Exa Z h0 w z2) (q2 : Fld Z h0 w z2 "fields" z11 (.ref q)) (q3 : Exa Z h0 q z9) (q4 : Fld Z h0 q z9 "elements" z5 (.ref y)) (q5 : oArr Z h0 y ky (.object z3) [.ref s0, .ref s1, .ref s2]) (q6 : Exa Z h0 s0 z0) (q7 : Fld Z h0 s0 z0 "value" "[B" (.ref vz0)) (q8 : Fld Z h0 s0 z0 "coder" "B" (.int 0)) (q9 : oArr Z h0 vz0 kz0 .byte [(.int (nar .byte (100 : Int32))), (.int (nar .byte (oFx i3 (3 : Int32))))]) (q10 : Exa Z h0 s1 z0) (q11 : Fld Z h0 s1 z0 "value" "[B" (.ref vz1)) (q12 : Fld Z h0 s1 z0 "coder" "B" (.int 0)) (q13 : oArr Z h0 vz1 kz1 .byte [(.int (nar .byte (101 : Int32))), (.int (nar .byte (oFx i3 (4 : Int32))))]) (q14 : Exa Z h0 s2 z0) (q15 : Fld Z h0 s2 z0 "value" "[B" (.ref vz2)) (q16 : Fld Z h0 s2 z0 "coder" "B" (.int 0)) (q17 : oArr Z h0 vz2 kz2 .byte [(.int (nar .byte (102 : Int32))), (.int (nar .byte (oFx i3 (5 : Int32))))]) (q18 : Z.heap.size ≤ s0) (q19 : Z.heap.size ≤ s1) (q20 : Z.heap.size ≤ s2) (q21 : Sta Z Z.heap z0 "COMPACT_STRINGS" "Z" (.int cs)) (q22 : ¬ (cs = (0 : Int32))) {Q : Option Value → Heap → Prop} (hQ : ∀ v h, Q_lw1_3 Z i0 i1 i2 i3 i4 i5 n m size idx rw w q y ky s0 vz0 kz0 s1 vz1 kz1 s2 vz2 kz2 cs h0 v h → Q v h) {pp : Program} {ee : Env} {ss : State} {mm : MethodId} {bb : List Frame} {mtd : Method} {cc : Code} {A : Array Value} {T0 : State} (K : oCtx pp ss mm mtd cc Z z12 code maxLocals "law" ret x) (X0 : oSt pp l ee room_1 ss mm A bb mtd cc Z T0 h0 46 150) : oGoes pp ee bb ss Z T0 (mkF mm 126 #[vI i0, vI i1, vI i2, vJ i3, sS, vI i4, vI i5, vI n, vI m, vI 1, vI 0, vI size, vI idx, vR rw, vR w, uS, uS, uS, uS] []) Q room_1.cells room_1.slots := by
 have E0 := X0.ext0
 rcases q0 with rfl | rfl | rfl
 refine o_new K X0 (w196 hw) (w197 hw) (w198 hw) at_126 rfl (by decide) (by decide) ?_
 intro T1 h1 b1 X1 g1 E1 A1 D1 G1
 have F1_file : Fld Z h1 b1 z4 "file" "Ljava/lang/String;" .null := (D1 (Or.inr (w218 hw)) (ty := (.object z0)) (by decide))
 have F1_index : Fld Z h1 b1 z4 "index" "I" (.int 0) := (D1 (Or.inr (w220 hw)) (ty := .int) (by decide))
 have F1_inJoined : Fld Z h1 b1 z4 "inJoined" "Z" (.int 0) := (D1 (Or.inr (w222 hw)) (ty := .boolean) (by decide))
 refine o_dup K X1 at_129 rfl rfl ?_
 refine o_iloadN K X1 at_130 rfl rfl ?_
 refine o_bipush K X1 at_131 rfl (z := 8) rfl ?_
 refine o_iushr K X1 at_133 rfl (z := ((i2.toUInt32 >>> ((8 : Int32) &&& 31).toUInt32).toInt32)) rfl ?_
 refine o_sipush K X1 at_134 rfl (z := 255) rfl ?_
 refine o_iand K X1 at_137 rfl (z := (((i2.toUInt32 >>> ((8 : Int32) &&& 31).toUInt32).toInt32) &&& (255 : Int32))) rfl ?_
 refine o_i2c K X1 at_138 rfl (z := (((i2.toUInt32 >>> ((8 : Int32) &&& 31).toUInt32).toInt32) &&& (255 : Int32))) (oNarMask ((i2.toUInt32 >>> ((8 : Int32) &&& 31).toUInt32).toInt32) (by decide)) ?_
 refine o_static K X1  (w199 hw) (w200 hw) (w39 hw) (w201 hw) (by decide) (rm_valueof l Z a0 hw (((i2.toUInt32 >>> ((8 : Int32) &&& 31).toUInt32).toInt32) &&& (255 : Int32)) cs h1 (oMask255 _) q21 q22) (by decide) rfl (argsL := [(.int (((i2.toUInt32 >>> ((8 : Int32) &&& 31).toUInt32).toInt32) &&& (255 : Int32)))]) rfl (lenOf pd29 rfl) (W := 2) rfl (by decide) (by decide) (by decide) at_139 rfl ?_
 intro v2 T2 h2 X2 U2
 obtain ⟨r_2, vb_2, k_2, rfl, u2_0, u2_1, u2_2, u2_3, u2_4, u2_5, u2_6⟩ := U2
 have G2_r : Z.heap.size ≤ r_2 := Nat.le_trans X1.ext0.1 u2_1
 have G2_vb : Z.heap.size ≤ vb_2 := Nat.le_trans X1.ext0.1 u2_5
 show oGoes pp ee bb ss Z T2 (mkF mm 142 _ [.ref r_2, .ref b1, .ref b1]) _ _ _
 refine o_iload K X2 at_142 rfl rfl ?_
 refine o_iload K X2 at_144 rfl rfl ?_
 have m3 := (A1.keep u2_0)
 have m4 := (F1_file.keep u2_0 nin0)
 have m5 := (F1_index.keep u2_0 nin0)
 have m6 := (F1_inJoined.keep u2_0 nin0)
 refine o_special K X2 (y := (⟨z4, "<init>", "(Ljava/lang/String;IZ)V"⟩ : MethodName)) rfl (w213 hw) (w214 hw) (w198 hw) (w215 hw) (by decide) (rm_dcol1 l Z a0 hw b1 r_2 0 h2 m3 G1 m4 m5 m6) (by decide) rfl (argsL := [.ref r_2, .int 0, .int 1]) rfl (lenOf pd30 rfl) (W := 1) rfl (by decide) (by decide) (by decide) at_146 rfl ?_
 intro v7 T7 h7 X7 U7
 obtain ⟨rfl, u7_0, u7_1, u7_2, u7_3, u7_4⟩ := U7
 show oGoes pp ee bb ss Z T7 (mkF mm 149 _ [.ref b1]) _ _ _
 refine o_astore K X7 at_149 rfl rfl (L' := #[vI i0, vI i1, vI i2, vJ i3, sS, vI i4, vI i5, vI n, vI m, vI 1, vI 0, vI size, vI 0, vR rw, vR w, vR b1, uS, uS, uS]) rfl ?_
 refine o_new K X7 (w223 hw) (w224 hw) (w225 hw) at_151 rfl (by decide) (by decide) ?_
 intro T8 h8 b8 X8 g8 E8 A8 D8 G8
 have F8_row : Fld Z h8 b8 z6 "row" z16 .null := (D8 (Or.inr (w231 hw)) (ty := (.object z2)) (by decide))
 have F8_match : Fld Z h8 b8 z6 "match" z16 .null := (D8 (Or.inr (w233 hw)) (ty := (.object z2)) (by decide))
 refine o_dup K X8 at_154 rfl rfl ?_
 refine o_aload K X8 at_155 rfl rfl rfl ?_
 refine o_aload K X8 at_157 rfl rfl rfl ?_
 refine o_special K X8 (y := (⟨z6, "<init>", z21⟩ : MethodName)) rfl (w226 hw) (w227 hw) (w225 hw) (w228 hw) (by decide) (rm_drow l Z a0 hw b8 rw (.ref w) h8 rfl A8 G8 F8_row F8_match) (by decide) rfl (argsL := [.ref rw, .ref w]) rfl (lenOf pd31 rfl) (W := 1) rfl (by decide) (by decide) (by decide) at_159 rfl ?_
 intro v9 T9 h9 X9 U9
 obtain ⟨rfl, u9_0, u9_1, u9_2, u9_3⟩ := U9
 show oGoes pp ee bb ss Z T9 (mkF mm 162 _ [.ref b8]) _ _ _
 refine o_astore K X9 at_162 rfl rfl (L' := #[vI i0, vI i1, vI i2, vJ i3, sS, vI i4, vI i5, vI n, vI m, vI 1, vI 0, vI size, vI 0, vR rw, vR w, vR b1, vR b8, uS, uS]) rfl ?_
 refine o_aload K X9 at_164 rfl rfl rfl ?_
 refine o_aload K X9 at_166 rfl rfl rfl ?_
 have m10 := ((u7_1.ext E8).keep u9_0)
 have n11 := oLn A1.lt (Nat.le_trans u2_0.1 u7_0.1) (oLe g8)
 have m12 := ((u7_4.ext E8).keep u9_0 (ninS n11 nin0))
 have m13 := ((u7_3.ext E8).keep u9_0 (ninS n11 nin0))
 have m14 := (((((q1.ext E1).keep u2_0).keep u7_0).ext E8).keep u9_0)
 have n15 := oLz q1.lt (oLe g1)
 have y0_3 := Nat.le_trans (Nat.le_trans E1.1 u2_0.1) u7_0.1
 have n16 := oLn q1.lt y0_3 (oLe g8)
 have m17 := (((((q2.ext E1).keep u2_0 nin0).keep u7_0 (ninS n15 nin0)).ext E8).keep u9_0 (ninS n16 nin0))
 have m18 := (((((q3.ext E1).keep u2_0).keep u7_0).ext E8).keep u9_0)
 have n19 := oLz q3.lt (oLe g1)
 have n20 := oLn q3.lt y0_3 (oLe g8)
 have m21 := (((((q4.ext E1).keep u2_0 nin0).keep u7_0 (ninS n19 nin0)).ext E8).keep u9_0 (ninS n20 nin0))
 have n22 := oLz q5.lt (oLe g1)
 have n23 := oLn q5.lt y0_3 (oLe g8)
 have m24 := (((((q5.ext E1).keep u2_0 nin0).keep u7_0 (ninS n22 nin0)).ext E8).keep u9_0 (ninS n23 nin0))
 have m25 := (((((q6.ext E1).keep u2_0).keep u7_0).ext E8).keep u9_0)
 refine o_virtual K X9   (w234 hw) (w235 hw) (oNF (w237 hw)) (w237 hw) (w236 hw) (w225 hw) (w238 hw) (by decide) u9_1 (rm_val1_3_0 l Z a0 hw b8 b1 w q y ky s0 s1 s2 h9 u9_1 m10 m12 m13 u9_3 m14 m17 m18 m21 m24 m25) (by decide) rfl (argsL := [.ref b1]) rfl (lenOf pd32 rfl) (W := 0) rfl (by decide) (by decide) (by decide) at_168 rfl ?_
 intro v26 T26 h26 X26 U26
 obtain ⟨rfl, rfl⟩ := U26
 show oGoes pp ee bb ss Z T26 (mkF mm 171 _ [.ref s0]) _ _ _
 refine o_astore K X26 at_171 rfl rfl (L' := #[vI i0, vI i1, vI i2, vJ i3, sS, vI i4, vI i5, vI n, vI m, vI 1, vI 0, vI size, vI 0, vR rw, vR w, vR b1, vR b8, vR s0, uS]) rfl ?_
 refine o_iload K X26 at_173 rfl rfl ?_
 refine o_if_eq_f K X26 at_175 rfl (by decide) ?_
 refine o_bipush K X26 at_178 rfl (z := 100) rfl ?_
 refine o_iload K X26 at_180 rfl rfl ?_
 refine o_iadd K X26 at_182 rfl (z := 100) (by decide) ?_
 refine o_i2c K X26 at_183 rfl (z := 100) (by decide) ?_
 refine o_lloadN K X26 at_184 rfl rfl ?_
 refine o_iconst K X26 at_185 rfl (z := 3) rfl ?_
 refine o_iload K X26 at_186 rfl rfl ?_
 refine o_iadd K X26 at_188 rfl (z := 3) (by decide) ?_
 refine o_static K X26  (w34 hw) (w35 hw) (w6 hw) (w36 hw) (by decide) (rm_field l Z a0 hw 100 i3 3 cs h9 (by decide) (by decide) q21 q22) (by decide) rfl (argsL := [.int 100, (.long i3), .int 3]) rfl (lenOf pd13 rfl) (W := 0) rfl (by decide) (by decide) (by decide) at_189 rfl ?_
 intro v27 T27 h27 X27 U27
 obtain ⟨s_27, sv_27, kv_27, rfl, u27_0, u27_1, u27_2, u27_3, u27_4, u27_5, u27_6⟩ := U27
 have G27_s : Z.heap.size ≤ s_27 := Nat.le_trans X26.ext0.1 u27_1
 have G27_sv : Z.heap.size ≤ sv_27 := Nat.le_trans X26.ext0.1 u27_2
 show oGoes pp ee bb ss Z T27 (mkF mm 192 _ [.ref s_27]) _ _ _
 refine o_goto K X27 at_192 (by decide) (pc' := 207) (by decide) ?_
 refine o_astore K X27 at_207 rfl rfl (L' := #[vI i0, vI i1, vI i2, vJ i3, sS, vI i4, vI i5, vI n, vI m, vI 1, vI 0, vI size, vI 0, vR rw, vR w, vR b1, vR b8, vR s0, vR s_27]) rfl ?_
 refine o_aload K X27 at_209 rfl rfl rfl ?_
 refine o_aload K X27 at_211 rfl rfl rfl ?_
 have m28 := (m25.keep u27_0)
 have n29 := oLz q6.lt (oLe g1)
 have n30 := oLn q6.lt y0_3 (oLe g8)
 have m31 := ((((((q7.ext E1).keep u2_0 nin0).keep u7_0 (ninS n29 nin0)).ext E8).keep u9_0 (ninS n30 nin0)).keep u27_0 nin0)
 have m32 := ((((((q8.ext E1).keep u2_0 nin0).keep u7_0 (ninS n29 nin0)).ext E8).keep u9_0 (ninS n30 nin0)).keep u27_0 nin0)
 have n33 := oLz q9.lt (oLe g1)
 have n34 := oLn q9.lt y0_3 (oLe g8)
 have m35 := ((((((q9.ext E1).keep u2_0 nin0).keep u7_0 (ninS n33 nin0)).ext E8).keep u9_0 (ninS n34 nin0)).keep u27_0 nin0)
 have y0_5 := Nat.le_trans (Nat.le_trans y0_3 E8.1) u9_0.1
 have n36 := oLsn q6.lt y0_5 u27_1
 refine o_virtual K X27   (w269 hw) (w270 hw) (oNF (w272 hw)) (w272 hw) (w271 hw) (w39 hw) (w273 hw) (by decide) u27_3 (rm_streq l Z a0 hw s_27 s0 sv_27 vz0 kv_27 kz0 (nar .byte (100 : Int32)) (nar .byte (oFx i3 (3 : Int32))) (nar .byte (100 : Int32)) (nar .byte (oFx i3 (3 : Int32))) cs h27 u27_3 u27_4 u27_5 u27_6 m28 m31 m32 m35 n36 rfl rfl q21 q22) (by decide) rfl (argsL := [.ref s0]) rfl (lenOf pd14 rfl) (W := 0) rfl (by decide) (by decide) (by decide) at_213 rfl ?_
 intro v37 T37 h37 X37 U37
 obtain ⟨rfl, rfl⟩ := U37
 show oGoes pp ee bb ss Z T37 (mkF mm 216 _ [.int 1]) _ _ _
 refine o_ireturnN K X37 .boolean at_216 rfl (by simp) (z' := 1) (by decide) ?_ (by decide) (by decide)
 exact hQ _ _ rfl
 refine o_new K X0 (w196 hw) (w197 hw) (w198 hw) at_126 rfl (by decide) (by decide) ?_
 intro T38 h38 b38 X38 g38 E38 A38 D38 G38
 have F38_file : Fld Z h38 b38 z4 "file" "Ljava/lang/String;" .null := (D38 (Or.inr (w218 hw)) (ty := (.object z0)) (by decide))
 have F38_index : Fld Z h38 b38 z4 "index" "I" (.int 0) := (D38 (Or.inr (w220 hw)) (ty := .int) (by decide))
 have F38_inJoined : Fld Z h38 b38 z4 "inJoined" "Z" (.int 0) := (D38 (Or.inr (w222 hw)) (ty := .boolean) (by decide))
 refine o_dup K X38 at_129 rfl rfl ?_
 refine o_iloadN K X38 at_130 rfl rfl ?_
 refine o_bipush K X38 at_131 rfl (z := 8) rfl ?_
 refine o_iushr K X38 at_133 rfl (z := ((i2.toUInt32 >>> ((8 : Int32) &&& 31).toUInt32).toInt32)) rfl ?_
 refine o_sipush K X38 at_134 rfl (z := 255) rfl ?_
 refine o_iand K X38 at_137 rfl (z := (((i2.toUInt32 >>> ((8 : Int32) &&& 31).toUInt32).toInt32) &&& (255 : Int32))) rfl ?_
 refine o_i2c K X38 at_138 rfl (z := (((i2.toUInt32 >>> ((8 : Int32) &&& 31).toUInt32).toInt32) &&& (255 : Int32))) (oNarMask ((i2.toUInt32 >>> ((8 : Int32) &&& 31).toUInt32).toInt32) (by decide)) ?_
 refine o_static K X38  (w199 hw) (w200 hw) (w39 hw) (w201 hw) (by decide) (rm_valueof l Z a0 hw (((i2.toUInt32 >>> ((8 : Int32) &&& 31).toUInt32).toInt32) &&& (255 : Int32)) cs h38 (oMask255 _) q21 q22) (by decide) rfl (argsL := [(.int (((i2.toUInt32 >>> ((8 : Int32) &&& 31).toUInt32).toInt32) &&& (255 : Int32)))]) rfl (lenOf pd29 rfl) (W := 2) rfl (by decide) (by decide) (by decide) at_139 rfl ?_
 intro v39 T39 h39 X39 U39
 obtain ⟨r_39, vb_39, k_39, rfl, u39_0, u39_1, u39_2, u39_3, u39_4, u39_5, u39_6⟩ := U39
 have G39_r : Z.heap.size ≤ r_39 := Nat.le_trans X38.ext0.1 u39_1
 have G39_vb : Z.heap.size ≤ vb_39 := Nat.le_trans X38.ext0.1 u39_5
 show oGoes pp ee bb ss Z T39 (mkF mm 142 _ [.ref r_39, .ref b38, .ref b38]) _ _ _
 refine o_iload K X39 at_142 rfl rfl ?_
 refine o_iload K X39 at_144 rfl rfl ?_
 have m40 := (A38.keep u39_0)
 have m41 := (F38_file.keep u39_0 nin0)
 have m42 := (F38_index.keep u39_0 nin0)
 have m43 := (F38_inJoined.keep u39_0 nin0)
 refine o_special K X39 (y := (⟨z4, "<init>", "(Ljava/lang/String;IZ)V"⟩ : MethodName)) rfl (w213 hw) (w214 hw) (w198 hw) (w215 hw) (by decide) (rm_dcol1 l Z a0 hw b38 r_39 1 h39 m40 G38 m41 m42 m43) (by decide) rfl (argsL := [.ref r_39, .int 1, .int 1]) rfl (lenOf pd30 rfl) (W := 1) rfl (by decide) (by decide) (by decide) at_146 rfl ?_
 intro v44 T44 h44 X44 U44
 obtain ⟨rfl, u44_0, u44_1, u44_2, u44_3, u44_4⟩ := U44
 show oGoes pp ee bb ss Z T44 (mkF mm 149 _ [.ref b38]) _ _ _
 refine o_astore K X44 at_149 rfl rfl (L' := #[vI i0, vI i1, vI i2, vJ i3, sS, vI i4, vI i5, vI n, vI m, vI 1, vI 0, vI size, vI 1, vR rw, vR w, vR b38, uS, uS, uS]) rfl ?_
 refine o_new K X44 (w223 hw) (w224 hw) (w225 hw) at_151 rfl (by decide) (by decide) ?_
 intro T45 h45 b45 X45 g45 E45 A45 D45 G45
 have F45_row : Fld Z h45 b45 z6 "row" z16 .null := (D45 (Or.inr (w231 hw)) (ty := (.object z2)) (by decide))
 have F45_match : Fld Z h45 b45 z6 "match" z16 .null := (D45 (Or.inr (w233 hw)) (ty := (.object z2)) (by decide))
 refine o_dup K X45 at_154 rfl rfl ?_
 refine o_aload K X45 at_155 rfl rfl rfl ?_
 refine o_aload K X45 at_157 rfl rfl rfl ?_
 refine o_special K X45 (y := (⟨z6, "<init>", z21⟩ : MethodName)) rfl (w226 hw) (w227 hw) (w225 hw) (w228 hw) (by decide) (rm_drow l Z a0 hw b45 rw (.ref w) h45 rfl A45 G45 F45_row F45_match) (by decide) rfl (argsL := [.ref rw, .ref w]) rfl (lenOf pd31 rfl) (W := 1) rfl (by decide) (by decide) (by decide) at_159 rfl ?_
 intro v46 T46 h46 X46 U46
 obtain ⟨rfl, u46_0, u46_1, u46_2, u46_3⟩ := U46
 show oGoes pp ee bb ss Z T46 (mkF mm 162 _ [.ref b45]) _ _ _
 refine o_astore K X46 at_162 rfl rfl (L' := #[vI i0, vI i1, vI i2, vJ i3, sS, vI i4, vI i5, vI n, vI m, vI 1, vI 0, vI size, vI 1, vR rw, vR w, vR b38, vR b45, uS, uS]) rfl ?_
 refine o_aload K X46 at_164 rfl rfl rfl ?_
 refine o_aload K X46 at_166 rfl rfl rfl ?_
 have m47 := ((u44_1.ext E45).keep u46_0)
 have n48 := oLn A38.lt (Nat.le_trans u39_0.1 u44_0.1) (oLe g45)
 have m49 := ((u44_4.ext E45).keep u46_0 (ninS n48 nin0))
 have m50 := ((u44_3.ext E45).keep u46_0 (ninS n48 nin0))
 have m51 := (((((q1.ext E38).keep u39_0).keep u44_0).ext E45).keep u46_0)
 have n52 := oLz q1.lt (oLe g38)
 have y0_3 := Nat.le_trans (Nat.le_trans E38.1 u39_0.1) u44_0.1
 have n53 := oLn q1.lt y0_3 (oLe g45)
 have m54 := (((((q2.ext E38).keep u39_0 nin0).keep u44_0 (ninS n52 nin0)).ext E45).keep u46_0 (ninS n53 nin0))
 have m55 := (((((q3.ext E38).keep u39_0).keep u44_0).ext E45).keep u46_0)
 have n56 := oLz q3.lt (oLe g38)
 have n57 := oLn q3.lt y0_3 (oLe g45)
 have m58 := (((((q4.ext E38).keep u39_0 nin0).keep u44_0 (ninS n56 nin0)).ext E45).keep u46_0 (ninS n57 nin0))
 have n59 := oLz q5.lt (oLe g38)
 have n60 := oLn q5.lt y0_3 (oLe g45)
 have m61 := (((((q5.ext E38).keep u39_0 nin0).keep u44_0 (ninS n59 nin0)).ext E45).keep u46_0 (ninS n60 nin0))
 have m62 := (((((q10.ext E38).keep u39_0).keep u44_0).ext E45).keep u46_0)
 refine o_virtual K X46   (w234 hw) (w235 hw) (oNF (w237 hw)) (w237 hw) (w236 hw) (w225 hw) (w238 hw) (by decide) u46_1 (rm_val1_3_1 l Z a0 hw b45 b38 w q y ky s0 s1 s2 h46 u46_1 m47 m49 m50 u46_3 m51 m54 m55 m58 m61 m62) (by decide) rfl (argsL := [.ref b38]) rfl (lenOf pd32 rfl) (W := 0) rfl (by decide) (by decide) (by decide) at_168 rfl ?_
 intro v63 T63 h63 X63 U63
 obtain ⟨rfl, rfl⟩ := U63
 show oGoes pp ee bb ss Z T63 (mkF mm 171 _ [.ref s1]) _ _ _
 refine o_astore K X63 at_171 rfl rfl (L' := #[vI i0, vI i1, vI i2, vJ i3, sS, vI i4, vI i5, vI n, vI m, vI 1, vI 0, vI size, vI 1, vR rw, vR w, vR b38, vR b45, vR s1, uS]) rfl ?_
 refine o_iload K X63 at_173 rfl rfl ?_
 refine o_if_eq_f K X63 at_175 rfl (by decide) ?_
 refine o_bipush K X63 at_178 rfl (z := 100) rfl ?_
 refine o_iload K X63 at_180 rfl rfl ?_
 refine o_iadd K X63 at_182 rfl (z := 101) (by decide) ?_
 refine o_i2c K X63 at_183 rfl (z := 101) (by decide) ?_
 refine o_lloadN K X63 at_184 rfl rfl ?_
 refine o_iconst K X63 at_185 rfl (z := 3) rfl ?_
 refine o_iload K X63 at_186 rfl rfl ?_
 refine o_iadd K X63 at_188 rfl (z := 4) (by decide) ?_
 refine o_static K X63  (w34 hw) (w35 hw) (w6 hw) (w36 hw) (by decide) (rm_field l Z a0 hw 101 i3 4 cs h46 (by decide) (by decide) q21 q22) (by decide) rfl (argsL := [.int 101, (.long i3), .int 4]) rfl (lenOf pd13 rfl) (W := 0) rfl (by decide) (by decide) (by decide) at_189 rfl ?_
 intro v64 T64 h64 X64 U64
 obtain ⟨s_64, sv_64, kv_64, rfl, u64_0, u64_1, u64_2, u64_3, u64_4, u64_5, u64_6⟩ := U64
 have G64_s : Z.heap.size ≤ s_64 := Nat.le_trans X63.ext0.1 u64_1
 have G64_sv : Z.heap.size ≤ sv_64 := Nat.le_trans X63.ext0.1 u64_2
 show oGoes pp ee bb ss Z T64 (mkF mm 192 _ [.ref s_64]) _ _ _
 refine o_goto K X64 at_192 (by decide) (pc' := 207) (by decide) ?_
 refine o_astore K X64 at_207 rfl rfl (L' := #[vI i0, vI i1, vI i2, vJ i3, sS, vI i4, vI i5, vI n, vI m, vI 1, vI 0, vI size, vI 1, vR rw, vR w, vR b38, vR b45, vR s1, vR s_64]) rfl ?_
 refine o_aload K X64 at_209 rfl rfl rfl ?_
 refine o_aload K X64 at_211 rfl rfl rfl ?_
 have m65 := (m62.keep u64_0)
 have n66 := oLz q10.lt (oLe g38)
 have n67 := oLn q10.lt y0_3 (oLe g45)
 have m68 := ((((((q11.ext E38).keep u39_0 nin0).keep u44_0 (ninS n66 nin0)).ext E45).keep u46_0 (ninS n67 nin0)).keep u64_0 nin0)
 have m69 := ((((((q12.ext E38).keep u39_0 nin0).keep u44_0 (ninS n66 nin0)).ext E45).keep u46_0 (ninS n67 nin0)).keep u64_0 nin0)
 have n70 := oLz q13.lt (oLe g38)
 have n71 := oLn q13.lt y0_3 (oLe g45)
 have m72 := ((((((q13.ext E38).keep u39_0 nin0).keep u44_0 (ninS n70 nin0)).ext E45).keep u46_0 (ninS n71 nin0)).keep u64_0 nin0)
 have y0_5 := Nat.le_trans (Nat.le_trans y0_3 E45.1) u46_0.1
 have n73 := oLsn q10.lt y0_5 u64_1
 refine o_virtual K X64   (w269 hw) (w270 hw) (oNF (w272 hw)) (w272 hw) (w271 hw) (w39 hw) (w273 hw) (by decide) u64_3 (rm_streq l Z a0 hw s_64 s1 sv_64 vz1 kv_64 kz1 (nar .byte (101 : Int32)) (nar .byte (oFx i3 (4 : Int32))) (nar .byte (101 : Int32)) (nar .byte (oFx i3 (4 : Int32))) cs h64 u64_3 u64_4 u64_5 u64_6 m65 m68 m69 m72 n73 rfl rfl q21 q22) (by decide) rfl (argsL := [.ref s1]) rfl (lenOf pd14 rfl) (W := 0) rfl (by decide) (by decide) (by decide) at_213 rfl ?_
 intro v74 T74 h74 X74 U74
 obtain ⟨rfl, rfl⟩ := U74
 show oGoes pp ee bb ss Z T74 (mkF mm 216 _ [.int 1]) _ _ _
 refine o_ireturnN K X74 .boolean at_216 rfl (by simp) (z' := 1) (by decide) ?_ (by decide) (by decide)
 exact hQ _ _ rfl
 refine o_new K X0 (w196 hw) (w197 hw) (w198 hw) at_126 rfl (by decide) (by decide) ?_
 intro T75 h75 b75 X75 g75 E75 A75 D75 G75
 have F75_file : Fld Z h75 b75 z4 "file" "Ljava/lang/String;" .null := (D75 (Or.inr (w218 hw)) (ty := (.object z0)) (by decide))
 have F75_index : Fld Z h75 b75 z4 "index" "I" (.int 0) := (D75 (Or.inr (w220 hw)) (ty := .int) (by decide))
 have F75_inJoined : Fld Z h75 b75 z4 "inJoined" "Z" (.int 0) := (D75 (Or.inr (w222 hw)) (ty := .boolean) (by decide))
 refine o_dup K X75 at_129 rfl rfl ?_
 refine o_iloadN K X75 at_130 rfl rfl ?_
 refine o_bipush K X75 at_131 rfl (z := 8) rfl ?_
 refine o_iushr K X75 at_133 rfl (z := ((i2.toUInt32 >>> ((8 : Int32) &&& 31).toUInt32).toInt32)) rfl ?_
 refine o_sipush K X75 at_134 rfl (z := 255) rfl ?_
 refine o_iand K X75 at_137 rfl (z := (((i2.toUInt32 >>> ((8 : Int32) &&& 31).toUInt32).toInt32) &&& (255 : Int32))) rfl ?_
 refine o_i2c K X75 at_138 rfl (z := (((i2.toUInt32 >>> ((8 : Int32) &&& 31).toUInt32).toInt32) &&& (255 : Int32))) (oNarMask ((i2.toUInt32 >>> ((8 : Int32) &&& 31).toUInt32).toInt32) (by decide)) ?_
 refine o_static K X75  (w199 hw) (w200 hw) (w39 hw) (w201 hw) (by decide) (rm_valueof l Z a0 hw (((i2.toUInt32 >>> ((8 : Int32) &&& 31).toUInt32).toInt32) &&& (255 : Int32)) cs h75 (oMask255 _) q21 q22) (by decide) rfl (argsL := [(.int (((i2.toUInt32 >>> ((8 : Int32) &&& 31).toUInt32).toInt32) &&& (255 : Int32)))]) rfl (lenOf pd29 rfl) (W := 2) rfl (by decide) (by decide) (by decide) at_139 rfl ?_
 intro v76 T76 h76 X76 U76
 obtain ⟨r_76, vb_76, k_76, rfl, u76_0, u76_1, u76_2, u76_3, u76_4, u76_5, u76_6⟩ := U76
 have G76_r : Z.heap.size ≤ r_76 := Nat.le_trans X75.ext0.1 u76_1
 have G76_vb : Z.heap.size ≤ vb_76 := Nat.le_trans X75.ext0.1 u76_5
 show oGoes pp ee bb ss Z T76 (mkF mm 142 _ [.ref r_76, .ref b75, .ref b75]) _ _ _
 refine o_iload K X76 at_142 rfl rfl ?_
 refine o_iload K X76 at_144 rfl rfl ?_
 have m77 := (A75.keep u76_0)
 have m78 := (F75_file.keep u76_0 nin0)
 have m79 := (F75_index.keep u76_0 nin0)
 have m80 := (F75_inJoined.keep u76_0 nin0)
 refine o_special K X76 (y := (⟨z4, "<init>", "(Ljava/lang/String;IZ)V"⟩ : MethodName)) rfl (w213 hw) (w214 hw) (w198 hw) (w215 hw) (by decide) (rm_dcol1 l Z a0 hw b75 r_76 2 h76 m77 G75 m78 m79 m80) (by decide) rfl (argsL := [.ref r_76, .int 2, .int 1]) rfl (lenOf pd30 rfl) (W := 1) rfl (by decide) (by decide) (by decide) at_146 rfl ?_
 intro v81 T81 h81 X81 U81
 obtain ⟨rfl, u81_0, u81_1, u81_2, u81_3, u81_4⟩ := U81
 show oGoes pp ee bb ss Z T81 (mkF mm 149 _ [.ref b75]) _ _ _
 refine o_astore K X81 at_149 rfl rfl (L' := #[vI i0, vI i1, vI i2, vJ i3, sS, vI i4, vI i5, vI n, vI m, vI 1, vI 0, vI size, vI 2, vR rw, vR w, vR b75, uS, uS, uS]) rfl ?_
 refine o_new K X81 (w223 hw) (w224 hw) (w225 hw) at_151 rfl (by decide) (by decide) ?_
 intro T82 h82 b82 X82 g82 E82 A82 D82 G82
 have F82_row : Fld Z h82 b82 z6 "row" z16 .null := (D82 (Or.inr (w231 hw)) (ty := (.object z2)) (by decide))
 have F82_match : Fld Z h82 b82 z6 "match" z16 .null := (D82 (Or.inr (w233 hw)) (ty := (.object z2)) (by decide))
 refine o_dup K X82 at_154 rfl rfl ?_
 refine o_aload K X82 at_155 rfl rfl rfl ?_
 refine o_aload K X82 at_157 rfl rfl rfl ?_
 refine o_special K X82 (y := (⟨z6, "<init>", z21⟩ : MethodName)) rfl (w226 hw) (w227 hw) (w225 hw) (w228 hw) (by decide) (rm_drow l Z a0 hw b82 rw (.ref w) h82 rfl A82 G82 F82_row F82_match) (by decide) rfl (argsL := [.ref rw, .ref w]) rfl (lenOf pd31 rfl) (W := 1) rfl (by decide) (by decide) (by decide) at_159 rfl ?_
 intro v83 T83 h83 X83 U83
 obtain ⟨rfl, u83_0, u83_1, u83_2, u83_3⟩ := U83
 show oGoes pp ee bb ss Z T83 (mkF mm 162 _ [.ref b82]) _ _ _
 refine o_astore K X83 at_162 rfl rfl (L' := #[vI i0, vI i1, vI i2, vJ i3, sS, vI i4, vI i5, vI n, vI m, vI 1, vI 0, vI size, vI 2, vR rw, vR w, vR b75, vR b82, uS, uS]) rfl ?_
 refine o_aload K X83 at_164 rfl rfl rfl ?_
 refine o_aload K X83 at_166 rfl rfl rfl ?_
 have m84 := ((u81_1.ext E82).keep u83_0)
 have n85 := oLn A75.lt (Nat.le_trans u76_0.1 u81_0.1) (oLe g82)
 have m86 := ((u81_4.ext E82).keep u83_0 (ninS n85 nin0))
 have m87 := ((u81_3.ext E82).keep u83_0 (ninS n85 nin0))
 have m88 := (((((q1.ext E75).keep u76_0).keep u81_0).ext E82).keep u83_0)
 have n89 := oLz q1.lt (oLe g75)
 have y0_3 := Nat.le_trans (Nat.le_trans E75.1 u76_0.1) u81_0.1
 have n90 := oLn q1.lt y0_3 (oLe g82)
 have m91 := (((((q2.ext E75).keep u76_0 nin0).keep u81_0 (ninS n89 nin0)).ext E82).keep u83_0 (ninS n90 nin0))
 have m92 := (((((q3.ext E75).keep u76_0).keep u81_0).ext E82).keep u83_0)
 have n93 := oLz q3.lt (oLe g75)
 have n94 := oLn q3.lt y0_3 (oLe g82)
 have m95 := (((((q4.ext E75).keep u76_0 nin0).keep u81_0 (ninS n93 nin0)).ext E82).keep u83_0 (ninS n94 nin0))
 have n96 := oLz q5.lt (oLe g75)
 have n97 := oLn q5.lt y0_3 (oLe g82)
 have m98 := (((((q5.ext E75).keep u76_0 nin0).keep u81_0 (ninS n96 nin0)).ext E82).keep u83_0 (ninS n97 nin0))
 have m99 := (((((q14.ext E75).keep u76_0).keep u81_0).ext E82).keep u83_0)
 refine o_virtual K X83   (w234 hw) (w235 hw) (oNF (w237 hw)) (w237 hw) (w236 hw) (w225 hw) (w238 hw) (by decide) u83_1 (rm_val1_3_2 l Z a0 hw b82 b75 w q y ky s0 s1 s2 h83 u83_1 m84 m86 m87 u83_3 m88 m91 m92 m95 m98 m99) (by decide) rfl (argsL := [.ref b75]) rfl (lenOf pd32 rfl) (W := 0) rfl (by decide) (by decide) (by decide) at_168 rfl ?_
 intro v100 T100 h100 X100 U100
 obtain ⟨rfl, rfl⟩ := U100
 show oGoes pp ee bb ss Z T100 (mkF mm 171 _ [.ref s2]) _ _ _
 refine o_astore K X100 at_171 rfl rfl (L' := #[vI i0, vI i1, vI i2, vJ i3, sS, vI i4, vI i5, vI n, vI m, vI 1, vI 0, vI size, vI 2, vR rw, vR w, vR b75, vR b82, vR s2, uS]) rfl ?_
 refine o_iload K X100 at_173 rfl rfl ?_
 refine o_if_eq_f K X100 at_175 rfl (by decide) ?_
 refine o_bipush K X100 at_178 rfl (z := 100) rfl ?_
 refine o_iload K X100 at_180 rfl rfl ?_
 refine o_iadd K X100 at_182 rfl (z := 102) (by decide) ?_
 refine o_i2c K X100 at_183 rfl (z := 102) (by decide) ?_
 refine o_lloadN K X100 at_184 rfl rfl ?_
 refine o_iconst K X100 at_185 rfl (z := 3) rfl ?_
 refine o_iload K X100 at_186 rfl rfl ?_
 refine o_iadd K X100 at_188 rfl (z := 5) (by decide) ?_
 refine o_static K X100  (w34 hw) (w35 hw) (w6 hw) (w36 hw) (by decide) (rm_field l Z a0 hw 102 i3 5 cs h83 (by decide) (by decide) q21 q22) (by decide) rfl (argsL := [.int 102, (.long i3), .int 5]) rfl (lenOf pd13 rfl) (W := 0) rfl (by decide) (by decide) (by decide) at_189 rfl ?_
 intro v101 T101 h101 X101 U101
 obtain ⟨s_101, sv_101, kv_101, rfl, u101_0, u101_1, u101_2, u101_3, u101_4, u101_5, u101_6⟩ := U101
 have G101_s : Z.heap.size ≤ s_101 := Nat.le_trans X100.ext0.1 u101_1
 have G101_sv : Z.heap.size ≤ sv_101 := Nat.le_trans X100.ext0.1 u101_2
 show oGoes pp ee bb ss Z T101 (mkF mm 192 _ [.ref s_101]) _ _ _
 refine o_goto K X101 at_192 (by decide) (pc' := 207) (by decide) ?_
 refine o_astore K X101 at_207 rfl rfl (L' := #[vI i0, vI i1, vI i2, vJ i3, sS, vI i4, vI i5, vI n, vI m, vI 1, vI 0, vI size, vI 2, vR rw, vR w, vR b75, vR b82, vR s2, vR s_101]) rfl ?_
 refine o_aload K X101 at_209 rfl rfl rfl ?_
 refine o_aload K X101 at_211 rfl rfl rfl ?_
 have m102 := (m99.keep u101_0)
 have n103 := oLz q14.lt (oLe g75)
 have n104 := oLn q14.lt y0_3 (oLe g82)
 have m105 := ((((((q15.ext E75).keep u76_0 nin0).keep u81_0 (ninS n103 nin0)).ext E82).keep u83_0 (ninS n104 nin0)).keep u101_0 nin0)
 have m106 := ((((((q16.ext E75).keep u76_0 nin0).keep u81_0 (ninS n103 nin0)).ext E82).keep u83_0 (ninS n104 nin0)).keep u101_0 nin0)
 have n107 := oLz q17.lt (oLe g75)
 have n108 := oLn q17.lt y0_3 (oLe g82)
 have m109 := ((((((q17.ext E75).keep u76_0 nin0).keep u81_0 (ninS n107 nin0)).ext E82).keep u83_0 (ninS n108 nin0)).keep u101_0 nin0)
 have y0_5 := Nat.le_trans (Nat.le_trans y0_3 E82.1) u83_0.1
 have n110 := oLsn q14.lt y0_5 u101_1
 refine o_virtual K X101   (w269 hw) (w270 hw) (oNF (w272 hw)) (w272 hw) (w271 hw) (w39 hw) (w273 hw) (by decide) u101_3 (rm_streq l Z a0 hw s_101 s2 sv_101 vz2 kv_101 kz2 (nar .byte (102 : Int32)) (nar .byte (oFx i3 (5 : Int32))) (nar .byte (102 : Int32)) (nar .byte (oFx i3 (5 : Int32))) cs h101 u101_3 u101_4 u101_5 u101_6 m102 m105 m106 m109 n110 rfl rfl q21 q22) (by decide) rfl (argsL := [.ref s2]) rfl (lenOf pd14 rfl) (W := 0) rfl (by decide) (by decide) (by decide) at_213 rfl ?_
 intro v111 T111 h111 X111 U111
 obtain ⟨rfl, rfl⟩ := U111
 show oGoes pp ee bb ss Z T111 (mkF mm 216 _ [.int 1]) _ _ _
 refine o_ireturnN K X111 .boolean at_216 rfl (by simp) (z' := 1) (by decide) ?_ (by decide) (by decide)
 exact hQ _ _ rfl
theorem pd33 : parseMethodDescriptor "(CIJI)Ljava/util/ArrayList;" = some ⟨[.char, .int, .long, .int], some (.object z1)⟩ := by decide +kernel
theorem pd34 : parseMethodDescriptor z15 = some ⟨[.int, (.object z7)], none⟩ := by decide +kernel
def Q_law (Z : State) (i0 i1 i2 : Int32) (i3 : Int64) (i4 i5 cs : Int32) (dce : Addr) (kd : ClassId) (mr em : Addr) (h0 : Heap) (v : Option Value) (h : Heap) : Prop := v = some (.int 1)
theorem rm_law (l : Launch) (Z : State) (a0 : Array Value) (hw : oHw Z a0) (i0 i1 i2 : Int32) (i3 : Int64) (i4 i5 cs : Int32) (dce : Addr) (kd : ClassId) (mr em : Addr) (h0 : Heap) (q0 : Sta Z Z.heap z0 "COMPACT_STRINGS" "Z" (.int cs)) (q1 : ¬ (cs = (0 : Int32))) (q2 : Sta Z Z.heap z1 z22 z5 (.ref dce)) (q3 : oArr Z Z.heap dce kd (.object z3) []) (q4 : oMir Z z5 mr) (q5 : Sta Z Z.heap z18 "EMPTY" z10 (.ref em)) (q6 : Exa Z Z.heap em z3) (ws : List Jvm.Cond) : oMet l Z x code maxLocals ret room_1 ws #[.int i0, .int i1, .int i2, (.long i3), .int i4, .int i5] h0 (Q_law Z i0 i1 i2 i3 i4 i5 cs dce kd mr em h0) := by
 refine oEnter (plainFor_of_name (by first | (simp [plainName, overriddenIn]; done) | decide +kernel)) (own := z12) (nm := "law") rfl rfl (L := #[.val (.int i0), .val (.int i1), .val (.int i2), .val (.long i3), .second, .val (.int i4), .val (.int i5), .unset, .unset, .unset, .unset, .unset, .unset, .unset, .unset, .unset, .unset, .unset, .unset]) (fun m => by first | (simp [entryFrame, mkF, argsToLocals, Value.category, maxLocals]; done) | rfl) ?_
 intro pp ee ss mm bb mtd cc T0 K X0
 have E0 := X0.ext0
 refine o_iconst K X0 at_0 rfl (z := 1) rfl ?_
 refine o_iloadN K X0 at_1 rfl rfl ?_
 refine o_ldc K X0 (w0 hw) at_2 rfl ?_
 refine o_iand K X0 at_4 rfl (z := (i0 &&& (2147483647 : Int32))) rfl ?_
 refine o_iconst K X0 at_5 rfl (z := 3) rfl ?_
 refine o_irem K X0 at_6 rfl (by decide) (z := ((i0 &&& (2147483647 : Int32)) % (3 : Int32))) rfl ?_
 refine o_iadd K X0 at_7 rfl (z := ((1 : Int32) + ((i0 &&& (2147483647 : Int32)) % (3 : Int32)))) rfl ?_
 refine o_istore K X0 at_8 rfl (L' := #[vI i0, vI i1, vI i2, vJ i3, sS, vI i4, vI i5, vI ((1 : Int32) + ((i0 &&& (2147483647 : Int32)) % (3 : Int32))), uS, uS, uS, uS, uS, uS, uS, uS, uS, uS, uS]) rfl ?_
 refine o_iconst K X0 at_10 rfl (z := 1) rfl ?_
 refine o_iloadN K X0 at_11 rfl rfl ?_
 refine o_bipush K X0 at_12 rfl (z := 8) rfl ?_
 refine o_iushr K X0 at_14 rfl (z := ((i0.toUInt32 >>> ((8 : Int32) &&& 31).toUInt32).toInt32)) rfl ?_
 refine o_ldc K X0 (w0 hw) at_15 rfl ?_
 refine o_iand K X0 at_17 rfl (z := (((i0.toUInt32 >>> ((8 : Int32) &&& 31).toUInt32).toInt32) &&& (2147483647 : Int32))) rfl ?_
 refine o_iconst K X0 at_18 rfl (z := 3) rfl ?_
 refine o_irem K X0 at_19 rfl (by decide) (z := ((((i0.toUInt32 >>> ((8 : Int32) &&& 31).toUInt32).toInt32) &&& (2147483647 : Int32)) % (3 : Int32))) rfl ?_
 refine o_iadd K X0 at_20 rfl (z := ((1 : Int32) + ((((i0.toUInt32 >>> ((8 : Int32) &&& 31).toUInt32).toInt32) &&& (2147483647 : Int32)) % (3 : Int32)))) rfl ?_
 refine o_istore K X0 at_21 rfl (L' := #[vI i0, vI i1, vI i2, vJ i3, sS, vI i4, vI i5, vI ((1 : Int32) + ((i0 &&& (2147483647 : Int32)) % (3 : Int32))), vI ((1 : Int32) + ((((i0.toUInt32 >>> ((8 : Int32) &&& 31).toUInt32).toInt32) &&& (2147483647 : Int32)) % (3 : Int32))), uS, uS, uS, uS, uS, uS, uS, uS, uS, uS]) rfl ?_
 refine o_iloadN K X0 at_23 rfl rfl ?_
 refine o_iconst K X0 at_24 rfl (z := 1) rfl ?_
 refine o_iand K X0 at_25 rfl (z := (i2 &&& (1 : Int32))) rfl ?_
 by_cases c26_1 : (i2 &&& (1 : Int32)) = (0 : Int32)
 refine o_if_eq_t K X0 at_26 (by decide) (pc' := 33) (by decide) c26_1 ?_
 refine o_iconst K X0 at_33 rfl (z := 0) rfl ?_
 refine o_istore K X0 at_34 rfl (L' := #[vI i0, vI i1, vI i2, vJ i3, sS, vI i4, vI i5, vI ((1 : Int32) + ((i0 &&& (2147483647 : Int32)) % (3 : Int32))), vI ((1 : Int32) + ((((i0.toUInt32 >>> ((8 : Int32) &&& 31).toUInt32).toInt32) &&& (2147483647 : Int32)) % (3 : Int32))), vI 0, uS, uS, uS, uS, uS, uS, uS, uS, uS]) rfl ?_
 refine o_iload K X0 at_36 rfl rfl ?_
 refine o_if_ne_f K X0 at_38 rfl (by decide) ?_
 refine o_iloadN K X0 at_41 rfl rfl ?_
 refine o_iconst K X0 at_42 rfl (z := 2) rfl ?_
 refine o_iand K X0 at_43 rfl (z := (i2 &&& (2 : Int32))) rfl ?_
 by_cases c44_2 : (i2 &&& (2 : Int32)) = (0 : Int32)
 refine o_if_eq_t K X0 at_44 (by decide) (pc' := 51) (by decide) c44_2 ?_
 refine o_iconst K X0 at_51 rfl (z := 0) rfl ?_
 refine o_istore K X0 at_52 rfl (L' := #[vI i0, vI i1, vI i2, vJ i3, sS, vI i4, vI i5, vI ((1 : Int32) + ((i0 &&& (2147483647 : Int32)) % (3 : Int32))), vI ((1 : Int32) + ((((i0.toUInt32 >>> ((8 : Int32) &&& 31).toUInt32).toInt32) &&& (2147483647 : Int32)) % (3 : Int32))), vI 0, vI 0, uS, uS, uS, uS, uS, uS, uS, uS]) rfl ?_
 refine o_iload K X0 at_54 rfl rfl ?_
 refine o_if_eq_t K X0 at_56 (by decide) (pc' := 64) (by decide) (by decide) ?_
 refine o_iload K X0 at_64 rfl rfl ?_
 refine o_istore K X0 at_66 rfl (L' := #[vI i0, vI i1, vI i2, vJ i3, sS, vI i4, vI i5, vI ((1 : Int32) + ((i0 &&& (2147483647 : Int32)) % (3 : Int32))), vI ((1 : Int32) + ((((i0.toUInt32 >>> ((8 : Int32) &&& 31).toUInt32).toInt32) &&& (2147483647 : Int32)) % (3 : Int32))), vI 0, vI 0, vI ((1 : Int32) + ((i0 &&& (2147483647 : Int32)) % (3 : Int32))), uS, uS, uS, uS, uS, uS, uS]) rfl ?_
 obtain ⟨n, e_n⟩ : ∃ x : Int32, x = ((1 : Int32) + ((i0 &&& (2147483647 : Int32)) % (3 : Int32))) := ⟨_, rfl⟩
 rw [← e_n]
 obtain ⟨m, e_m⟩ : ∃ x : Int32, x = ((1 : Int32) + ((((i0.toUInt32 >>> ((8 : Int32) &&& 31).toUInt32).toInt32) &&& (2147483647 : Int32)) % (3 : Int32))) := ⟨_, rfl⟩
 rw [← e_m]
 rcases oR3 i0 with z | z | z
 obtain rfl : n = (1 : Int32) := e_n.trans (by rw [z]; decide)
 rcases oR3 ((i0.toUInt32 >>> ((8 : Int32) &&& 31).toUInt32).toInt32) with z | z | z
 obtain rfl : m = (1 : Int32) := e_m.trans (by rw [z]; decide)
 refine o_iloadN K X0 at_68 rfl rfl ?_
 refine o_ldc K X0 (w0 hw) at_69 rfl ?_
 refine o_iand K X0 at_71 rfl (z := (i1 &&& (2147483647 : Int32))) rfl ?_
 refine o_iload K X0 at_72 rfl rfl ?_
 refine o_irem K X0 at_74 rfl (by decide) (z := ((i1 &&& (2147483647 : Int32)) % (1 : Int32))) rfl ?_
 refine o_istore K X0 at_75 rfl (L' := #[vI i0, vI i1, vI i2, vJ i3, sS, vI i4, vI i5, vI 1, vI 1, vI 0, vI 0, vI 1, vI ((i1 &&& (2147483647 : Int32)) % (1 : Int32)), uS, uS, uS, uS, uS, uS]) rfl ?_
 refine o_new K X0 (w1 hw) (w2 hw) (w3 hw) at_77 rfl (by decide) (by decide) ?_
 intro T3 h3 b3 X3 g3 E3 A3 D3 G3
 have F3_line : Fld Z h3 b3 z2 "line" "I" (.int 0) := (D3 (Or.inr (w193 hw)) (ty := .int) (by decide))
 have F3_fields : Fld Z h3 b3 z2 "fields" z11 .null := (D3 (Or.inr (w195 hw)) (ty := (.object z7)) (by decide))
 refine o_dup K X3 at_80 rfl rfl ?_
 refine o_iload K X3 at_81 rfl rfl ?_
 refine o_bipush K X3 at_83 rfl (z := 97) rfl ?_
 refine o_iload K X3 at_85 rfl rfl ?_
 refine o_lloadN K X3 at_87 rfl rfl ?_
 refine o_iconst K X3 at_88 rfl (z := 0) rfl ?_
 refine o_static K X3  (w4 hw) (w5 hw) (w6 hw) (w7 hw) (by decide) (rm_fields97_1 l Z a0 hw i3 cs dce kd h3 q0 q1 q2 q3) (by decide) rfl (argsL := [.int 97, .int 1, (.long i3), .int 0]) rfl (lenOf pd33 rfl) (W := 3) rfl (by decide) (by decide) (by decide) at_89 rfl ?_
 intro v4 T4 h4 X4 U4
 obtain ⟨l_4, r_4, kr_4, m_4, s0_4, vz0_4, kz0_4, rfl, u4_0, u4_1, u4_2, u4_3, u4_4, u4_5, u4_6, u4_7, u4_8, u4_9, u4_10, u4_11, u4_12, u4_13, u4_14⟩ := U4
 have G4_l : Z.heap.size ≤ l_4 := Nat.le_trans X3.ext0.1 u4_1
 have G4_r : Z.heap.size ≤ r_4 := Nat.le_trans X3.ext0.1 u4_6
 have G4_s0 : Z.heap.size ≤ s0_4 := Nat.le_trans X3.ext0.1 u4_10
 show oGoes pp ee bb ss Z T4 (mkF mm 92 _ [.ref l_4, .int i4, .ref b3, .ref b3]) _ _ _
 have m5 := (A3.keep u4_0)
 have m6 := (F3_line.keep u4_0 nin0)
 have m7 := (F3_fields.keep u4_0 nin0)
 refine o_special K X4 (y := (⟨z2, "<init>", z15⟩ : MethodName)) rfl (w97 hw) (w98 hw) (w3 hw) (w99 hw) (by decide) (rm_crow1 l Z a0 hw b3 i4 l_4 r_4 kr_4 s0_4 mr em h4 m5 m6 m7 G3 u4_2 u4_3 u4_4 u4_7 u4_8 u4_11 q4 q5) (by decide) rfl (argsL := [.int i4, .ref l_4]) rfl (lenOf pd34 rfl) (W := 1) rfl (by decide) (by decide) (by decide) at_92 rfl ?_
 intro v8 T8 h8 X8 U8
 obtain ⟨q_8, rfl, u8_0, u8_1, u8_2, u8_3, u8_4, u8_5, u8_6⟩ := U8
 show oGoes pp ee bb ss Z T8 (mkF mm 95 _ [.ref b3]) _ _ _
 refine o_astore K X8 at_95 rfl rfl (L' := #[vI i0, vI i1, vI i2, vJ i3, sS, vI i4, vI i5, vI 1, vI 1, vI 0, vI 0, vI 1, vI ((i1 &&& (2147483647 : Int32)) % (1 : Int32)), vR b3, uS, uS, uS, uS, uS]) rfl ?_
 refine o_iload K X8 at_97 rfl rfl ?_
 refine o_if_eq_t K X8 at_99 (by decide) (pc' := 106) (by decide) (by decide) ?_
 refine o_new K X8 (w1 hw) (w2 hw) (w3 hw) at_106 rfl (by decide) (by decide) ?_
 intro T9 h9 b9 X9 g9 E9 A9 D9 G9
 have F9_line : Fld Z h9 b9 z2 "line" "I" (.int 0) := (D9 (Or.inr (w193 hw)) (ty := .int) (by decide))
 have F9_fields : Fld Z h9 b9 z2 "fields" z11 .null := (D9 (Or.inr (w195 hw)) (ty := (.object z7)) (by decide))
 refine o_dup K X9 at_109 rfl rfl ?_
 refine o_iload K X9 at_110 rfl rfl ?_
 refine o_bipush K X9 at_112 rfl (z := 100) rfl ?_
 refine o_iload K X9 at_114 rfl rfl ?_
 refine o_lloadN K X9 at_116 rfl rfl ?_
 refine o_iconst K X9 at_117 rfl (z := 3) rfl ?_
 refine o_static K X9  (w4 hw) (w5 hw) (w6 hw) (w7 hw) (by decide) (rm_fields100_1 l Z a0 hw i3 cs dce kd h9 q0 q1 q2 q3) (by decide) rfl (argsL := [.int 100, .int 1, (.long i3), .int 3]) rfl (lenOf pd33 rfl) (W := 3) rfl (by decide) (by decide) (by decide) at_118 rfl ?_
 intro v10 T10 h10 X10 U10
 obtain ⟨l_10, r_10, kr_10, m_10, s0_10, vz0_10, kz0_10, rfl, u10_0, u10_1, u10_2, u10_3, u10_4, u10_5, u10_6, u10_7, u10_8, u10_9, u10_10, u10_11, u10_12, u10_13, u10_14⟩ := U10
 have G10_l : Z.heap.size ≤ l_10 := Nat.le_trans X9.ext0.1 u10_1
 have G10_r : Z.heap.size ≤ r_10 := Nat.le_trans X9.ext0.1 u10_6
 have G10_s0 : Z.heap.size ≤ s0_10 := Nat.le_trans X9.ext0.1 u10_10
 show oGoes pp ee bb ss Z T10 (mkF mm 121 _ [.ref l_10, .int i5, .ref b9, .ref b9]) _ _ _
 have m11 := (A9.keep u10_0)
 have m12 := (F9_line.keep u10_0 nin0)
 have m13 := (F9_fields.keep u10_0 nin0)
 refine o_special K X10 (y := (⟨z2, "<init>", z15⟩ : MethodName)) rfl (w97 hw) (w98 hw) (w3 hw) (w99 hw) (by decide) (rm_crow1 l Z a0 hw b9 i5 l_10 r_10 kr_10 s0_10 mr em h10 m11 m12 m13 G9 u10_2 u10_3 u10_4 u10_7 u10_8 u10_11 q4 q5) (by decide) rfl (argsL := [.int i5, .ref l_10]) rfl (lenOf pd34 rfl) (W := 1) rfl (by decide) (by decide) (by decide) at_121 rfl ?_
 intro v14 T14 h14 X14 U14
 obtain ⟨q_14, rfl, u14_0, u14_1, u14_2, u14_3, u14_4, u14_5, u14_6⟩ := U14
 show oGoes pp ee bb ss Z T14 (mkF mm 124 _ [.ref b9]) _ _ _
 refine o_astore K X14 at_124 rfl rfl (L' := #[vI i0, vI i1, vI i2, vJ i3, sS, vI i4, vI i5, vI 1, vI 1, vI 0, vI 0, vI 1, vI ((i1 &&& (2147483647 : Int32)) % (1 : Int32)), vR b3, vR b9, uS, uS, uS, uS]) rfl ?_
 have m16 := (((u8_1.ext E9).keep u10_0).keep u14_0)
 have n17 := oLn A3.lt (Nat.le_trans u4_0.1 u8_0.1) (oLe g9)
 have m18 := (((u8_3.ext E9).keep u10_0 nin0).keep u14_0 (ninS n17 nin0))
 have m19 := (((u8_4.ext E9).keep u10_0).keep u14_0)
 have n20 := oLz u8_4.lt (oLe g9)
 have m21 := (((u8_5.ext E9).keep u10_0 nin0).keep u14_0 (ninS n20 nin0))
 have m22 := (((u8_6.ext E9).keep u10_0 nin0).keep u14_0 (ninS n20 nin0))
 have m23 := ((((u4_11.keep u8_0).ext E9).keep u10_0).keep u14_0)
 have n24 := oLsz A3.lt u4_10
 have n25 := oLn u4_11.lt u8_0.1 (oLe g9)
 have m26 := ((((u4_12.keep u8_0 (ninS n24 nin0)).ext E9).keep u10_0 nin0).keep u14_0 (ninS n25 nin0))
 have m27 := ((((u4_13.keep u8_0 (ninS n24 nin0)).ext E9).keep u10_0 nin0).keep u14_0 (ninS n25 nin0))
 have n28 : vz0_4 ≠ b3 := (oNeArr (A3.keep u4_0) (w2 hw) u4_14)
 have n29 := oLn u4_14.lt u8_0.1 (oLe g9)
 have m30 := ((((u4_14.keep u8_0 (ninS n28 nin0)).ext E9).keep u10_0 nin0).keep u14_0 (ninS n29 nin0))
 refine tl_lw0_1 l Z a0 hw i0 i1 i2 i3 i4 i5 1 1 0 1 ((i1 &&& (2147483647 : Int32)) % (1 : Int32)) (.ref b9) b3 q_8 s0_4 vz0_4 kz0_4 cs em h14 (oR1 i1) m16 m18 m19 m21 m22 m23 m26 m27 m30 G4_s0 q0 q1 q5 q6 rfl (fun v15 h15 U15 => ?_) K (X14.mono (by decide) (by decide))
 obtain rfl : v15 = some (.int 1) := U15
 exact rfl
 obtain rfl : m = (2 : Int32) := e_m.trans (by rw [z]; decide)
 refine o_iloadN K X0 at_68 rfl rfl ?_
 refine o_ldc K X0 (w0 hw) at_69 rfl ?_
 refine o_iand K X0 at_71 rfl (z := (i1 &&& (2147483647 : Int32))) rfl ?_
 refine o_iload K X0 at_72 rfl rfl ?_
 refine o_irem K X0 at_74 rfl (by decide) (z := ((i1 &&& (2147483647 : Int32)) % (1 : Int32))) rfl ?_
 refine o_istore K X0 at_75 rfl (L' := #[vI i0, vI i1, vI i2, vJ i3, sS, vI i4, vI i5, vI 1, vI 2, vI 0, vI 0, vI 1, vI ((i1 &&& (2147483647 : Int32)) % (1 : Int32)), uS, uS, uS, uS, uS, uS]) rfl ?_
 refine o_new K X0 (w1 hw) (w2 hw) (w3 hw) at_77 rfl (by decide) (by decide) ?_
 intro T31 h31 b31 X31 g31 E31 A31 D31 G31
 have F31_line : Fld Z h31 b31 z2 "line" "I" (.int 0) := (D31 (Or.inr (w193 hw)) (ty := .int) (by decide))
 have F31_fields : Fld Z h31 b31 z2 "fields" z11 .null := (D31 (Or.inr (w195 hw)) (ty := (.object z7)) (by decide))
 refine o_dup K X31 at_80 rfl rfl ?_
 refine o_iload K X31 at_81 rfl rfl ?_
 refine o_bipush K X31 at_83 rfl (z := 97) rfl ?_
 refine o_iload K X31 at_85 rfl rfl ?_
 refine o_lloadN K X31 at_87 rfl rfl ?_
 refine o_iconst K X31 at_88 rfl (z := 0) rfl ?_
 refine o_static K X31  (w4 hw) (w5 hw) (w6 hw) (w7 hw) (by decide) (rm_fields97_1 l Z a0 hw i3 cs dce kd h31 q0 q1 q2 q3) (by decide) rfl (argsL := [.int 97, .int 1, (.long i3), .int 0]) rfl (lenOf pd33 rfl) (W := 3) rfl (by decide) (by decide) (by decide) at_89 rfl ?_
 intro v32 T32 h32 X32 U32
 obtain ⟨l_32, r_32, kr_32, m_32, s0_32, vz0_32, kz0_32, rfl, u32_0, u32_1, u32_2, u32_3, u32_4, u32_5, u32_6, u32_7, u32_8, u32_9, u32_10, u32_11, u32_12, u32_13, u32_14⟩ := U32
 have G32_l : Z.heap.size ≤ l_32 := Nat.le_trans X31.ext0.1 u32_1
 have G32_r : Z.heap.size ≤ r_32 := Nat.le_trans X31.ext0.1 u32_6
 have G32_s0 : Z.heap.size ≤ s0_32 := Nat.le_trans X31.ext0.1 u32_10
 show oGoes pp ee bb ss Z T32 (mkF mm 92 _ [.ref l_32, .int i4, .ref b31, .ref b31]) _ _ _
 have m33 := (A31.keep u32_0)
 have m34 := (F31_line.keep u32_0 nin0)
 have m35 := (F31_fields.keep u32_0 nin0)
 refine o_special K X32 (y := (⟨z2, "<init>", z15⟩ : MethodName)) rfl (w97 hw) (w98 hw) (w3 hw) (w99 hw) (by decide) (rm_crow1 l Z a0 hw b31 i4 l_32 r_32 kr_32 s0_32 mr em h32 m33 m34 m35 G31 u32_2 u32_3 u32_4 u32_7 u32_8 u32_11 q4 q5) (by decide) rfl (argsL := [.int i4, .ref l_32]) rfl (lenOf pd34 rfl) (W := 1) rfl (by decide) (by decide) (by decide) at_92 rfl ?_
 intro v36 T36 h36 X36 U36
 obtain ⟨q_36, rfl, u36_0, u36_1, u36_2, u36_3, u36_4, u36_5, u36_6⟩ := U36
 show oGoes pp ee bb ss Z T36 (mkF mm 95 _ [.ref b31]) _ _ _
 refine o_astore K X36 at_95 rfl rfl (L' := #[vI i0, vI i1, vI i2, vJ i3, sS, vI i4, vI i5, vI 1, vI 2, vI 0, vI 0, vI 1, vI ((i1 &&& (2147483647 : Int32)) % (1 : Int32)), vR b31, uS, uS, uS, uS, uS]) rfl ?_
 refine o_iload K X36 at_97 rfl rfl ?_
 refine o_if_eq_t K X36 at_99 (by decide) (pc' := 106) (by decide) (by decide) ?_
 refine o_new K X36 (w1 hw) (w2 hw) (w3 hw) at_106 rfl (by decide) (by decide) ?_
 intro T37 h37 b37 X37 g37 E37 A37 D37 G37
 have F37_line : Fld Z h37 b37 z2 "line" "I" (.int 0) := (D37 (Or.inr (w193 hw)) (ty := .int) (by decide))
 have F37_fields : Fld Z h37 b37 z2 "fields" z11 .null := (D37 (Or.inr (w195 hw)) (ty := (.object z7)) (by decide))
 refine o_dup K X37 at_109 rfl rfl ?_
 refine o_iload K X37 at_110 rfl rfl ?_
 refine o_bipush K X37 at_112 rfl (z := 100) rfl ?_
 refine o_iload K X37 at_114 rfl rfl ?_
 refine o_lloadN K X37 at_116 rfl rfl ?_
 refine o_iconst K X37 at_117 rfl (z := 3) rfl ?_
 refine o_static K X37  (w4 hw) (w5 hw) (w6 hw) (w7 hw) (by decide) (rm_fields100_2 l Z a0 hw i3 cs dce kd h37 q0 q1 q2 q3) (by decide) rfl (argsL := [.int 100, .int 2, (.long i3), .int 3]) rfl (lenOf pd33 rfl) (W := 3) rfl (by decide) (by decide) (by decide) at_118 rfl ?_
 intro v38 T38 h38 X38 U38
 obtain ⟨l_38, r_38, kr_38, m_38, s0_38, vz0_38, kz0_38, s1_38, vz1_38, kz1_38, rfl, u38_0, u38_1, u38_2, u38_3, u38_4, u38_5, u38_6, u38_7, u38_8, u38_9, u38_10, u38_11, u38_12, u38_13, u38_14, u38_15, u38_16, u38_17, u38_18, u38_19⟩ := U38
 have G38_l : Z.heap.size ≤ l_38 := Nat.le_trans X37.ext0.1 u38_1
 have G38_r : Z.heap.size ≤ r_38 := Nat.le_trans X37.ext0.1 u38_6
 have G38_s0 : Z.heap.size ≤ s0_38 := Nat.le_trans X37.ext0.1 u38_10
 have G38_s1 : Z.heap.size ≤ s1_38 := Nat.le_trans X37.ext0.1 u38_11
 show oGoes pp ee bb ss Z T38 (mkF mm 121 _ [.ref l_38, .int i5, .ref b37, .ref b37]) _ _ _
 have m39 := (A37.keep u38_0)
 have m40 := (F37_line.keep u38_0 nin0)
 have m41 := (F37_fields.keep u38_0 nin0)
 refine o_special K X38 (y := (⟨z2, "<init>", z15⟩ : MethodName)) rfl (w97 hw) (w98 hw) (w3 hw) (w99 hw) (by decide) (rm_crow2 l Z a0 hw b37 i5 l_38 r_38 kr_38 s0_38 s1_38 mr h38 m39 m40 m41 G37 u38_2 u38_3 u38_4 u38_7 u38_8 u38_12 u38_16 q4) (by decide) rfl (argsL := [.int i5, .ref l_38]) rfl (lenOf pd34 rfl) (W := 1) rfl (by decide) (by decide) (by decide) at_121 rfl ?_
 intro v42 T42 h42 X42 U42
 obtain ⟨q_42, rfl, u42_0, u42_1, u42_2, u42_3, u42_4, u42_5, u42_6⟩ := U42
 show oGoes pp ee bb ss Z T42 (mkF mm 124 _ [.ref b37]) _ _ _
 refine o_astore K X42 at_124 rfl rfl (L' := #[vI i0, vI i1, vI i2, vJ i3, sS, vI i4, vI i5, vI 1, vI 2, vI 0, vI 0, vI 1, vI ((i1 &&& (2147483647 : Int32)) % (1 : Int32)), vR b31, vR b37, uS, uS, uS, uS]) rfl ?_
 have m44 := (((u36_1.ext E37).keep u38_0).keep u42_0)
 have n45 := oLn A31.lt (Nat.le_trans u32_0.1 u36_0.1) (oLe g37)
 have m46 := (((u36_3.ext E37).keep u38_0 nin0).keep u42_0 (ninS n45 nin0))
 have m47 := (((u36_4.ext E37).keep u38_0).keep u42_0)
 have n48 := oLz u36_4.lt (oLe g37)
 have m49 := (((u36_5.ext E37).keep u38_0 nin0).keep u42_0 (ninS n48 nin0))
 have m50 := (((u36_6.ext E37).keep u38_0 nin0).keep u42_0 (ninS n48 nin0))
 have m51 := ((((u32_11.keep u36_0).ext E37).keep u38_0).keep u42_0)
 have n52 := oLsz A31.lt u32_10
 have n53 := oLn u32_11.lt u36_0.1 (oLe g37)
 have m54 := ((((u32_12.keep u36_0 (ninS n52 nin0)).ext E37).keep u38_0 nin0).keep u42_0 (ninS n53 nin0))
 have m55 := ((((u32_13.keep u36_0 (ninS n52 nin0)).ext E37).keep u38_0 nin0).keep u42_0 (ninS n53 nin0))
 have n56 : vz0_32 ≠ b31 := (oNeArr (A31.keep u32_0) (w2 hw) u32_14)
 have n57 := oLn u32_14.lt u36_0.1 (oLe g37)
 have m58 := ((((u32_14.keep u36_0 (ninS n56 nin0)).ext E37).keep u38_0 nin0).keep u42_0 (ninS n57 nin0))
 refine tl_lw0_1 l Z a0 hw i0 i1 i2 i3 i4 i5 1 2 0 1 ((i1 &&& (2147483647 : Int32)) % (1 : Int32)) (.ref b37) b31 q_36 s0_32 vz0_32 kz0_32 cs em h42 (oR1 i1) m44 m46 m47 m49 m50 m51 m54 m55 m58 G32_s0 q0 q1 q5 q6 rfl (fun v43 h43 U43 => ?_) K (X42.mono (by decide) (by decide))
 obtain rfl : v43 = some (.int 1) := U43
 exact rfl
 obtain rfl : m = (3 : Int32) := e_m.trans (by rw [z]; decide)
 refine o_iloadN K X0 at_68 rfl rfl ?_
 refine o_ldc K X0 (w0 hw) at_69 rfl ?_
 refine o_iand K X0 at_71 rfl (z := (i1 &&& (2147483647 : Int32))) rfl ?_
 refine o_iload K X0 at_72 rfl rfl ?_
 refine o_irem K X0 at_74 rfl (by decide) (z := ((i1 &&& (2147483647 : Int32)) % (1 : Int32))) rfl ?_
 refine o_istore K X0 at_75 rfl (L' := #[vI i0, vI i1, vI i2, vJ i3, sS, vI i4, vI i5, vI 1, vI 3, vI 0, vI 0, vI 1, vI ((i1 &&& (2147483647 : Int32)) % (1 : Int32)), uS, uS, uS, uS, uS, uS]) rfl ?_
 refine o_new K X0 (w1 hw) (w2 hw) (w3 hw) at_77 rfl (by decide) (by decide) ?_
 intro T59 h59 b59 X59 g59 E59 A59 D59 G59
 have F59_line : Fld Z h59 b59 z2 "line" "I" (.int 0) := (D59 (Or.inr (w193 hw)) (ty := .int) (by decide))
 have F59_fields : Fld Z h59 b59 z2 "fields" z11 .null := (D59 (Or.inr (w195 hw)) (ty := (.object z7)) (by decide))
 refine o_dup K X59 at_80 rfl rfl ?_
 refine o_iload K X59 at_81 rfl rfl ?_
 refine o_bipush K X59 at_83 rfl (z := 97) rfl ?_
 refine o_iload K X59 at_85 rfl rfl ?_
 refine o_lloadN K X59 at_87 rfl rfl ?_
 refine o_iconst K X59 at_88 rfl (z := 0) rfl ?_
 refine o_static K X59  (w4 hw) (w5 hw) (w6 hw) (w7 hw) (by decide) (rm_fields97_1 l Z a0 hw i3 cs dce kd h59 q0 q1 q2 q3) (by decide) rfl (argsL := [.int 97, .int 1, (.long i3), .int 0]) rfl (lenOf pd33 rfl) (W := 3) rfl (by decide) (by decide) (by decide) at_89 rfl ?_
 intro v60 T60 h60 X60 U60
 obtain ⟨l_60, r_60, kr_60, m_60, s0_60, vz0_60, kz0_60, rfl, u60_0, u60_1, u60_2, u60_3, u60_4, u60_5, u60_6, u60_7, u60_8, u60_9, u60_10, u60_11, u60_12, u60_13, u60_14⟩ := U60
 have G60_l : Z.heap.size ≤ l_60 := Nat.le_trans X59.ext0.1 u60_1
 have G60_r : Z.heap.size ≤ r_60 := Nat.le_trans X59.ext0.1 u60_6
 have G60_s0 : Z.heap.size ≤ s0_60 := Nat.le_trans X59.ext0.1 u60_10
 show oGoes pp ee bb ss Z T60 (mkF mm 92 _ [.ref l_60, .int i4, .ref b59, .ref b59]) _ _ _
 have m61 := (A59.keep u60_0)
 have m62 := (F59_line.keep u60_0 nin0)
 have m63 := (F59_fields.keep u60_0 nin0)
 refine o_special K X60 (y := (⟨z2, "<init>", z15⟩ : MethodName)) rfl (w97 hw) (w98 hw) (w3 hw) (w99 hw) (by decide) (rm_crow1 l Z a0 hw b59 i4 l_60 r_60 kr_60 s0_60 mr em h60 m61 m62 m63 G59 u60_2 u60_3 u60_4 u60_7 u60_8 u60_11 q4 q5) (by decide) rfl (argsL := [.int i4, .ref l_60]) rfl (lenOf pd34 rfl) (W := 1) rfl (by decide) (by decide) (by decide) at_92 rfl ?_
 intro v64 T64 h64 X64 U64
 obtain ⟨q_64, rfl, u64_0, u64_1, u64_2, u64_3, u64_4, u64_5, u64_6⟩ := U64
 show oGoes pp ee bb ss Z T64 (mkF mm 95 _ [.ref b59]) _ _ _
 refine o_astore K X64 at_95 rfl rfl (L' := #[vI i0, vI i1, vI i2, vJ i3, sS, vI i4, vI i5, vI 1, vI 3, vI 0, vI 0, vI 1, vI ((i1 &&& (2147483647 : Int32)) % (1 : Int32)), vR b59, uS, uS, uS, uS, uS]) rfl ?_
 refine o_iload K X64 at_97 rfl rfl ?_
 refine o_if_eq_t K X64 at_99 (by decide) (pc' := 106) (by decide) (by decide) ?_
 refine o_new K X64 (w1 hw) (w2 hw) (w3 hw) at_106 rfl (by decide) (by decide) ?_
 intro T65 h65 b65 X65 g65 E65 A65 D65 G65
 have F65_line : Fld Z h65 b65 z2 "line" "I" (.int 0) := (D65 (Or.inr (w193 hw)) (ty := .int) (by decide))
 have F65_fields : Fld Z h65 b65 z2 "fields" z11 .null := (D65 (Or.inr (w195 hw)) (ty := (.object z7)) (by decide))
 refine o_dup K X65 at_109 rfl rfl ?_
 refine o_iload K X65 at_110 rfl rfl ?_
 refine o_bipush K X65 at_112 rfl (z := 100) rfl ?_
 refine o_iload K X65 at_114 rfl rfl ?_
 refine o_lloadN K X65 at_116 rfl rfl ?_
 refine o_iconst K X65 at_117 rfl (z := 3) rfl ?_
 refine o_static K X65  (w4 hw) (w5 hw) (w6 hw) (w7 hw) (by decide) (rm_fields100_3 l Z a0 hw i3 cs dce kd h65 q0 q1 q2 q3) (by decide) rfl (argsL := [.int 100, .int 3, (.long i3), .int 3]) rfl (lenOf pd33 rfl) (W := 3) rfl (by decide) (by decide) (by decide) at_118 rfl ?_
 intro v66 T66 h66 X66 U66
 obtain ⟨l_66, r_66, kr_66, m_66, s0_66, vz0_66, kz0_66, s1_66, vz1_66, kz1_66, s2_66, vz2_66, kz2_66, rfl, u66_0, u66_1, u66_2, u66_3, u66_4, u66_5, u66_6, u66_7, u66_8, u66_9, u66_10, u66_11, u66_12, u66_13, u66_14, u66_15, u66_16, u66_17, u66_18, u66_19, u66_20, u66_21, u66_22, u66_23, u66_24⟩ := U66
 have G66_l : Z.heap.size ≤ l_66 := Nat.le_trans X65.ext0.1 u66_1
 have G66_r : Z.heap.size ≤ r_66 := Nat.le_trans X65.ext0.1 u66_6
 have G66_s0 : Z.heap.size ≤ s0_66 := Nat.le_trans X65.ext0.1 u66_10
 have G66_s1 : Z.heap.size ≤ s1_66 := Nat.le_trans X65.ext0.1 u66_11
 have G66_s2 : Z.heap.size ≤ s2_66 := Nat.le_trans X65.ext0.1 u66_12
 show oGoes pp ee bb ss Z T66 (mkF mm 121 _ [.ref l_66, .int i5, .ref b65, .ref b65]) _ _ _
 have m67 := (A65.keep u66_0)
 have m68 := (F65_line.keep u66_0 nin0)
 have m69 := (F65_fields.keep u66_0 nin0)
 refine o_special K X66 (y := (⟨z2, "<init>", z15⟩ : MethodName)) rfl (w97 hw) (w98 hw) (w3 hw) (w99 hw) (by decide) (rm_crow3 l Z a0 hw b65 i5 l_66 r_66 kr_66 s0_66 s1_66 s2_66 mr h66 m67 m68 m69 G65 u66_2 u66_3 u66_4 u66_7 u66_8 u66_13 u66_17 u66_21 q4) (by decide) rfl (argsL := [.int i5, .ref l_66]) rfl (lenOf pd34 rfl) (W := 1) rfl (by decide) (by decide) (by decide) at_121 rfl ?_
 intro v70 T70 h70 X70 U70
 obtain ⟨q_70, y_70, ky_70, rfl, u70_0, u70_1, u70_2, u70_3, u70_4, u70_5, u70_6⟩ := U70
 show oGoes pp ee bb ss Z T70 (mkF mm 124 _ [.ref b65]) _ _ _
 refine o_astore K X70 at_124 rfl rfl (L' := #[vI i0, vI i1, vI i2, vJ i3, sS, vI i4, vI i5, vI 1, vI 3, vI 0, vI 0, vI 1, vI ((i1 &&& (2147483647 : Int32)) % (1 : Int32)), vR b59, vR b65, uS, uS, uS, uS]) rfl ?_
 have m72 := (((u64_1.ext E65).keep u66_0).keep u70_0)
 have n73 := oLn A59.lt (Nat.le_trans u60_0.1 u64_0.1) (oLe g65)
 have m74 := (((u64_3.ext E65).keep u66_0 nin0).keep u70_0 (ninS n73 nin0))
 have m75 := (((u64_4.ext E65).keep u66_0).keep u70_0)
 have n76 := oLz u64_4.lt (oLe g65)
 have m77 := (((u64_5.ext E65).keep u66_0 nin0).keep u70_0 (ninS n76 nin0))
 have m78 := (((u64_6.ext E65).keep u66_0 nin0).keep u70_0 (ninS n76 nin0))
 have m79 := ((((u60_11.keep u64_0).ext E65).keep u66_0).keep u70_0)
 have n80 := oLsz A59.lt u60_10
 have n81 := oLn u60_11.lt u64_0.1 (oLe g65)
 have m82 := ((((u60_12.keep u64_0 (ninS n80 nin0)).ext E65).keep u66_0 nin0).keep u70_0 (ninS n81 nin0))
 have m83 := ((((u60_13.keep u64_0 (ninS n80 nin0)).ext E65).keep u66_0 nin0).keep u70_0 (ninS n81 nin0))
 have n84 : vz0_60 ≠ b59 := (oNeArr (A59.keep u60_0) (w2 hw) u60_14)
 have n85 := oLn u60_14.lt u64_0.1 (oLe g65)
 have m86 := ((((u60_14.keep u64_0 (ninS n84 nin0)).ext E65).keep u66_0 nin0).keep u70_0 (ninS n85 nin0))
 refine tl_lw0_1 l Z a0 hw i0 i1 i2 i3 i4 i5 1 3 0 1 ((i1 &&& (2147483647 : Int32)) % (1 : Int32)) (.ref b65) b59 q_64 s0_60 vz0_60 kz0_60 cs em h70 (oR1 i1) m72 m74 m75 m77 m78 m79 m82 m83 m86 G60_s0 q0 q1 q5 q6 rfl (fun v71 h71 U71 => ?_) K (X70.mono (by decide) (by decide))
 obtain rfl : v71 = some (.int 1) := U71
 exact rfl
 obtain rfl : n = (2 : Int32) := e_n.trans (by rw [z]; decide)
 rcases oR3 ((i0.toUInt32 >>> ((8 : Int32) &&& 31).toUInt32).toInt32) with z | z | z
 obtain rfl : m = (1 : Int32) := e_m.trans (by rw [z]; decide)
 refine o_iloadN K X0 at_68 rfl rfl ?_
 refine o_ldc K X0 (w0 hw) at_69 rfl ?_
 refine o_iand K X0 at_71 rfl (z := (i1 &&& (2147483647 : Int32))) rfl ?_
 refine o_iload K X0 at_72 rfl rfl ?_
 refine o_irem K X0 at_74 rfl (by decide) (z := ((i1 &&& (2147483647 : Int32)) % (2 : Int32))) rfl ?_
 refine o_istore K X0 at_75 rfl (L' := #[vI i0, vI i1, vI i2, vJ i3, sS, vI i4, vI i5, vI 2, vI 1, vI 0, vI 0, vI 2, vI ((i1 &&& (2147483647 : Int32)) % (2 : Int32)), uS, uS, uS, uS, uS, uS]) rfl ?_
 refine o_new K X0 (w1 hw) (w2 hw) (w3 hw) at_77 rfl (by decide) (by decide) ?_
 intro T87 h87 b87 X87 g87 E87 A87 D87 G87
 have F87_line : Fld Z h87 b87 z2 "line" "I" (.int 0) := (D87 (Or.inr (w193 hw)) (ty := .int) (by decide))
 have F87_fields : Fld Z h87 b87 z2 "fields" z11 .null := (D87 (Or.inr (w195 hw)) (ty := (.object z7)) (by decide))
 refine o_dup K X87 at_80 rfl rfl ?_
 refine o_iload K X87 at_81 rfl rfl ?_
 refine o_bipush K X87 at_83 rfl (z := 97) rfl ?_
 refine o_iload K X87 at_85 rfl rfl ?_
 refine o_lloadN K X87 at_87 rfl rfl ?_
 refine o_iconst K X87 at_88 rfl (z := 0) rfl ?_
 refine o_static K X87  (w4 hw) (w5 hw) (w6 hw) (w7 hw) (by decide) (rm_fields97_2 l Z a0 hw i3 cs dce kd h87 q0 q1 q2 q3) (by decide) rfl (argsL := [.int 97, .int 2, (.long i3), .int 0]) rfl (lenOf pd33 rfl) (W := 3) rfl (by decide) (by decide) (by decide) at_89 rfl ?_
 intro v88 T88 h88 X88 U88
 obtain ⟨l_88, r_88, kr_88, m_88, s0_88, vz0_88, kz0_88, s1_88, vz1_88, kz1_88, rfl, u88_0, u88_1, u88_2, u88_3, u88_4, u88_5, u88_6, u88_7, u88_8, u88_9, u88_10, u88_11, u88_12, u88_13, u88_14, u88_15, u88_16, u88_17, u88_18, u88_19⟩ := U88
 have G88_l : Z.heap.size ≤ l_88 := Nat.le_trans X87.ext0.1 u88_1
 have G88_r : Z.heap.size ≤ r_88 := Nat.le_trans X87.ext0.1 u88_6
 have G88_s0 : Z.heap.size ≤ s0_88 := Nat.le_trans X87.ext0.1 u88_10
 have G88_s1 : Z.heap.size ≤ s1_88 := Nat.le_trans X87.ext0.1 u88_11
 show oGoes pp ee bb ss Z T88 (mkF mm 92 _ [.ref l_88, .int i4, .ref b87, .ref b87]) _ _ _
 have m89 := (A87.keep u88_0)
 have m90 := (F87_line.keep u88_0 nin0)
 have m91 := (F87_fields.keep u88_0 nin0)
 refine o_special K X88 (y := (⟨z2, "<init>", z15⟩ : MethodName)) rfl (w97 hw) (w98 hw) (w3 hw) (w99 hw) (by decide) (rm_crow2 l Z a0 hw b87 i4 l_88 r_88 kr_88 s0_88 s1_88 mr h88 m89 m90 m91 G87 u88_2 u88_3 u88_4 u88_7 u88_8 u88_12 u88_16 q4) (by decide) rfl (argsL := [.int i4, .ref l_88]) rfl (lenOf pd34 rfl) (W := 1) rfl (by decide) (by decide) (by decide) at_92 rfl ?_
 intro v92 T92 h92 X92 U92
 obtain ⟨q_92, rfl, u92_0, u92_1, u92_2, u92_3, u92_4, u92_5, u92_6⟩ := U92
 show oGoes pp ee bb ss Z T92 (mkF mm 95 _ [.ref b87]) _ _ _
 refine o_astore K X92 at_95 rfl rfl (L' := #[vI i0, vI i1, vI i2, vJ i3, sS, vI i4, vI i5, vI 2, vI 1, vI 0, vI 0, vI 2, vI ((i1 &&& (2147483647 : Int32)) % (2 : Int32)), vR b87, uS, uS, uS, uS, uS]) rfl ?_
 refine o_iload K X92 at_97 rfl rfl ?_
 refine o_if_eq_t K X92 at_99 (by decide) (pc' := 106) (by decide) (by decide) ?_
 refine o_new K X92 (w1 hw) (w2 hw) (w3 hw) at_106 rfl (by decide) (by decide) ?_
 intro T93 h93 b93 X93 g93 E93 A93 D93 G93
 have F93_line : Fld Z h93 b93 z2 "line" "I" (.int 0) := (D93 (Or.inr (w193 hw)) (ty := .int) (by decide))
 have F93_fields : Fld Z h93 b93 z2 "fields" z11 .null := (D93 (Or.inr (w195 hw)) (ty := (.object z7)) (by decide))
 refine o_dup K X93 at_109 rfl rfl ?_
 refine o_iload K X93 at_110 rfl rfl ?_
 refine o_bipush K X93 at_112 rfl (z := 100) rfl ?_
 refine o_iload K X93 at_114 rfl rfl ?_
 refine o_lloadN K X93 at_116 rfl rfl ?_
 refine o_iconst K X93 at_117 rfl (z := 3) rfl ?_
 refine o_static K X93  (w4 hw) (w5 hw) (w6 hw) (w7 hw) (by decide) (rm_fields100_1 l Z a0 hw i3 cs dce kd h93 q0 q1 q2 q3) (by decide) rfl (argsL := [.int 100, .int 1, (.long i3), .int 3]) rfl (lenOf pd33 rfl) (W := 3) rfl (by decide) (by decide) (by decide) at_118 rfl ?_
 intro v94 T94 h94 X94 U94
 obtain ⟨l_94, r_94, kr_94, m_94, s0_94, vz0_94, kz0_94, rfl, u94_0, u94_1, u94_2, u94_3, u94_4, u94_5, u94_6, u94_7, u94_8, u94_9, u94_10, u94_11, u94_12, u94_13, u94_14⟩ := U94
 have G94_l : Z.heap.size ≤ l_94 := Nat.le_trans X93.ext0.1 u94_1
 have G94_r : Z.heap.size ≤ r_94 := Nat.le_trans X93.ext0.1 u94_6
 have G94_s0 : Z.heap.size ≤ s0_94 := Nat.le_trans X93.ext0.1 u94_10
 show oGoes pp ee bb ss Z T94 (mkF mm 121 _ [.ref l_94, .int i5, .ref b93, .ref b93]) _ _ _
 have m95 := (A93.keep u94_0)
 have m96 := (F93_line.keep u94_0 nin0)
 have m97 := (F93_fields.keep u94_0 nin0)
 refine o_special K X94 (y := (⟨z2, "<init>", z15⟩ : MethodName)) rfl (w97 hw) (w98 hw) (w3 hw) (w99 hw) (by decide) (rm_crow1 l Z a0 hw b93 i5 l_94 r_94 kr_94 s0_94 mr em h94 m95 m96 m97 G93 u94_2 u94_3 u94_4 u94_7 u94_8 u94_11 q4 q5) (by decide) rfl (argsL := [.int i5, .ref l_94]) rfl (lenOf pd34 rfl) (W := 1) rfl (by decide) (by decide) (by decide) at_121 rfl ?_
 intro v98 T98 h98 X98 U98
 obtain ⟨q_98, rfl, u98_0, u98_1, u98_2, u98_3, u98_4, u98_5, u98_6⟩ := U98
 show oGoes pp ee bb ss Z T98 (mkF mm 124 _ [.ref b93]) _ _ _
 refine o_astore K X98 at_124 rfl rfl (L' := #[vI i0, vI i1, vI i2, vJ i3, sS, vI i4, vI i5, vI 2, vI 1, vI 0, vI 0, vI 2, vI ((i1 &&& (2147483647 : Int32)) % (2 : Int32)), vR b87, vR b93, uS, uS, uS, uS]) rfl ?_
 have m100 := (((u92_1.ext E93).keep u94_0).keep u98_0)
 have n101 := oLn A87.lt (Nat.le_trans u88_0.1 u92_0.1) (oLe g93)
 have m102 := (((u92_3.ext E93).keep u94_0 nin0).keep u98_0 (ninS n101 nin0))
 have m103 := (((u92_4.ext E93).keep u94_0).keep u98_0)
 have n104 := oLz u92_4.lt (oLe g93)
 have m105 := (((u92_5.ext E93).keep u94_0 nin0).keep u98_0 (ninS n104 nin0))
 have m106 := (((u92_6.ext E93).keep u94_0 nin0).keep u98_0 (ninS n104 nin0))
 have m107 := ((((u88_12.keep u92_0).ext E93).keep u94_0).keep u98_0)
 have n108 := oLsz A87.lt u88_10
 have n109 := oLn u88_12.lt u92_0.1 (oLe g93)
 have m110 := ((((u88_13.keep u92_0 (ninS n108 nin0)).ext E93).keep u94_0 nin0).keep u98_0 (ninS n109 nin0))
 have m111 := ((((u88_14.keep u92_0 (ninS n108 nin0)).ext E93).keep u94_0 nin0).keep u98_0 (ninS n109 nin0))
 have n112 : vz0_88 ≠ b87 := (oNeArr (A87.keep u88_0) (w2 hw) u88_15)
 have n113 := oLn u88_15.lt u92_0.1 (oLe g93)
 have m114 := ((((u88_15.keep u92_0 (ninS n112 nin0)).ext E93).keep u94_0 nin0).keep u98_0 (ninS n113 nin0))
 have m115 := ((((u88_16.keep u92_0).ext E93).keep u94_0).keep u98_0)
 have n116 := oLsz A87.lt u88_11
 have n117 := oLn u88_16.lt u92_0.1 (oLe g93)
 have m118 := ((((u88_17.keep u92_0 (ninS n116 nin0)).ext E93).keep u94_0 nin0).keep u98_0 (ninS n117 nin0))
 have m119 := ((((u88_18.keep u92_0 (ninS n116 nin0)).ext E93).keep u94_0 nin0).keep u98_0 (ninS n117 nin0))
 have n120 : vz1_88 ≠ b87 := (oNeArr (A87.keep u88_0) (w2 hw) u88_19)
 have n121 := oLn u88_19.lt u92_0.1 (oLe g93)
 have m122 := ((((u88_19.keep u92_0 (ninS n120 nin0)).ext E93).keep u94_0 nin0).keep u98_0 (ninS n121 nin0))
 refine tl_lw0_2 l Z a0 hw i0 i1 i2 i3 i4 i5 2 1 0 2 ((i1 &&& (2147483647 : Int32)) % (2 : Int32)) (.ref b93) b87 q_92 s0_88 vz0_88 kz0_88 s1_88 vz1_88 kz1_88 cs em h98 (oR2 i1) m100 m102 m103 m105 m106 m107 m110 m111 m114 m115 m118 m119 m122 G88_s0 G88_s1 q0 q1 q5 q6 rfl (fun v99 h99 U99 => ?_) K (X98.mono (by decide) (by decide))
 obtain rfl : v99 = some (.int 1) := U99
 exact rfl
 obtain rfl : m = (2 : Int32) := e_m.trans (by rw [z]; decide)
 refine o_iloadN K X0 at_68 rfl rfl ?_
 refine o_ldc K X0 (w0 hw) at_69 rfl ?_
 refine o_iand K X0 at_71 rfl (z := (i1 &&& (2147483647 : Int32))) rfl ?_
 refine o_iload K X0 at_72 rfl rfl ?_
 refine o_irem K X0 at_74 rfl (by decide) (z := ((i1 &&& (2147483647 : Int32)) % (2 : Int32))) rfl ?_
 refine o_istore K X0 at_75 rfl (L' := #[vI i0, vI i1, vI i2, vJ i3, sS, vI i4, vI i5, vI 2, vI 2, vI 0, vI 0, vI 2, vI ((i1 &&& (2147483647 : Int32)) % (2 : Int32)), uS, uS, uS, uS, uS, uS]) rfl ?_
 refine o_new K X0 (w1 hw) (w2 hw) (w3 hw) at_77 rfl (by decide) (by decide) ?_
 intro T123 h123 b123 X123 g123 E123 A123 D123 G123
 have F123_line : Fld Z h123 b123 z2 "line" "I" (.int 0) := (D123 (Or.inr (w193 hw)) (ty := .int) (by decide))
 have F123_fields : Fld Z h123 b123 z2 "fields" z11 .null := (D123 (Or.inr (w195 hw)) (ty := (.object z7)) (by decide))
 refine o_dup K X123 at_80 rfl rfl ?_
 refine o_iload K X123 at_81 rfl rfl ?_
 refine o_bipush K X123 at_83 rfl (z := 97) rfl ?_
 refine o_iload K X123 at_85 rfl rfl ?_
 refine o_lloadN K X123 at_87 rfl rfl ?_
 refine o_iconst K X123 at_88 rfl (z := 0) rfl ?_
 refine o_static K X123  (w4 hw) (w5 hw) (w6 hw) (w7 hw) (by decide) (rm_fields97_2 l Z a0 hw i3 cs dce kd h123 q0 q1 q2 q3) (by decide) rfl (argsL := [.int 97, .int 2, (.long i3), .int 0]) rfl (lenOf pd33 rfl) (W := 3) rfl (by decide) (by decide) (by decide) at_89 rfl ?_
 intro v124 T124 h124 X124 U124
 obtain ⟨l_124, r_124, kr_124, m_124, s0_124, vz0_124, kz0_124, s1_124, vz1_124, kz1_124, rfl, u124_0, u124_1, u124_2, u124_3, u124_4, u124_5, u124_6, u124_7, u124_8, u124_9, u124_10, u124_11, u124_12, u124_13, u124_14, u124_15, u124_16, u124_17, u124_18, u124_19⟩ := U124
 have G124_l : Z.heap.size ≤ l_124 := Nat.le_trans X123.ext0.1 u124_1
 have G124_r : Z.heap.size ≤ r_124 := Nat.le_trans X123.ext0.1 u124_6
 have G124_s0 : Z.heap.size ≤ s0_124 := Nat.le_trans X123.ext0.1 u124_10
 have G124_s1 : Z.heap.size ≤ s1_124 := Nat.le_trans X123.ext0.1 u124_11
 show oGoes pp ee bb ss Z T124 (mkF mm 92 _ [.ref l_124, .int i4, .ref b123, .ref b123]) _ _ _
 have m125 := (A123.keep u124_0)
 have m126 := (F123_line.keep u124_0 nin0)
 have m127 := (F123_fields.keep u124_0 nin0)
 refine o_special K X124 (y := (⟨z2, "<init>", z15⟩ : MethodName)) rfl (w97 hw) (w98 hw) (w3 hw) (w99 hw) (by decide) (rm_crow2 l Z a0 hw b123 i4 l_124 r_124 kr_124 s0_124 s1_124 mr h124 m125 m126 m127 G123 u124_2 u124_3 u124_4 u124_7 u124_8 u124_12 u124_16 q4) (by decide) rfl (argsL := [.int i4, .ref l_124]) rfl (lenOf pd34 rfl) (W := 1) rfl (by decide) (by decide) (by decide) at_92 rfl ?_
 intro v128 T128 h128 X128 U128
 obtain ⟨q_128, rfl, u128_0, u128_1, u128_2, u128_3, u128_4, u128_5, u128_6⟩ := U128
 show oGoes pp ee bb ss Z T128 (mkF mm 95 _ [.ref b123]) _ _ _
 refine o_astore K X128 at_95 rfl rfl (L' := #[vI i0, vI i1, vI i2, vJ i3, sS, vI i4, vI i5, vI 2, vI 2, vI 0, vI 0, vI 2, vI ((i1 &&& (2147483647 : Int32)) % (2 : Int32)), vR b123, uS, uS, uS, uS, uS]) rfl ?_
 refine o_iload K X128 at_97 rfl rfl ?_
 refine o_if_eq_t K X128 at_99 (by decide) (pc' := 106) (by decide) (by decide) ?_
 refine o_new K X128 (w1 hw) (w2 hw) (w3 hw) at_106 rfl (by decide) (by decide) ?_
 intro T129 h129 b129 X129 g129 E129 A129 D129 G129
 have F129_line : Fld Z h129 b129 z2 "line" "I" (.int 0) := (D129 (Or.inr (w193 hw)) (ty := .int) (by decide))
 have F129_fields : Fld Z h129 b129 z2 "fields" z11 .null := (D129 (Or.inr (w195 hw)) (ty := (.object z7)) (by decide))
 refine o_dup K X129 at_109 rfl rfl ?_
 refine o_iload K X129 at_110 rfl rfl ?_
 refine o_bipush K X129 at_112 rfl (z := 100) rfl ?_
 refine o_iload K X129 at_114 rfl rfl ?_
 refine o_lloadN K X129 at_116 rfl rfl ?_
 refine o_iconst K X129 at_117 rfl (z := 3) rfl ?_
 refine o_static K X129  (w4 hw) (w5 hw) (w6 hw) (w7 hw) (by decide) (rm_fields100_2 l Z a0 hw i3 cs dce kd h129 q0 q1 q2 q3) (by decide) rfl (argsL := [.int 100, .int 2, (.long i3), .int 3]) rfl (lenOf pd33 rfl) (W := 3) rfl (by decide) (by decide) (by decide) at_118 rfl ?_
 intro v130 T130 h130 X130 U130
 obtain ⟨l_130, r_130, kr_130, m_130, s0_130, vz0_130, kz0_130, s1_130, vz1_130, kz1_130, rfl, u130_0, u130_1, u130_2, u130_3, u130_4, u130_5, u130_6, u130_7, u130_8, u130_9, u130_10, u130_11, u130_12, u130_13, u130_14, u130_15, u130_16, u130_17, u130_18, u130_19⟩ := U130
 have G130_l : Z.heap.size ≤ l_130 := Nat.le_trans X129.ext0.1 u130_1
 have G130_r : Z.heap.size ≤ r_130 := Nat.le_trans X129.ext0.1 u130_6
 have G130_s0 : Z.heap.size ≤ s0_130 := Nat.le_trans X129.ext0.1 u130_10
 have G130_s1 : Z.heap.size ≤ s1_130 := Nat.le_trans X129.ext0.1 u130_11
 show oGoes pp ee bb ss Z T130 (mkF mm 121 _ [.ref l_130, .int i5, .ref b129, .ref b129]) _ _ _
 have m131 := (A129.keep u130_0)
 have m132 := (F129_line.keep u130_0 nin0)
 have m133 := (F129_fields.keep u130_0 nin0)
 refine o_special K X130 (y := (⟨z2, "<init>", z15⟩ : MethodName)) rfl (w97 hw) (w98 hw) (w3 hw) (w99 hw) (by decide) (rm_crow2 l Z a0 hw b129 i5 l_130 r_130 kr_130 s0_130 s1_130 mr h130 m131 m132 m133 G129 u130_2 u130_3 u130_4 u130_7 u130_8 u130_12 u130_16 q4) (by decide) rfl (argsL := [.int i5, .ref l_130]) rfl (lenOf pd34 rfl) (W := 1) rfl (by decide) (by decide) (by decide) at_121 rfl ?_
 intro v134 T134 h134 X134 U134
 obtain ⟨q_134, rfl, u134_0, u134_1, u134_2, u134_3, u134_4, u134_5, u134_6⟩ := U134
 show oGoes pp ee bb ss Z T134 (mkF mm 124 _ [.ref b129]) _ _ _
 refine o_astore K X134 at_124 rfl rfl (L' := #[vI i0, vI i1, vI i2, vJ i3, sS, vI i4, vI i5, vI 2, vI 2, vI 0, vI 0, vI 2, vI ((i1 &&& (2147483647 : Int32)) % (2 : Int32)), vR b123, vR b129, uS, uS, uS, uS]) rfl ?_
 have m136 := (((u128_1.ext E129).keep u130_0).keep u134_0)
 have n137 := oLn A123.lt (Nat.le_trans u124_0.1 u128_0.1) (oLe g129)
 have m138 := (((u128_3.ext E129).keep u130_0 nin0).keep u134_0 (ninS n137 nin0))
 have m139 := (((u128_4.ext E129).keep u130_0).keep u134_0)
 have n140 := oLz u128_4.lt (oLe g129)
 have m141 := (((u128_5.ext E129).keep u130_0 nin0).keep u134_0 (ninS n140 nin0))
 have m142 := (((u128_6.ext E129).keep u130_0 nin0).keep u134_0 (ninS n140 nin0))
 have m143 := ((((u124_12.keep u128_0).ext E129).keep u130_0).keep u134_0)
 have n144 := oLsz A123.lt u124_10
 have n145 := oLn u124_12.lt u128_0.1 (oLe g129)
 have m146 := ((((u124_13.keep u128_0 (ninS n144 nin0)).ext E129).keep u130_0 nin0).keep u134_0 (ninS n145 nin0))
 have m147 := ((((u124_14.keep u128_0 (ninS n144 nin0)).ext E129).keep u130_0 nin0).keep u134_0 (ninS n145 nin0))
 have n148 : vz0_124 ≠ b123 := (oNeArr (A123.keep u124_0) (w2 hw) u124_15)
 have n149 := oLn u124_15.lt u128_0.1 (oLe g129)
 have m150 := ((((u124_15.keep u128_0 (ninS n148 nin0)).ext E129).keep u130_0 nin0).keep u134_0 (ninS n149 nin0))
 have m151 := ((((u124_16.keep u128_0).ext E129).keep u130_0).keep u134_0)
 have n152 := oLsz A123.lt u124_11
 have n153 := oLn u124_16.lt u128_0.1 (oLe g129)
 have m154 := ((((u124_17.keep u128_0 (ninS n152 nin0)).ext E129).keep u130_0 nin0).keep u134_0 (ninS n153 nin0))
 have m155 := ((((u124_18.keep u128_0 (ninS n152 nin0)).ext E129).keep u130_0 nin0).keep u134_0 (ninS n153 nin0))
 have n156 : vz1_124 ≠ b123 := (oNeArr (A123.keep u124_0) (w2 hw) u124_19)
 have n157 := oLn u124_19.lt u128_0.1 (oLe g129)
 have m158 := ((((u124_19.keep u128_0 (ninS n156 nin0)).ext E129).keep u130_0 nin0).keep u134_0 (ninS n157 nin0))
 refine tl_lw0_2 l Z a0 hw i0 i1 i2 i3 i4 i5 2 2 0 2 ((i1 &&& (2147483647 : Int32)) % (2 : Int32)) (.ref b129) b123 q_128 s0_124 vz0_124 kz0_124 s1_124 vz1_124 kz1_124 cs em h134 (oR2 i1) m136 m138 m139 m141 m142 m143 m146 m147 m150 m151 m154 m155 m158 G124_s0 G124_s1 q0 q1 q5 q6 rfl (fun v135 h135 U135 => ?_) K (X134.mono (by decide) (by decide))
 obtain rfl : v135 = some (.int 1) := U135
 exact rfl
 obtain rfl : m = (3 : Int32) := e_m.trans (by rw [z]; decide)
 refine o_iloadN K X0 at_68 rfl rfl ?_
 refine o_ldc K X0 (w0 hw) at_69 rfl ?_
 refine o_iand K X0 at_71 rfl (z := (i1 &&& (2147483647 : Int32))) rfl ?_
 refine o_iload K X0 at_72 rfl rfl ?_
 refine o_irem K X0 at_74 rfl (by decide) (z := ((i1 &&& (2147483647 : Int32)) % (2 : Int32))) rfl ?_
 refine o_istore K X0 at_75 rfl (L' := #[vI i0, vI i1, vI i2, vJ i3, sS, vI i4, vI i5, vI 2, vI 3, vI 0, vI 0, vI 2, vI ((i1 &&& (2147483647 : Int32)) % (2 : Int32)), uS, uS, uS, uS, uS, uS]) rfl ?_
 refine o_new K X0 (w1 hw) (w2 hw) (w3 hw) at_77 rfl (by decide) (by decide) ?_
 intro T159 h159 b159 X159 g159 E159 A159 D159 G159
 have F159_line : Fld Z h159 b159 z2 "line" "I" (.int 0) := (D159 (Or.inr (w193 hw)) (ty := .int) (by decide))
 have F159_fields : Fld Z h159 b159 z2 "fields" z11 .null := (D159 (Or.inr (w195 hw)) (ty := (.object z7)) (by decide))
 refine o_dup K X159 at_80 rfl rfl ?_
 refine o_iload K X159 at_81 rfl rfl ?_
 refine o_bipush K X159 at_83 rfl (z := 97) rfl ?_
 refine o_iload K X159 at_85 rfl rfl ?_
 refine o_lloadN K X159 at_87 rfl rfl ?_
 refine o_iconst K X159 at_88 rfl (z := 0) rfl ?_
 refine o_static K X159  (w4 hw) (w5 hw) (w6 hw) (w7 hw) (by decide) (rm_fields97_2 l Z a0 hw i3 cs dce kd h159 q0 q1 q2 q3) (by decide) rfl (argsL := [.int 97, .int 2, (.long i3), .int 0]) rfl (lenOf pd33 rfl) (W := 3) rfl (by decide) (by decide) (by decide) at_89 rfl ?_
 intro v160 T160 h160 X160 U160
 obtain ⟨l_160, r_160, kr_160, m_160, s0_160, vz0_160, kz0_160, s1_160, vz1_160, kz1_160, rfl, u160_0, u160_1, u160_2, u160_3, u160_4, u160_5, u160_6, u160_7, u160_8, u160_9, u160_10, u160_11, u160_12, u160_13, u160_14, u160_15, u160_16, u160_17, u160_18, u160_19⟩ := U160
 have G160_l : Z.heap.size ≤ l_160 := Nat.le_trans X159.ext0.1 u160_1
 have G160_r : Z.heap.size ≤ r_160 := Nat.le_trans X159.ext0.1 u160_6
 have G160_s0 : Z.heap.size ≤ s0_160 := Nat.le_trans X159.ext0.1 u160_10
 have G160_s1 : Z.heap.size ≤ s1_160 := Nat.le_trans X159.ext0.1 u160_11
 show oGoes pp ee bb ss Z T160 (mkF mm 92 _ [.ref l_160, .int i4, .ref b159, .ref b159]) _ _ _
 have m161 := (A159.keep u160_0)
 have m162 := (F159_line.keep u160_0 nin0)
 have m163 := (F159_fields.keep u160_0 nin0)
 refine o_special K X160 (y := (⟨z2, "<init>", z15⟩ : MethodName)) rfl (w97 hw) (w98 hw) (w3 hw) (w99 hw) (by decide) (rm_crow2 l Z a0 hw b159 i4 l_160 r_160 kr_160 s0_160 s1_160 mr h160 m161 m162 m163 G159 u160_2 u160_3 u160_4 u160_7 u160_8 u160_12 u160_16 q4) (by decide) rfl (argsL := [.int i4, .ref l_160]) rfl (lenOf pd34 rfl) (W := 1) rfl (by decide) (by decide) (by decide) at_92 rfl ?_
 intro v164 T164 h164 X164 U164
 obtain ⟨q_164, rfl, u164_0, u164_1, u164_2, u164_3, u164_4, u164_5, u164_6⟩ := U164
 show oGoes pp ee bb ss Z T164 (mkF mm 95 _ [.ref b159]) _ _ _
 refine o_astore K X164 at_95 rfl rfl (L' := #[vI i0, vI i1, vI i2, vJ i3, sS, vI i4, vI i5, vI 2, vI 3, vI 0, vI 0, vI 2, vI ((i1 &&& (2147483647 : Int32)) % (2 : Int32)), vR b159, uS, uS, uS, uS, uS]) rfl ?_
 refine o_iload K X164 at_97 rfl rfl ?_
 refine o_if_eq_t K X164 at_99 (by decide) (pc' := 106) (by decide) (by decide) ?_
 refine o_new K X164 (w1 hw) (w2 hw) (w3 hw) at_106 rfl (by decide) (by decide) ?_
 intro T165 h165 b165 X165 g165 E165 A165 D165 G165
 have F165_line : Fld Z h165 b165 z2 "line" "I" (.int 0) := (D165 (Or.inr (w193 hw)) (ty := .int) (by decide))
 have F165_fields : Fld Z h165 b165 z2 "fields" z11 .null := (D165 (Or.inr (w195 hw)) (ty := (.object z7)) (by decide))
 refine o_dup K X165 at_109 rfl rfl ?_
 refine o_iload K X165 at_110 rfl rfl ?_
 refine o_bipush K X165 at_112 rfl (z := 100) rfl ?_
 refine o_iload K X165 at_114 rfl rfl ?_
 refine o_lloadN K X165 at_116 rfl rfl ?_
 refine o_iconst K X165 at_117 rfl (z := 3) rfl ?_
 refine o_static K X165  (w4 hw) (w5 hw) (w6 hw) (w7 hw) (by decide) (rm_fields100_3 l Z a0 hw i3 cs dce kd h165 q0 q1 q2 q3) (by decide) rfl (argsL := [.int 100, .int 3, (.long i3), .int 3]) rfl (lenOf pd33 rfl) (W := 3) rfl (by decide) (by decide) (by decide) at_118 rfl ?_
 intro v166 T166 h166 X166 U166
 obtain ⟨l_166, r_166, kr_166, m_166, s0_166, vz0_166, kz0_166, s1_166, vz1_166, kz1_166, s2_166, vz2_166, kz2_166, rfl, u166_0, u166_1, u166_2, u166_3, u166_4, u166_5, u166_6, u166_7, u166_8, u166_9, u166_10, u166_11, u166_12, u166_13, u166_14, u166_15, u166_16, u166_17, u166_18, u166_19, u166_20, u166_21, u166_22, u166_23, u166_24⟩ := U166
 have G166_l : Z.heap.size ≤ l_166 := Nat.le_trans X165.ext0.1 u166_1
 have G166_r : Z.heap.size ≤ r_166 := Nat.le_trans X165.ext0.1 u166_6
 have G166_s0 : Z.heap.size ≤ s0_166 := Nat.le_trans X165.ext0.1 u166_10
 have G166_s1 : Z.heap.size ≤ s1_166 := Nat.le_trans X165.ext0.1 u166_11
 have G166_s2 : Z.heap.size ≤ s2_166 := Nat.le_trans X165.ext0.1 u166_12
 show oGoes pp ee bb ss Z T166 (mkF mm 121 _ [.ref l_166, .int i5, .ref b165, .ref b165]) _ _ _
 have m167 := (A165.keep u166_0)
 have m168 := (F165_line.keep u166_0 nin0)
 have m169 := (F165_fields.keep u166_0 nin0)
 refine o_special K X166 (y := (⟨z2, "<init>", z15⟩ : MethodName)) rfl (w97 hw) (w98 hw) (w3 hw) (w99 hw) (by decide) (rm_crow3 l Z a0 hw b165 i5 l_166 r_166 kr_166 s0_166 s1_166 s2_166 mr h166 m167 m168 m169 G165 u166_2 u166_3 u166_4 u166_7 u166_8 u166_13 u166_17 u166_21 q4) (by decide) rfl (argsL := [.int i5, .ref l_166]) rfl (lenOf pd34 rfl) (W := 1) rfl (by decide) (by decide) (by decide) at_121 rfl ?_
 intro v170 T170 h170 X170 U170
 obtain ⟨q_170, y_170, ky_170, rfl, u170_0, u170_1, u170_2, u170_3, u170_4, u170_5, u170_6⟩ := U170
 show oGoes pp ee bb ss Z T170 (mkF mm 124 _ [.ref b165]) _ _ _
 refine o_astore K X170 at_124 rfl rfl (L' := #[vI i0, vI i1, vI i2, vJ i3, sS, vI i4, vI i5, vI 2, vI 3, vI 0, vI 0, vI 2, vI ((i1 &&& (2147483647 : Int32)) % (2 : Int32)), vR b159, vR b165, uS, uS, uS, uS]) rfl ?_
 have m172 := (((u164_1.ext E165).keep u166_0).keep u170_0)
 have n173 := oLn A159.lt (Nat.le_trans u160_0.1 u164_0.1) (oLe g165)
 have m174 := (((u164_3.ext E165).keep u166_0 nin0).keep u170_0 (ninS n173 nin0))
 have m175 := (((u164_4.ext E165).keep u166_0).keep u170_0)
 have n176 := oLz u164_4.lt (oLe g165)
 have m177 := (((u164_5.ext E165).keep u166_0 nin0).keep u170_0 (ninS n176 nin0))
 have m178 := (((u164_6.ext E165).keep u166_0 nin0).keep u170_0 (ninS n176 nin0))
 have m179 := ((((u160_12.keep u164_0).ext E165).keep u166_0).keep u170_0)
 have n180 := oLsz A159.lt u160_10
 have n181 := oLn u160_12.lt u164_0.1 (oLe g165)
 have m182 := ((((u160_13.keep u164_0 (ninS n180 nin0)).ext E165).keep u166_0 nin0).keep u170_0 (ninS n181 nin0))
 have m183 := ((((u160_14.keep u164_0 (ninS n180 nin0)).ext E165).keep u166_0 nin0).keep u170_0 (ninS n181 nin0))
 have n184 : vz0_160 ≠ b159 := (oNeArr (A159.keep u160_0) (w2 hw) u160_15)
 have n185 := oLn u160_15.lt u164_0.1 (oLe g165)
 have m186 := ((((u160_15.keep u164_0 (ninS n184 nin0)).ext E165).keep u166_0 nin0).keep u170_0 (ninS n185 nin0))
 have m187 := ((((u160_16.keep u164_0).ext E165).keep u166_0).keep u170_0)
 have n188 := oLsz A159.lt u160_11
 have n189 := oLn u160_16.lt u164_0.1 (oLe g165)
 have m190 := ((((u160_17.keep u164_0 (ninS n188 nin0)).ext E165).keep u166_0 nin0).keep u170_0 (ninS n189 nin0))
 have m191 := ((((u160_18.keep u164_0 (ninS n188 nin0)).ext E165).keep u166_0 nin0).keep u170_0 (ninS n189 nin0))
 have n192 : vz1_160 ≠ b159 := (oNeArr (A159.keep u160_0) (w2 hw) u160_19)
 have n193 := oLn u160_19.lt u164_0.1 (oLe g165)
 have m194 := ((((u160_19.keep u164_0 (ninS n192 nin0)).ext E165).keep u166_0 nin0).keep u170_0 (ninS n193 nin0))
 refine tl_lw0_2 l Z a0 hw i0 i1 i2 i3 i4 i5 2 3 0 2 ((i1 &&& (2147483647 : Int32)) % (2 : Int32)) (.ref b165) b159 q_164 s0_160 vz0_160 kz0_160 s1_160 vz1_160 kz1_160 cs em h170 (oR2 i1) m172 m174 m175 m177 m178 m179 m182 m183 m186 m187 m190 m191 m194 G160_s0 G160_s1 q0 q1 q5 q6 rfl (fun v171 h171 U171 => ?_) K (X170.mono (by decide) (by decide))
 obtain rfl : v171 = some (.int 1) := U171
 exact rfl
 obtain rfl : n = (3 : Int32) := e_n.trans (by rw [z]; decide)
 rcases oR3 ((i0.toUInt32 >>> ((8 : Int32) &&& 31).toUInt32).toInt32) with z | z | z
 obtain rfl : m = (1 : Int32) := e_m.trans (by rw [z]; decide)
 refine o_iloadN K X0 at_68 rfl rfl ?_
 refine o_ldc K X0 (w0 hw) at_69 rfl ?_
 refine o_iand K X0 at_71 rfl (z := (i1 &&& (2147483647 : Int32))) rfl ?_
 refine o_iload K X0 at_72 rfl rfl ?_
 refine o_irem K X0 at_74 rfl (by decide) (z := ((i1 &&& (2147483647 : Int32)) % (3 : Int32))) rfl ?_
 refine o_istore K X0 at_75 rfl (L' := #[vI i0, vI i1, vI i2, vJ i3, sS, vI i4, vI i5, vI 3, vI 1, vI 0, vI 0, vI 3, vI ((i1 &&& (2147483647 : Int32)) % (3 : Int32)), uS, uS, uS, uS, uS, uS]) rfl ?_
 refine o_new K X0 (w1 hw) (w2 hw) (w3 hw) at_77 rfl (by decide) (by decide) ?_
 intro T195 h195 b195 X195 g195 E195 A195 D195 G195
 have F195_line : Fld Z h195 b195 z2 "line" "I" (.int 0) := (D195 (Or.inr (w193 hw)) (ty := .int) (by decide))
 have F195_fields : Fld Z h195 b195 z2 "fields" z11 .null := (D195 (Or.inr (w195 hw)) (ty := (.object z7)) (by decide))
 refine o_dup K X195 at_80 rfl rfl ?_
 refine o_iload K X195 at_81 rfl rfl ?_
 refine o_bipush K X195 at_83 rfl (z := 97) rfl ?_
 refine o_iload K X195 at_85 rfl rfl ?_
 refine o_lloadN K X195 at_87 rfl rfl ?_
 refine o_iconst K X195 at_88 rfl (z := 0) rfl ?_
 refine o_static K X195  (w4 hw) (w5 hw) (w6 hw) (w7 hw) (by decide) (rm_fields97_3 l Z a0 hw i3 cs dce kd h195 q0 q1 q2 q3) (by decide) rfl (argsL := [.int 97, .int 3, (.long i3), .int 0]) rfl (lenOf pd33 rfl) (W := 3) rfl (by decide) (by decide) (by decide) at_89 rfl ?_
 intro v196 T196 h196 X196 U196
 obtain ⟨l_196, r_196, kr_196, m_196, s0_196, vz0_196, kz0_196, s1_196, vz1_196, kz1_196, s2_196, vz2_196, kz2_196, rfl, u196_0, u196_1, u196_2, u196_3, u196_4, u196_5, u196_6, u196_7, u196_8, u196_9, u196_10, u196_11, u196_12, u196_13, u196_14, u196_15, u196_16, u196_17, u196_18, u196_19, u196_20, u196_21, u196_22, u196_23, u196_24⟩ := U196
 have G196_l : Z.heap.size ≤ l_196 := Nat.le_trans X195.ext0.1 u196_1
 have G196_r : Z.heap.size ≤ r_196 := Nat.le_trans X195.ext0.1 u196_6
 have G196_s0 : Z.heap.size ≤ s0_196 := Nat.le_trans X195.ext0.1 u196_10
 have G196_s1 : Z.heap.size ≤ s1_196 := Nat.le_trans X195.ext0.1 u196_11
 have G196_s2 : Z.heap.size ≤ s2_196 := Nat.le_trans X195.ext0.1 u196_12
 show oGoes pp ee bb ss Z T196 (mkF mm 92 _ [.ref l_196, .int i4, .ref b195, .ref b195]) _ _ _
 have m197 := (A195.keep u196_0)
 have m198 := (F195_line.keep u196_0 nin0)
 have m199 := (F195_fields.keep u196_0 nin0)
 refine o_special K X196 (y := (⟨z2, "<init>", z15⟩ : MethodName)) rfl (w97 hw) (w98 hw) (w3 hw) (w99 hw) (by decide) (rm_crow3 l Z a0 hw b195 i4 l_196 r_196 kr_196 s0_196 s1_196 s2_196 mr h196 m197 m198 m199 G195 u196_2 u196_3 u196_4 u196_7 u196_8 u196_13 u196_17 u196_21 q4) (by decide) rfl (argsL := [.int i4, .ref l_196]) rfl (lenOf pd34 rfl) (W := 1) rfl (by decide) (by decide) (by decide) at_92 rfl ?_
 intro v200 T200 h200 X200 U200
 obtain ⟨q_200, y_200, ky_200, rfl, u200_0, u200_1, u200_2, u200_3, u200_4, u200_5, u200_6⟩ := U200
 show oGoes pp ee bb ss Z T200 (mkF mm 95 _ [.ref b195]) _ _ _
 refine o_astore K X200 at_95 rfl rfl (L' := #[vI i0, vI i1, vI i2, vJ i3, sS, vI i4, vI i5, vI 3, vI 1, vI 0, vI 0, vI 3, vI ((i1 &&& (2147483647 : Int32)) % (3 : Int32)), vR b195, uS, uS, uS, uS, uS]) rfl ?_
 refine o_iload K X200 at_97 rfl rfl ?_
 refine o_if_eq_t K X200 at_99 (by decide) (pc' := 106) (by decide) (by decide) ?_
 refine o_new K X200 (w1 hw) (w2 hw) (w3 hw) at_106 rfl (by decide) (by decide) ?_
 intro T201 h201 b201 X201 g201 E201 A201 D201 G201
 have F201_line : Fld Z h201 b201 z2 "line" "I" (.int 0) := (D201 (Or.inr (w193 hw)) (ty := .int) (by decide))
 have F201_fields : Fld Z h201 b201 z2 "fields" z11 .null := (D201 (Or.inr (w195 hw)) (ty := (.object z7)) (by decide))
 refine o_dup K X201 at_109 rfl rfl ?_
 refine o_iload K X201 at_110 rfl rfl ?_
 refine o_bipush K X201 at_112 rfl (z := 100) rfl ?_
 refine o_iload K X201 at_114 rfl rfl ?_
 refine o_lloadN K X201 at_116 rfl rfl ?_
 refine o_iconst K X201 at_117 rfl (z := 3) rfl ?_
 refine o_static K X201  (w4 hw) (w5 hw) (w6 hw) (w7 hw) (by decide) (rm_fields100_1 l Z a0 hw i3 cs dce kd h201 q0 q1 q2 q3) (by decide) rfl (argsL := [.int 100, .int 1, (.long i3), .int 3]) rfl (lenOf pd33 rfl) (W := 3) rfl (by decide) (by decide) (by decide) at_118 rfl ?_
 intro v202 T202 h202 X202 U202
 obtain ⟨l_202, r_202, kr_202, m_202, s0_202, vz0_202, kz0_202, rfl, u202_0, u202_1, u202_2, u202_3, u202_4, u202_5, u202_6, u202_7, u202_8, u202_9, u202_10, u202_11, u202_12, u202_13, u202_14⟩ := U202
 have G202_l : Z.heap.size ≤ l_202 := Nat.le_trans X201.ext0.1 u202_1
 have G202_r : Z.heap.size ≤ r_202 := Nat.le_trans X201.ext0.1 u202_6
 have G202_s0 : Z.heap.size ≤ s0_202 := Nat.le_trans X201.ext0.1 u202_10
 show oGoes pp ee bb ss Z T202 (mkF mm 121 _ [.ref l_202, .int i5, .ref b201, .ref b201]) _ _ _
 have m203 := (A201.keep u202_0)
 have m204 := (F201_line.keep u202_0 nin0)
 have m205 := (F201_fields.keep u202_0 nin0)
 refine o_special K X202 (y := (⟨z2, "<init>", z15⟩ : MethodName)) rfl (w97 hw) (w98 hw) (w3 hw) (w99 hw) (by decide) (rm_crow1 l Z a0 hw b201 i5 l_202 r_202 kr_202 s0_202 mr em h202 m203 m204 m205 G201 u202_2 u202_3 u202_4 u202_7 u202_8 u202_11 q4 q5) (by decide) rfl (argsL := [.int i5, .ref l_202]) rfl (lenOf pd34 rfl) (W := 1) rfl (by decide) (by decide) (by decide) at_121 rfl ?_
 intro v206 T206 h206 X206 U206
 obtain ⟨q_206, rfl, u206_0, u206_1, u206_2, u206_3, u206_4, u206_5, u206_6⟩ := U206
 show oGoes pp ee bb ss Z T206 (mkF mm 124 _ [.ref b201]) _ _ _
 refine o_astore K X206 at_124 rfl rfl (L' := #[vI i0, vI i1, vI i2, vJ i3, sS, vI i4, vI i5, vI 3, vI 1, vI 0, vI 0, vI 3, vI ((i1 &&& (2147483647 : Int32)) % (3 : Int32)), vR b195, vR b201, uS, uS, uS, uS]) rfl ?_
 have m208 := (((u200_1.ext E201).keep u202_0).keep u206_0)
 have n209 := oLn A195.lt (Nat.le_trans u196_0.1 u200_0.1) (oLe g201)
 have m210 := (((u200_3.ext E201).keep u202_0 nin0).keep u206_0 (ninS n209 nin0))
 have m211 := (((u200_4.ext E201).keep u202_0).keep u206_0)
 have n212 := oLz u200_4.lt (oLe g201)
 have m213 := (((u200_5.ext E201).keep u202_0 nin0).keep u206_0 (ninS n212 nin0))
 have n214 := oLz u200_6.lt (oLe g201)
 have m215 := (((u200_6.ext E201).keep u202_0 nin0).keep u206_0 (ninS n214 nin0))
 have m216 := ((((u196_13.keep u200_0).ext E201).keep u202_0).keep u206_0)
 have n217 := oLsz A195.lt u196_10
 have n218 := oLn u196_13.lt u200_0.1 (oLe g201)
 have m219 := ((((u196_14.keep u200_0 (ninS n217 nin0)).ext E201).keep u202_0 nin0).keep u206_0 (ninS n218 nin0))
 have m220 := ((((u196_15.keep u200_0 (ninS n217 nin0)).ext E201).keep u202_0 nin0).keep u206_0 (ninS n218 nin0))
 have n221 : vz0_196 ≠ b195 := (oNeArr (A195.keep u196_0) (w2 hw) u196_16)
 have n222 := oLn u196_16.lt u200_0.1 (oLe g201)
 have m223 := ((((u196_16.keep u200_0 (ninS n221 nin0)).ext E201).keep u202_0 nin0).keep u206_0 (ninS n222 nin0))
 have m224 := ((((u196_17.keep u200_0).ext E201).keep u202_0).keep u206_0)
 have n225 := oLsz A195.lt u196_11
 have n226 := oLn u196_17.lt u200_0.1 (oLe g201)
 have m227 := ((((u196_18.keep u200_0 (ninS n225 nin0)).ext E201).keep u202_0 nin0).keep u206_0 (ninS n226 nin0))
 have m228 := ((((u196_19.keep u200_0 (ninS n225 nin0)).ext E201).keep u202_0 nin0).keep u206_0 (ninS n226 nin0))
 have n229 : vz1_196 ≠ b195 := (oNeArr (A195.keep u196_0) (w2 hw) u196_20)
 have n230 := oLn u196_20.lt u200_0.1 (oLe g201)
 have m231 := ((((u196_20.keep u200_0 (ninS n229 nin0)).ext E201).keep u202_0 nin0).keep u206_0 (ninS n230 nin0))
 have m232 := ((((u196_21.keep u200_0).ext E201).keep u202_0).keep u206_0)
 have n233 := oLsz A195.lt u196_12
 have n234 := oLn u196_21.lt u200_0.1 (oLe g201)
 have m235 := ((((u196_22.keep u200_0 (ninS n233 nin0)).ext E201).keep u202_0 nin0).keep u206_0 (ninS n234 nin0))
 have m236 := ((((u196_23.keep u200_0 (ninS n233 nin0)).ext E201).keep u202_0 nin0).keep u206_0 (ninS n234 nin0))
 have n237 : vz2_196 ≠ b195 := (oNeArr (A195.keep u196_0) (w2 hw) u196_24)
 have n238 := oLn u196_24.lt u200_0.1 (oLe g201)
 have m239 := ((((u196_24.keep u200_0 (ninS n237 nin0)).ext E201).keep u202_0 nin0).keep u206_0 (ninS n238 nin0))
 refine tl_lw0_3 l Z a0 hw i0 i1 i2 i3 i4 i5 3 1 0 3 ((i1 &&& (2147483647 : Int32)) % (3 : Int32)) (.ref b201) b195 q_200 y_200 ky_200 s0_196 vz0_196 kz0_196 s1_196 vz1_196 kz1_196 s2_196 vz2_196 kz2_196 cs h206 (oR3 i1) m208 m210 m211 m213 m215 m216 m219 m220 m223 m224 m227 m228 m231 m232 m235 m236 m239 G196_s0 G196_s1 G196_s2 q0 q1 rfl (fun v207 h207 U207 => ?_) K (X206.mono (by decide) (by decide))
 obtain rfl : v207 = some (.int 1) := U207
 exact rfl
 obtain rfl : m = (2 : Int32) := e_m.trans (by rw [z]; decide)
 refine o_iloadN K X0 at_68 rfl rfl ?_
 refine o_ldc K X0 (w0 hw) at_69 rfl ?_
 refine o_iand K X0 at_71 rfl (z := (i1 &&& (2147483647 : Int32))) rfl ?_
 refine o_iload K X0 at_72 rfl rfl ?_
 refine o_irem K X0 at_74 rfl (by decide) (z := ((i1 &&& (2147483647 : Int32)) % (3 : Int32))) rfl ?_
 refine o_istore K X0 at_75 rfl (L' := #[vI i0, vI i1, vI i2, vJ i3, sS, vI i4, vI i5, vI 3, vI 2, vI 0, vI 0, vI 3, vI ((i1 &&& (2147483647 : Int32)) % (3 : Int32)), uS, uS, uS, uS, uS, uS]) rfl ?_
 refine o_new K X0 (w1 hw) (w2 hw) (w3 hw) at_77 rfl (by decide) (by decide) ?_
 intro T240 h240 b240 X240 g240 E240 A240 D240 G240
 have F240_line : Fld Z h240 b240 z2 "line" "I" (.int 0) := (D240 (Or.inr (w193 hw)) (ty := .int) (by decide))
 have F240_fields : Fld Z h240 b240 z2 "fields" z11 .null := (D240 (Or.inr (w195 hw)) (ty := (.object z7)) (by decide))
 refine o_dup K X240 at_80 rfl rfl ?_
 refine o_iload K X240 at_81 rfl rfl ?_
 refine o_bipush K X240 at_83 rfl (z := 97) rfl ?_
 refine o_iload K X240 at_85 rfl rfl ?_
 refine o_lloadN K X240 at_87 rfl rfl ?_
 refine o_iconst K X240 at_88 rfl (z := 0) rfl ?_
 refine o_static K X240  (w4 hw) (w5 hw) (w6 hw) (w7 hw) (by decide) (rm_fields97_3 l Z a0 hw i3 cs dce kd h240 q0 q1 q2 q3) (by decide) rfl (argsL := [.int 97, .int 3, (.long i3), .int 0]) rfl (lenOf pd33 rfl) (W := 3) rfl (by decide) (by decide) (by decide) at_89 rfl ?_
 intro v241 T241 h241 X241 U241
 obtain ⟨l_241, r_241, kr_241, m_241, s0_241, vz0_241, kz0_241, s1_241, vz1_241, kz1_241, s2_241, vz2_241, kz2_241, rfl, u241_0, u241_1, u241_2, u241_3, u241_4, u241_5, u241_6, u241_7, u241_8, u241_9, u241_10, u241_11, u241_12, u241_13, u241_14, u241_15, u241_16, u241_17, u241_18, u241_19, u241_20, u241_21, u241_22, u241_23, u241_24⟩ := U241
 have G241_l : Z.heap.size ≤ l_241 := Nat.le_trans X240.ext0.1 u241_1
 have G241_r : Z.heap.size ≤ r_241 := Nat.le_trans X240.ext0.1 u241_6
 have G241_s0 : Z.heap.size ≤ s0_241 := Nat.le_trans X240.ext0.1 u241_10
 have G241_s1 : Z.heap.size ≤ s1_241 := Nat.le_trans X240.ext0.1 u241_11
 have G241_s2 : Z.heap.size ≤ s2_241 := Nat.le_trans X240.ext0.1 u241_12
 show oGoes pp ee bb ss Z T241 (mkF mm 92 _ [.ref l_241, .int i4, .ref b240, .ref b240]) _ _ _
 have m242 := (A240.keep u241_0)
 have m243 := (F240_line.keep u241_0 nin0)
 have m244 := (F240_fields.keep u241_0 nin0)
 refine o_special K X241 (y := (⟨z2, "<init>", z15⟩ : MethodName)) rfl (w97 hw) (w98 hw) (w3 hw) (w99 hw) (by decide) (rm_crow3 l Z a0 hw b240 i4 l_241 r_241 kr_241 s0_241 s1_241 s2_241 mr h241 m242 m243 m244 G240 u241_2 u241_3 u241_4 u241_7 u241_8 u241_13 u241_17 u241_21 q4) (by decide) rfl (argsL := [.int i4, .ref l_241]) rfl (lenOf pd34 rfl) (W := 1) rfl (by decide) (by decide) (by decide) at_92 rfl ?_
 intro v245 T245 h245 X245 U245
 obtain ⟨q_245, y_245, ky_245, rfl, u245_0, u245_1, u245_2, u245_3, u245_4, u245_5, u245_6⟩ := U245
 show oGoes pp ee bb ss Z T245 (mkF mm 95 _ [.ref b240]) _ _ _
 refine o_astore K X245 at_95 rfl rfl (L' := #[vI i0, vI i1, vI i2, vJ i3, sS, vI i4, vI i5, vI 3, vI 2, vI 0, vI 0, vI 3, vI ((i1 &&& (2147483647 : Int32)) % (3 : Int32)), vR b240, uS, uS, uS, uS, uS]) rfl ?_
 refine o_iload K X245 at_97 rfl rfl ?_
 refine o_if_eq_t K X245 at_99 (by decide) (pc' := 106) (by decide) (by decide) ?_
 refine o_new K X245 (w1 hw) (w2 hw) (w3 hw) at_106 rfl (by decide) (by decide) ?_
 intro T246 h246 b246 X246 g246 E246 A246 D246 G246
 have F246_line : Fld Z h246 b246 z2 "line" "I" (.int 0) := (D246 (Or.inr (w193 hw)) (ty := .int) (by decide))
 have F246_fields : Fld Z h246 b246 z2 "fields" z11 .null := (D246 (Or.inr (w195 hw)) (ty := (.object z7)) (by decide))
 refine o_dup K X246 at_109 rfl rfl ?_
 refine o_iload K X246 at_110 rfl rfl ?_
 refine o_bipush K X246 at_112 rfl (z := 100) rfl ?_
 refine o_iload K X246 at_114 rfl rfl ?_
 refine o_lloadN K X246 at_116 rfl rfl ?_
 refine o_iconst K X246 at_117 rfl (z := 3) rfl ?_
 refine o_static K X246  (w4 hw) (w5 hw) (w6 hw) (w7 hw) (by decide) (rm_fields100_2 l Z a0 hw i3 cs dce kd h246 q0 q1 q2 q3) (by decide) rfl (argsL := [.int 100, .int 2, (.long i3), .int 3]) rfl (lenOf pd33 rfl) (W := 3) rfl (by decide) (by decide) (by decide) at_118 rfl ?_
 intro v247 T247 h247 X247 U247
 obtain ⟨l_247, r_247, kr_247, m_247, s0_247, vz0_247, kz0_247, s1_247, vz1_247, kz1_247, rfl, u247_0, u247_1, u247_2, u247_3, u247_4, u247_5, u247_6, u247_7, u247_8, u247_9, u247_10, u247_11, u247_12, u247_13, u247_14, u247_15, u247_16, u247_17, u247_18, u247_19⟩ := U247
 have G247_l : Z.heap.size ≤ l_247 := Nat.le_trans X246.ext0.1 u247_1
 have G247_r : Z.heap.size ≤ r_247 := Nat.le_trans X246.ext0.1 u247_6
 have G247_s0 : Z.heap.size ≤ s0_247 := Nat.le_trans X246.ext0.1 u247_10
 have G247_s1 : Z.heap.size ≤ s1_247 := Nat.le_trans X246.ext0.1 u247_11
 show oGoes pp ee bb ss Z T247 (mkF mm 121 _ [.ref l_247, .int i5, .ref b246, .ref b246]) _ _ _
 have m248 := (A246.keep u247_0)
 have m249 := (F246_line.keep u247_0 nin0)
 have m250 := (F246_fields.keep u247_0 nin0)
 refine o_special K X247 (y := (⟨z2, "<init>", z15⟩ : MethodName)) rfl (w97 hw) (w98 hw) (w3 hw) (w99 hw) (by decide) (rm_crow2 l Z a0 hw b246 i5 l_247 r_247 kr_247 s0_247 s1_247 mr h247 m248 m249 m250 G246 u247_2 u247_3 u247_4 u247_7 u247_8 u247_12 u247_16 q4) (by decide) rfl (argsL := [.int i5, .ref l_247]) rfl (lenOf pd34 rfl) (W := 1) rfl (by decide) (by decide) (by decide) at_121 rfl ?_
 intro v251 T251 h251 X251 U251
 obtain ⟨q_251, rfl, u251_0, u251_1, u251_2, u251_3, u251_4, u251_5, u251_6⟩ := U251
 show oGoes pp ee bb ss Z T251 (mkF mm 124 _ [.ref b246]) _ _ _
 refine o_astore K X251 at_124 rfl rfl (L' := #[vI i0, vI i1, vI i2, vJ i3, sS, vI i4, vI i5, vI 3, vI 2, vI 0, vI 0, vI 3, vI ((i1 &&& (2147483647 : Int32)) % (3 : Int32)), vR b240, vR b246, uS, uS, uS, uS]) rfl ?_
 have m253 := (((u245_1.ext E246).keep u247_0).keep u251_0)
 have n254 := oLn A240.lt (Nat.le_trans u241_0.1 u245_0.1) (oLe g246)
 have m255 := (((u245_3.ext E246).keep u247_0 nin0).keep u251_0 (ninS n254 nin0))
 have m256 := (((u245_4.ext E246).keep u247_0).keep u251_0)
 have n257 := oLz u245_4.lt (oLe g246)
 have m258 := (((u245_5.ext E246).keep u247_0 nin0).keep u251_0 (ninS n257 nin0))
 have n259 := oLz u245_6.lt (oLe g246)
 have m260 := (((u245_6.ext E246).keep u247_0 nin0).keep u251_0 (ninS n259 nin0))
 have m261 := ((((u241_13.keep u245_0).ext E246).keep u247_0).keep u251_0)
 have n262 := oLsz A240.lt u241_10
 have n263 := oLn u241_13.lt u245_0.1 (oLe g246)
 have m264 := ((((u241_14.keep u245_0 (ninS n262 nin0)).ext E246).keep u247_0 nin0).keep u251_0 (ninS n263 nin0))
 have m265 := ((((u241_15.keep u245_0 (ninS n262 nin0)).ext E246).keep u247_0 nin0).keep u251_0 (ninS n263 nin0))
 have n266 : vz0_241 ≠ b240 := (oNeArr (A240.keep u241_0) (w2 hw) u241_16)
 have n267 := oLn u241_16.lt u245_0.1 (oLe g246)
 have m268 := ((((u241_16.keep u245_0 (ninS n266 nin0)).ext E246).keep u247_0 nin0).keep u251_0 (ninS n267 nin0))
 have m269 := ((((u241_17.keep u245_0).ext E246).keep u247_0).keep u251_0)
 have n270 := oLsz A240.lt u241_11
 have n271 := oLn u241_17.lt u245_0.1 (oLe g246)
 have m272 := ((((u241_18.keep u245_0 (ninS n270 nin0)).ext E246).keep u247_0 nin0).keep u251_0 (ninS n271 nin0))
 have m273 := ((((u241_19.keep u245_0 (ninS n270 nin0)).ext E246).keep u247_0 nin0).keep u251_0 (ninS n271 nin0))
 have n274 : vz1_241 ≠ b240 := (oNeArr (A240.keep u241_0) (w2 hw) u241_20)
 have n275 := oLn u241_20.lt u245_0.1 (oLe g246)
 have m276 := ((((u241_20.keep u245_0 (ninS n274 nin0)).ext E246).keep u247_0 nin0).keep u251_0 (ninS n275 nin0))
 have m277 := ((((u241_21.keep u245_0).ext E246).keep u247_0).keep u251_0)
 have n278 := oLsz A240.lt u241_12
 have n279 := oLn u241_21.lt u245_0.1 (oLe g246)
 have m280 := ((((u241_22.keep u245_0 (ninS n278 nin0)).ext E246).keep u247_0 nin0).keep u251_0 (ninS n279 nin0))
 have m281 := ((((u241_23.keep u245_0 (ninS n278 nin0)).ext E246).keep u247_0 nin0).keep u251_0 (ninS n279 nin0))
 have n282 : vz2_241 ≠ b240 := (oNeArr (A240.keep u241_0) (w2 hw) u241_24)
 have n283 := oLn u241_24.lt u245_0.1 (oLe g246)
 have m284 := ((((u241_24.keep u245_0 (ninS n282 nin0)).ext E246).keep u247_0 nin0).keep u251_0 (ninS n283 nin0))
 refine tl_lw0_3 l Z a0 hw i0 i1 i2 i3 i4 i5 3 2 0 3 ((i1 &&& (2147483647 : Int32)) % (3 : Int32)) (.ref b246) b240 q_245 y_245 ky_245 s0_241 vz0_241 kz0_241 s1_241 vz1_241 kz1_241 s2_241 vz2_241 kz2_241 cs h251 (oR3 i1) m253 m255 m256 m258 m260 m261 m264 m265 m268 m269 m272 m273 m276 m277 m280 m281 m284 G241_s0 G241_s1 G241_s2 q0 q1 rfl (fun v252 h252 U252 => ?_) K (X251.mono (by decide) (by decide))
 obtain rfl : v252 = some (.int 1) := U252
 exact rfl
 obtain rfl : m = (3 : Int32) := e_m.trans (by rw [z]; decide)
 refine o_iloadN K X0 at_68 rfl rfl ?_
 refine o_ldc K X0 (w0 hw) at_69 rfl ?_
 refine o_iand K X0 at_71 rfl (z := (i1 &&& (2147483647 : Int32))) rfl ?_
 refine o_iload K X0 at_72 rfl rfl ?_
 refine o_irem K X0 at_74 rfl (by decide) (z := ((i1 &&& (2147483647 : Int32)) % (3 : Int32))) rfl ?_
 refine o_istore K X0 at_75 rfl (L' := #[vI i0, vI i1, vI i2, vJ i3, sS, vI i4, vI i5, vI 3, vI 3, vI 0, vI 0, vI 3, vI ((i1 &&& (2147483647 : Int32)) % (3 : Int32)), uS, uS, uS, uS, uS, uS]) rfl ?_
 refine o_new K X0 (w1 hw) (w2 hw) (w3 hw) at_77 rfl (by decide) (by decide) ?_
 intro T285 h285 b285 X285 g285 E285 A285 D285 G285
 have F285_line : Fld Z h285 b285 z2 "line" "I" (.int 0) := (D285 (Or.inr (w193 hw)) (ty := .int) (by decide))
 have F285_fields : Fld Z h285 b285 z2 "fields" z11 .null := (D285 (Or.inr (w195 hw)) (ty := (.object z7)) (by decide))
 refine o_dup K X285 at_80 rfl rfl ?_
 refine o_iload K X285 at_81 rfl rfl ?_
 refine o_bipush K X285 at_83 rfl (z := 97) rfl ?_
 refine o_iload K X285 at_85 rfl rfl ?_
 refine o_lloadN K X285 at_87 rfl rfl ?_
 refine o_iconst K X285 at_88 rfl (z := 0) rfl ?_
 refine o_static K X285  (w4 hw) (w5 hw) (w6 hw) (w7 hw) (by decide) (rm_fields97_3 l Z a0 hw i3 cs dce kd h285 q0 q1 q2 q3) (by decide) rfl (argsL := [.int 97, .int 3, (.long i3), .int 0]) rfl (lenOf pd33 rfl) (W := 3) rfl (by decide) (by decide) (by decide) at_89 rfl ?_
 intro v286 T286 h286 X286 U286
 obtain ⟨l_286, r_286, kr_286, m_286, s0_286, vz0_286, kz0_286, s1_286, vz1_286, kz1_286, s2_286, vz2_286, kz2_286, rfl, u286_0, u286_1, u286_2, u286_3, u286_4, u286_5, u286_6, u286_7, u286_8, u286_9, u286_10, u286_11, u286_12, u286_13, u286_14, u286_15, u286_16, u286_17, u286_18, u286_19, u286_20, u286_21, u286_22, u286_23, u286_24⟩ := U286
 have G286_l : Z.heap.size ≤ l_286 := Nat.le_trans X285.ext0.1 u286_1
 have G286_r : Z.heap.size ≤ r_286 := Nat.le_trans X285.ext0.1 u286_6
 have G286_s0 : Z.heap.size ≤ s0_286 := Nat.le_trans X285.ext0.1 u286_10
 have G286_s1 : Z.heap.size ≤ s1_286 := Nat.le_trans X285.ext0.1 u286_11
 have G286_s2 : Z.heap.size ≤ s2_286 := Nat.le_trans X285.ext0.1 u286_12
 show oGoes pp ee bb ss Z T286 (mkF mm 92 _ [.ref l_286, .int i4, .ref b285, .ref b285]) _ _ _
 have m287 := (A285.keep u286_0)
 have m288 := (F285_line.keep u286_0 nin0)
 have m289 := (F285_fields.keep u286_0 nin0)
 refine o_special K X286 (y := (⟨z2, "<init>", z15⟩ : MethodName)) rfl (w97 hw) (w98 hw) (w3 hw) (w99 hw) (by decide) (rm_crow3 l Z a0 hw b285 i4 l_286 r_286 kr_286 s0_286 s1_286 s2_286 mr h286 m287 m288 m289 G285 u286_2 u286_3 u286_4 u286_7 u286_8 u286_13 u286_17 u286_21 q4) (by decide) rfl (argsL := [.int i4, .ref l_286]) rfl (lenOf pd34 rfl) (W := 1) rfl (by decide) (by decide) (by decide) at_92 rfl ?_
 intro v290 T290 h290 X290 U290
 obtain ⟨q_290, y_290, ky_290, rfl, u290_0, u290_1, u290_2, u290_3, u290_4, u290_5, u290_6⟩ := U290
 show oGoes pp ee bb ss Z T290 (mkF mm 95 _ [.ref b285]) _ _ _
 refine o_astore K X290 at_95 rfl rfl (L' := #[vI i0, vI i1, vI i2, vJ i3, sS, vI i4, vI i5, vI 3, vI 3, vI 0, vI 0, vI 3, vI ((i1 &&& (2147483647 : Int32)) % (3 : Int32)), vR b285, uS, uS, uS, uS, uS]) rfl ?_
 refine o_iload K X290 at_97 rfl rfl ?_
 refine o_if_eq_t K X290 at_99 (by decide) (pc' := 106) (by decide) (by decide) ?_
 refine o_new K X290 (w1 hw) (w2 hw) (w3 hw) at_106 rfl (by decide) (by decide) ?_
 intro T291 h291 b291 X291 g291 E291 A291 D291 G291
 have F291_line : Fld Z h291 b291 z2 "line" "I" (.int 0) := (D291 (Or.inr (w193 hw)) (ty := .int) (by decide))
 have F291_fields : Fld Z h291 b291 z2 "fields" z11 .null := (D291 (Or.inr (w195 hw)) (ty := (.object z7)) (by decide))
 refine o_dup K X291 at_109 rfl rfl ?_
 refine o_iload K X291 at_110 rfl rfl ?_
 refine o_bipush K X291 at_112 rfl (z := 100) rfl ?_
 refine o_iload K X291 at_114 rfl rfl ?_
 refine o_lloadN K X291 at_116 rfl rfl ?_
 refine o_iconst K X291 at_117 rfl (z := 3) rfl ?_
 refine o_static K X291  (w4 hw) (w5 hw) (w6 hw) (w7 hw) (by decide) (rm_fields100_3 l Z a0 hw i3 cs dce kd h291 q0 q1 q2 q3) (by decide) rfl (argsL := [.int 100, .int 3, (.long i3), .int 3]) rfl (lenOf pd33 rfl) (W := 3) rfl (by decide) (by decide) (by decide) at_118 rfl ?_
 intro v292 T292 h292 X292 U292
 obtain ⟨l_292, r_292, kr_292, m_292, s0_292, vz0_292, kz0_292, s1_292, vz1_292, kz1_292, s2_292, vz2_292, kz2_292, rfl, u292_0, u292_1, u292_2, u292_3, u292_4, u292_5, u292_6, u292_7, u292_8, u292_9, u292_10, u292_11, u292_12, u292_13, u292_14, u292_15, u292_16, u292_17, u292_18, u292_19, u292_20, u292_21, u292_22, u292_23, u292_24⟩ := U292
 have G292_l : Z.heap.size ≤ l_292 := Nat.le_trans X291.ext0.1 u292_1
 have G292_r : Z.heap.size ≤ r_292 := Nat.le_trans X291.ext0.1 u292_6
 have G292_s0 : Z.heap.size ≤ s0_292 := Nat.le_trans X291.ext0.1 u292_10
 have G292_s1 : Z.heap.size ≤ s1_292 := Nat.le_trans X291.ext0.1 u292_11
 have G292_s2 : Z.heap.size ≤ s2_292 := Nat.le_trans X291.ext0.1 u292_12
 show oGoes pp ee bb ss Z T292 (mkF mm 121 _ [.ref l_292, .int i5, .ref b291, .ref b291]) _ _ _
 have m293 := (A291.keep u292_0)
 have m294 := (F291_line.keep u292_0 nin0)
 have m295 := (F291_fields.keep u292_0 nin0)
 refine o_special K X292 (y := (⟨z2, "<init>", z15⟩ : MethodName)) rfl (w97 hw) (w98 hw) (w3 hw) (w99 hw) (by decide) (rm_crow3 l Z a0 hw b291 i5 l_292 r_292 kr_292 s0_292 s1_292 s2_292 mr h292 m293 m294 m295 G291 u292_2 u292_3 u292_4 u292_7 u292_8 u292_13 u292_17 u292_21 q4) (by decide) rfl (argsL := [.int i5, .ref l_292]) rfl (lenOf pd34 rfl) (W := 1) rfl (by decide) (by decide) (by decide) at_121 rfl ?_
 intro v296 T296 h296 X296 U296
 obtain ⟨q_296, y_296, ky_296, rfl, u296_0, u296_1, u296_2, u296_3, u296_4, u296_5, u296_6⟩ := U296
 show oGoes pp ee bb ss Z T296 (mkF mm 124 _ [.ref b291]) _ _ _
 refine o_astore K X296 at_124 rfl rfl (L' := #[vI i0, vI i1, vI i2, vJ i3, sS, vI i4, vI i5, vI 3, vI 3, vI 0, vI 0, vI 3, vI ((i1 &&& (2147483647 : Int32)) % (3 : Int32)), vR b285, vR b291, uS, uS, uS, uS]) rfl ?_
 have m298 := (((u290_1.ext E291).keep u292_0).keep u296_0)
 have n299 := oLn A285.lt (Nat.le_trans u286_0.1 u290_0.1) (oLe g291)
 have m300 := (((u290_3.ext E291).keep u292_0 nin0).keep u296_0 (ninS n299 nin0))
 have m301 := (((u290_4.ext E291).keep u292_0).keep u296_0)
 have n302 := oLz u290_4.lt (oLe g291)
 have m303 := (((u290_5.ext E291).keep u292_0 nin0).keep u296_0 (ninS n302 nin0))
 have n304 := oLz u290_6.lt (oLe g291)
 have m305 := (((u290_6.ext E291).keep u292_0 nin0).keep u296_0 (ninS n304 nin0))
 have m306 := ((((u286_13.keep u290_0).ext E291).keep u292_0).keep u296_0)
 have n307 := oLsz A285.lt u286_10
 have n308 := oLn u286_13.lt u290_0.1 (oLe g291)
 have m309 := ((((u286_14.keep u290_0 (ninS n307 nin0)).ext E291).keep u292_0 nin0).keep u296_0 (ninS n308 nin0))
 have m310 := ((((u286_15.keep u290_0 (ninS n307 nin0)).ext E291).keep u292_0 nin0).keep u296_0 (ninS n308 nin0))
 have n311 : vz0_286 ≠ b285 := (oNeArr (A285.keep u286_0) (w2 hw) u286_16)
 have n312 := oLn u286_16.lt u290_0.1 (oLe g291)
 have m313 := ((((u286_16.keep u290_0 (ninS n311 nin0)).ext E291).keep u292_0 nin0).keep u296_0 (ninS n312 nin0))
 have m314 := ((((u286_17.keep u290_0).ext E291).keep u292_0).keep u296_0)
 have n315 := oLsz A285.lt u286_11
 have n316 := oLn u286_17.lt u290_0.1 (oLe g291)
 have m317 := ((((u286_18.keep u290_0 (ninS n315 nin0)).ext E291).keep u292_0 nin0).keep u296_0 (ninS n316 nin0))
 have m318 := ((((u286_19.keep u290_0 (ninS n315 nin0)).ext E291).keep u292_0 nin0).keep u296_0 (ninS n316 nin0))
 have n319 : vz1_286 ≠ b285 := (oNeArr (A285.keep u286_0) (w2 hw) u286_20)
 have n320 := oLn u286_20.lt u290_0.1 (oLe g291)
 have m321 := ((((u286_20.keep u290_0 (ninS n319 nin0)).ext E291).keep u292_0 nin0).keep u296_0 (ninS n320 nin0))
 have m322 := ((((u286_21.keep u290_0).ext E291).keep u292_0).keep u296_0)
 have n323 := oLsz A285.lt u286_12
 have n324 := oLn u286_21.lt u290_0.1 (oLe g291)
 have m325 := ((((u286_22.keep u290_0 (ninS n323 nin0)).ext E291).keep u292_0 nin0).keep u296_0 (ninS n324 nin0))
 have m326 := ((((u286_23.keep u290_0 (ninS n323 nin0)).ext E291).keep u292_0 nin0).keep u296_0 (ninS n324 nin0))
 have n327 : vz2_286 ≠ b285 := (oNeArr (A285.keep u286_0) (w2 hw) u286_24)
 have n328 := oLn u286_24.lt u290_0.1 (oLe g291)
 have m329 := ((((u286_24.keep u290_0 (ninS n327 nin0)).ext E291).keep u292_0 nin0).keep u296_0 (ninS n328 nin0))
 refine tl_lw0_3 l Z a0 hw i0 i1 i2 i3 i4 i5 3 3 0 3 ((i1 &&& (2147483647 : Int32)) % (3 : Int32)) (.ref b291) b285 q_290 y_290 ky_290 s0_286 vz0_286 kz0_286 s1_286 vz1_286 kz1_286 s2_286 vz2_286 kz2_286 cs h296 (oR3 i1) m298 m300 m301 m303 m305 m306 m309 m310 m313 m314 m317 m318 m321 m322 m325 m326 m329 G286_s0 G286_s1 G286_s2 q0 q1 rfl (fun v297 h297 U297 => ?_) K (X296.mono (by decide) (by decide))
 obtain rfl : v297 = some (.int 1) := U297
 exact rfl
 refine o_if_eq_f K X0 at_44 rfl c44_2 ?_
 refine o_iconst K X0 at_47 rfl (z := 1) rfl ?_
 refine o_goto K X0 at_48 (by decide) (pc' := 52) (by decide) ?_
 refine o_istore K X0 at_52 rfl (L' := #[vI i0, vI i1, vI i2, vJ i3, sS, vI i4, vI i5, vI ((1 : Int32) + ((i0 &&& (2147483647 : Int32)) % (3 : Int32))), vI ((1 : Int32) + ((((i0.toUInt32 >>> ((8 : Int32) &&& 31).toUInt32).toInt32) &&& (2147483647 : Int32)) % (3 : Int32))), vI 0, vI 1, uS, uS, uS, uS, uS, uS, uS, uS]) rfl ?_
 refine o_iload K X0 at_54 rfl rfl ?_
 refine o_if_eq_t K X0 at_56 (by decide) (pc' := 64) (by decide) (by decide) ?_
 refine o_iload K X0 at_64 rfl rfl ?_
 refine o_istore K X0 at_66 rfl (L' := #[vI i0, vI i1, vI i2, vJ i3, sS, vI i4, vI i5, vI ((1 : Int32) + ((i0 &&& (2147483647 : Int32)) % (3 : Int32))), vI ((1 : Int32) + ((((i0.toUInt32 >>> ((8 : Int32) &&& 31).toUInt32).toInt32) &&& (2147483647 : Int32)) % (3 : Int32))), vI 0, vI 1, vI ((1 : Int32) + ((i0 &&& (2147483647 : Int32)) % (3 : Int32))), uS, uS, uS, uS, uS, uS, uS]) rfl ?_
 obtain ⟨n, e_n⟩ : ∃ x : Int32, x = ((1 : Int32) + ((i0 &&& (2147483647 : Int32)) % (3 : Int32))) := ⟨_, rfl⟩
 rw [← e_n]
 obtain ⟨m, e_m⟩ : ∃ x : Int32, x = ((1 : Int32) + ((((i0.toUInt32 >>> ((8 : Int32) &&& 31).toUInt32).toInt32) &&& (2147483647 : Int32)) % (3 : Int32))) := ⟨_, rfl⟩
 rw [← e_m]
 rcases oR3 i0 with z | z | z
 obtain rfl : n = (1 : Int32) := e_n.trans (by rw [z]; decide)
 refine o_iloadN K X0 at_68 rfl rfl ?_
 refine o_ldc K X0 (w0 hw) at_69 rfl ?_
 refine o_iand K X0 at_71 rfl (z := (i1 &&& (2147483647 : Int32))) rfl ?_
 refine o_iload K X0 at_72 rfl rfl ?_
 refine o_irem K X0 at_74 rfl (by decide) (z := ((i1 &&& (2147483647 : Int32)) % (1 : Int32))) rfl ?_
 refine o_istore K X0 at_75 rfl (L' := #[vI i0, vI i1, vI i2, vJ i3, sS, vI i4, vI i5, vI 1, vI m, vI 0, vI 1, vI 1, vI ((i1 &&& (2147483647 : Int32)) % (1 : Int32)), uS, uS, uS, uS, uS, uS]) rfl ?_
 refine o_new K X0 (w1 hw) (w2 hw) (w3 hw) at_77 rfl (by decide) (by decide) ?_
 intro T330 h330 b330 X330 g330 E330 A330 D330 G330
 have F330_line : Fld Z h330 b330 z2 "line" "I" (.int 0) := (D330 (Or.inr (w193 hw)) (ty := .int) (by decide))
 have F330_fields : Fld Z h330 b330 z2 "fields" z11 .null := (D330 (Or.inr (w195 hw)) (ty := (.object z7)) (by decide))
 refine o_dup K X330 at_80 rfl rfl ?_
 refine o_iload K X330 at_81 rfl rfl ?_
 refine o_bipush K X330 at_83 rfl (z := 97) rfl ?_
 refine o_iload K X330 at_85 rfl rfl ?_
 refine o_lloadN K X330 at_87 rfl rfl ?_
 refine o_iconst K X330 at_88 rfl (z := 0) rfl ?_
 refine o_static K X330  (w4 hw) (w5 hw) (w6 hw) (w7 hw) (by decide) (rm_fields97_1 l Z a0 hw i3 cs dce kd h330 q0 q1 q2 q3) (by decide) rfl (argsL := [.int 97, .int 1, (.long i3), .int 0]) rfl (lenOf pd33 rfl) (W := 3) rfl (by decide) (by decide) (by decide) at_89 rfl ?_
 intro v331 T331 h331 X331 U331
 obtain ⟨l_331, r_331, kr_331, m_331, s0_331, vz0_331, kz0_331, rfl, u331_0, u331_1, u331_2, u331_3, u331_4, u331_5, u331_6, u331_7, u331_8, u331_9, u331_10, u331_11, u331_12, u331_13, u331_14⟩ := U331
 have G331_l : Z.heap.size ≤ l_331 := Nat.le_trans X330.ext0.1 u331_1
 have G331_r : Z.heap.size ≤ r_331 := Nat.le_trans X330.ext0.1 u331_6
 have G331_s0 : Z.heap.size ≤ s0_331 := Nat.le_trans X330.ext0.1 u331_10
 show oGoes pp ee bb ss Z T331 (mkF mm 92 _ [.ref l_331, .int i4, .ref b330, .ref b330]) _ _ _
 have m332 := (A330.keep u331_0)
 have m333 := (F330_line.keep u331_0 nin0)
 have m334 := (F330_fields.keep u331_0 nin0)
 refine o_special K X331 (y := (⟨z2, "<init>", z15⟩ : MethodName)) rfl (w97 hw) (w98 hw) (w3 hw) (w99 hw) (by decide) (rm_crow1 l Z a0 hw b330 i4 l_331 r_331 kr_331 s0_331 mr em h331 m332 m333 m334 G330 u331_2 u331_3 u331_4 u331_7 u331_8 u331_11 q4 q5) (by decide) rfl (argsL := [.int i4, .ref l_331]) rfl (lenOf pd34 rfl) (W := 1) rfl (by decide) (by decide) (by decide) at_92 rfl ?_
 intro v335 T335 h335 X335 U335
 obtain ⟨q_335, rfl, u335_0, u335_1, u335_2, u335_3, u335_4, u335_5, u335_6⟩ := U335
 show oGoes pp ee bb ss Z T335 (mkF mm 95 _ [.ref b330]) _ _ _
 refine o_astore K X335 at_95 rfl rfl (L' := #[vI i0, vI i1, vI i2, vJ i3, sS, vI i4, vI i5, vI 1, vI m, vI 0, vI 1, vI 1, vI ((i1 &&& (2147483647 : Int32)) % (1 : Int32)), vR b330, uS, uS, uS, uS, uS]) rfl ?_
 refine o_iload K X335 at_97 rfl rfl ?_
 refine o_if_eq_f K X335 at_99 rfl (by decide) ?_
 refine o_aconst_null K X335 at_102 rfl ?_
 refine o_goto K X335 at_103 (by decide) (pc' := 124) (by decide) ?_
 refine o_astore K X335 at_124 rfl rfl (L' := #[vI i0, vI i1, vI i2, vJ i3, sS, vI i4, vI i5, vI 1, vI m, vI 0, vI 1, vI 1, vI ((i1 &&& (2147483647 : Int32)) % (1 : Int32)), vR b330, vN, uS, uS, uS, uS]) rfl ?_
 have m337 := (u331_11.keep u335_0)
 have n338 := oLsz A330.lt u331_10
 have m339 := (u331_12.keep u335_0 (ninS n338 nin0))
 have m340 := (u331_13.keep u335_0 (ninS n338 nin0))
 have n341 : vz0_331 ≠ b330 := (oNeArr (A330.keep u331_0) (w2 hw) u331_14)
 have m342 := (u331_14.keep u335_0 (ninS n341 nin0))
 refine tl_lw0_1 l Z a0 hw i0 i1 i2 i3 i4 i5 1 m 1 1 ((i1 &&& (2147483647 : Int32)) % (1 : Int32)) .null b330 q_335 s0_331 vz0_331 kz0_331 cs em h335 (oR1 i1) u335_1 u335_3 u335_4 u335_5 u335_6 m337 m339 m340 m342 G331_s0 q0 q1 q5 q6 rfl (fun v336 h336 U336 => ?_) K (X335.mono (by decide) (by decide))
 obtain rfl : v336 = some (.int 1) := U336
 exact rfl
 obtain rfl : n = (2 : Int32) := e_n.trans (by rw [z]; decide)
 refine o_iloadN K X0 at_68 rfl rfl ?_
 refine o_ldc K X0 (w0 hw) at_69 rfl ?_
 refine o_iand K X0 at_71 rfl (z := (i1 &&& (2147483647 : Int32))) rfl ?_
 refine o_iload K X0 at_72 rfl rfl ?_
 refine o_irem K X0 at_74 rfl (by decide) (z := ((i1 &&& (2147483647 : Int32)) % (2 : Int32))) rfl ?_
 refine o_istore K X0 at_75 rfl (L' := #[vI i0, vI i1, vI i2, vJ i3, sS, vI i4, vI i5, vI 2, vI m, vI 0, vI 1, vI 2, vI ((i1 &&& (2147483647 : Int32)) % (2 : Int32)), uS, uS, uS, uS, uS, uS]) rfl ?_
 refine o_new K X0 (w1 hw) (w2 hw) (w3 hw) at_77 rfl (by decide) (by decide) ?_
 intro T343 h343 b343 X343 g343 E343 A343 D343 G343
 have F343_line : Fld Z h343 b343 z2 "line" "I" (.int 0) := (D343 (Or.inr (w193 hw)) (ty := .int) (by decide))
 have F343_fields : Fld Z h343 b343 z2 "fields" z11 .null := (D343 (Or.inr (w195 hw)) (ty := (.object z7)) (by decide))
 refine o_dup K X343 at_80 rfl rfl ?_
 refine o_iload K X343 at_81 rfl rfl ?_
 refine o_bipush K X343 at_83 rfl (z := 97) rfl ?_
 refine o_iload K X343 at_85 rfl rfl ?_
 refine o_lloadN K X343 at_87 rfl rfl ?_
 refine o_iconst K X343 at_88 rfl (z := 0) rfl ?_
 refine o_static K X343  (w4 hw) (w5 hw) (w6 hw) (w7 hw) (by decide) (rm_fields97_2 l Z a0 hw i3 cs dce kd h343 q0 q1 q2 q3) (by decide) rfl (argsL := [.int 97, .int 2, (.long i3), .int 0]) rfl (lenOf pd33 rfl) (W := 3) rfl (by decide) (by decide) (by decide) at_89 rfl ?_
 intro v344 T344 h344 X344 U344
 obtain ⟨l_344, r_344, kr_344, m_344, s0_344, vz0_344, kz0_344, s1_344, vz1_344, kz1_344, rfl, u344_0, u344_1, u344_2, u344_3, u344_4, u344_5, u344_6, u344_7, u344_8, u344_9, u344_10, u344_11, u344_12, u344_13, u344_14, u344_15, u344_16, u344_17, u344_18, u344_19⟩ := U344
 have G344_l : Z.heap.size ≤ l_344 := Nat.le_trans X343.ext0.1 u344_1
 have G344_r : Z.heap.size ≤ r_344 := Nat.le_trans X343.ext0.1 u344_6
 have G344_s0 : Z.heap.size ≤ s0_344 := Nat.le_trans X343.ext0.1 u344_10
 have G344_s1 : Z.heap.size ≤ s1_344 := Nat.le_trans X343.ext0.1 u344_11
 show oGoes pp ee bb ss Z T344 (mkF mm 92 _ [.ref l_344, .int i4, .ref b343, .ref b343]) _ _ _
 have m345 := (A343.keep u344_0)
 have m346 := (F343_line.keep u344_0 nin0)
 have m347 := (F343_fields.keep u344_0 nin0)
 refine o_special K X344 (y := (⟨z2, "<init>", z15⟩ : MethodName)) rfl (w97 hw) (w98 hw) (w3 hw) (w99 hw) (by decide) (rm_crow2 l Z a0 hw b343 i4 l_344 r_344 kr_344 s0_344 s1_344 mr h344 m345 m346 m347 G343 u344_2 u344_3 u344_4 u344_7 u344_8 u344_12 u344_16 q4) (by decide) rfl (argsL := [.int i4, .ref l_344]) rfl (lenOf pd34 rfl) (W := 1) rfl (by decide) (by decide) (by decide) at_92 rfl ?_
 intro v348 T348 h348 X348 U348
 obtain ⟨q_348, rfl, u348_0, u348_1, u348_2, u348_3, u348_4, u348_5, u348_6⟩ := U348
 show oGoes pp ee bb ss Z T348 (mkF mm 95 _ [.ref b343]) _ _ _
 refine o_astore K X348 at_95 rfl rfl (L' := #[vI i0, vI i1, vI i2, vJ i3, sS, vI i4, vI i5, vI 2, vI m, vI 0, vI 1, vI 2, vI ((i1 &&& (2147483647 : Int32)) % (2 : Int32)), vR b343, uS, uS, uS, uS, uS]) rfl ?_
 refine o_iload K X348 at_97 rfl rfl ?_
 refine o_if_eq_f K X348 at_99 rfl (by decide) ?_
 refine o_aconst_null K X348 at_102 rfl ?_
 refine o_goto K X348 at_103 (by decide) (pc' := 124) (by decide) ?_
 refine o_astore K X348 at_124 rfl rfl (L' := #[vI i0, vI i1, vI i2, vJ i3, sS, vI i4, vI i5, vI 2, vI m, vI 0, vI 1, vI 2, vI ((i1 &&& (2147483647 : Int32)) % (2 : Int32)), vR b343, vN, uS, uS, uS, uS]) rfl ?_
 have m350 := (u344_12.keep u348_0)
 have n351 := oLsz A343.lt u344_10
 have m352 := (u344_13.keep u348_0 (ninS n351 nin0))
 have m353 := (u344_14.keep u348_0 (ninS n351 nin0))
 have n354 : vz0_344 ≠ b343 := (oNeArr (A343.keep u344_0) (w2 hw) u344_15)
 have m355 := (u344_15.keep u348_0 (ninS n354 nin0))
 have m356 := (u344_16.keep u348_0)
 have n357 := oLsz A343.lt u344_11
 have m358 := (u344_17.keep u348_0 (ninS n357 nin0))
 have m359 := (u344_18.keep u348_0 (ninS n357 nin0))
 have n360 : vz1_344 ≠ b343 := (oNeArr (A343.keep u344_0) (w2 hw) u344_19)
 have m361 := (u344_19.keep u348_0 (ninS n360 nin0))
 refine tl_lw0_2 l Z a0 hw i0 i1 i2 i3 i4 i5 2 m 1 2 ((i1 &&& (2147483647 : Int32)) % (2 : Int32)) .null b343 q_348 s0_344 vz0_344 kz0_344 s1_344 vz1_344 kz1_344 cs em h348 (oR2 i1) u348_1 u348_3 u348_4 u348_5 u348_6 m350 m352 m353 m355 m356 m358 m359 m361 G344_s0 G344_s1 q0 q1 q5 q6 rfl (fun v349 h349 U349 => ?_) K (X348.mono (by decide) (by decide))
 obtain rfl : v349 = some (.int 1) := U349
 exact rfl
 obtain rfl : n = (3 : Int32) := e_n.trans (by rw [z]; decide)
 refine o_iloadN K X0 at_68 rfl rfl ?_
 refine o_ldc K X0 (w0 hw) at_69 rfl ?_
 refine o_iand K X0 at_71 rfl (z := (i1 &&& (2147483647 : Int32))) rfl ?_
 refine o_iload K X0 at_72 rfl rfl ?_
 refine o_irem K X0 at_74 rfl (by decide) (z := ((i1 &&& (2147483647 : Int32)) % (3 : Int32))) rfl ?_
 refine o_istore K X0 at_75 rfl (L' := #[vI i0, vI i1, vI i2, vJ i3, sS, vI i4, vI i5, vI 3, vI m, vI 0, vI 1, vI 3, vI ((i1 &&& (2147483647 : Int32)) % (3 : Int32)), uS, uS, uS, uS, uS, uS]) rfl ?_
 refine o_new K X0 (w1 hw) (w2 hw) (w3 hw) at_77 rfl (by decide) (by decide) ?_
 intro T362 h362 b362 X362 g362 E362 A362 D362 G362
 have F362_line : Fld Z h362 b362 z2 "line" "I" (.int 0) := (D362 (Or.inr (w193 hw)) (ty := .int) (by decide))
 have F362_fields : Fld Z h362 b362 z2 "fields" z11 .null := (D362 (Or.inr (w195 hw)) (ty := (.object z7)) (by decide))
 refine o_dup K X362 at_80 rfl rfl ?_
 refine o_iload K X362 at_81 rfl rfl ?_
 refine o_bipush K X362 at_83 rfl (z := 97) rfl ?_
 refine o_iload K X362 at_85 rfl rfl ?_
 refine o_lloadN K X362 at_87 rfl rfl ?_
 refine o_iconst K X362 at_88 rfl (z := 0) rfl ?_
 refine o_static K X362  (w4 hw) (w5 hw) (w6 hw) (w7 hw) (by decide) (rm_fields97_3 l Z a0 hw i3 cs dce kd h362 q0 q1 q2 q3) (by decide) rfl (argsL := [.int 97, .int 3, (.long i3), .int 0]) rfl (lenOf pd33 rfl) (W := 3) rfl (by decide) (by decide) (by decide) at_89 rfl ?_
 intro v363 T363 h363 X363 U363
 obtain ⟨l_363, r_363, kr_363, m_363, s0_363, vz0_363, kz0_363, s1_363, vz1_363, kz1_363, s2_363, vz2_363, kz2_363, rfl, u363_0, u363_1, u363_2, u363_3, u363_4, u363_5, u363_6, u363_7, u363_8, u363_9, u363_10, u363_11, u363_12, u363_13, u363_14, u363_15, u363_16, u363_17, u363_18, u363_19, u363_20, u363_21, u363_22, u363_23, u363_24⟩ := U363
 have G363_l : Z.heap.size ≤ l_363 := Nat.le_trans X362.ext0.1 u363_1
 have G363_r : Z.heap.size ≤ r_363 := Nat.le_trans X362.ext0.1 u363_6
 have G363_s0 : Z.heap.size ≤ s0_363 := Nat.le_trans X362.ext0.1 u363_10
 have G363_s1 : Z.heap.size ≤ s1_363 := Nat.le_trans X362.ext0.1 u363_11
 have G363_s2 : Z.heap.size ≤ s2_363 := Nat.le_trans X362.ext0.1 u363_12
 show oGoes pp ee bb ss Z T363 (mkF mm 92 _ [.ref l_363, .int i4, .ref b362, .ref b362]) _ _ _
 have m364 := (A362.keep u363_0)
 have m365 := (F362_line.keep u363_0 nin0)
 have m366 := (F362_fields.keep u363_0 nin0)
 refine o_special K X363 (y := (⟨z2, "<init>", z15⟩ : MethodName)) rfl (w97 hw) (w98 hw) (w3 hw) (w99 hw) (by decide) (rm_crow3 l Z a0 hw b362 i4 l_363 r_363 kr_363 s0_363 s1_363 s2_363 mr h363 m364 m365 m366 G362 u363_2 u363_3 u363_4 u363_7 u363_8 u363_13 u363_17 u363_21 q4) (by decide) rfl (argsL := [.int i4, .ref l_363]) rfl (lenOf pd34 rfl) (W := 1) rfl (by decide) (by decide) (by decide) at_92 rfl ?_
 intro v367 T367 h367 X367 U367
 obtain ⟨q_367, y_367, ky_367, rfl, u367_0, u367_1, u367_2, u367_3, u367_4, u367_5, u367_6⟩ := U367
 show oGoes pp ee bb ss Z T367 (mkF mm 95 _ [.ref b362]) _ _ _
 refine o_astore K X367 at_95 rfl rfl (L' := #[vI i0, vI i1, vI i2, vJ i3, sS, vI i4, vI i5, vI 3, vI m, vI 0, vI 1, vI 3, vI ((i1 &&& (2147483647 : Int32)) % (3 : Int32)), vR b362, uS, uS, uS, uS, uS]) rfl ?_
 refine o_iload K X367 at_97 rfl rfl ?_
 refine o_if_eq_f K X367 at_99 rfl (by decide) ?_
 refine o_aconst_null K X367 at_102 rfl ?_
 refine o_goto K X367 at_103 (by decide) (pc' := 124) (by decide) ?_
 refine o_astore K X367 at_124 rfl rfl (L' := #[vI i0, vI i1, vI i2, vJ i3, sS, vI i4, vI i5, vI 3, vI m, vI 0, vI 1, vI 3, vI ((i1 &&& (2147483647 : Int32)) % (3 : Int32)), vR b362, vN, uS, uS, uS, uS]) rfl ?_
 have m369 := (u363_13.keep u367_0)
 have n370 := oLsz A362.lt u363_10
 have m371 := (u363_14.keep u367_0 (ninS n370 nin0))
 have m372 := (u363_15.keep u367_0 (ninS n370 nin0))
 have n373 : vz0_363 ≠ b362 := (oNeArr (A362.keep u363_0) (w2 hw) u363_16)
 have m374 := (u363_16.keep u367_0 (ninS n373 nin0))
 have m375 := (u363_17.keep u367_0)
 have n376 := oLsz A362.lt u363_11
 have m377 := (u363_18.keep u367_0 (ninS n376 nin0))
 have m378 := (u363_19.keep u367_0 (ninS n376 nin0))
 have n379 : vz1_363 ≠ b362 := (oNeArr (A362.keep u363_0) (w2 hw) u363_20)
 have m380 := (u363_20.keep u367_0 (ninS n379 nin0))
 have m381 := (u363_21.keep u367_0)
 have n382 := oLsz A362.lt u363_12
 have m383 := (u363_22.keep u367_0 (ninS n382 nin0))
 have m384 := (u363_23.keep u367_0 (ninS n382 nin0))
 have n385 : vz2_363 ≠ b362 := (oNeArr (A362.keep u363_0) (w2 hw) u363_24)
 have m386 := (u363_24.keep u367_0 (ninS n385 nin0))
 refine tl_lw0_3 l Z a0 hw i0 i1 i2 i3 i4 i5 3 m 1 3 ((i1 &&& (2147483647 : Int32)) % (3 : Int32)) .null b362 q_367 y_367 ky_367 s0_363 vz0_363 kz0_363 s1_363 vz1_363 kz1_363 s2_363 vz2_363 kz2_363 cs h367 (oR3 i1) u367_1 u367_3 u367_4 u367_5 u367_6 m369 m371 m372 m374 m375 m377 m378 m380 m381 m383 m384 m386 G363_s0 G363_s1 G363_s2 q0 q1 rfl (fun v368 h368 U368 => ?_) K (X367.mono (by decide) (by decide))
 obtain rfl : v368 = some (.int 1) := U368
 exact rfl
 refine o_if_eq_f K X0 at_26 rfl c26_1 ?_
 refine o_iconst K X0 at_29 rfl (z := 1) rfl ?_
 refine o_goto K X0 at_30 (by decide) (pc' := 34) (by decide) ?_
 refine o_istore K X0 at_34 rfl (L' := #[vI i0, vI i1, vI i2, vJ i3, sS, vI i4, vI i5, vI ((1 : Int32) + ((i0 &&& (2147483647 : Int32)) % (3 : Int32))), vI ((1 : Int32) + ((((i0.toUInt32 >>> ((8 : Int32) &&& 31).toUInt32).toInt32) &&& (2147483647 : Int32)) % (3 : Int32))), vI 1, uS, uS, uS, uS, uS, uS, uS, uS, uS]) rfl ?_
 refine o_iload K X0 at_36 rfl rfl ?_
 refine o_if_ne_t K X0 at_38 (by decide) (pc' := 51) (by decide) (by decide) ?_
 refine o_iconst K X0 at_51 rfl (z := 0) rfl ?_
 refine o_istore K X0 at_52 rfl (L' := #[vI i0, vI i1, vI i2, vJ i3, sS, vI i4, vI i5, vI ((1 : Int32) + ((i0 &&& (2147483647 : Int32)) % (3 : Int32))), vI ((1 : Int32) + ((((i0.toUInt32 >>> ((8 : Int32) &&& 31).toUInt32).toInt32) &&& (2147483647 : Int32)) % (3 : Int32))), vI 1, vI 0, uS, uS, uS, uS, uS, uS, uS, uS]) rfl ?_
 refine o_iload K X0 at_54 rfl rfl ?_
 refine o_if_eq_f K X0 at_56 rfl (by decide) ?_
 refine o_iload K X0 at_59 rfl rfl ?_
 refine o_goto K X0 at_61 (by decide) (pc' := 66) (by decide) ?_
 refine o_istore K X0 at_66 rfl (L' := #[vI i0, vI i1, vI i2, vJ i3, sS, vI i4, vI i5, vI ((1 : Int32) + ((i0 &&& (2147483647 : Int32)) % (3 : Int32))), vI ((1 : Int32) + ((((i0.toUInt32 >>> ((8 : Int32) &&& 31).toUInt32).toInt32) &&& (2147483647 : Int32)) % (3 : Int32))), vI 1, vI 0, vI ((1 : Int32) + ((((i0.toUInt32 >>> ((8 : Int32) &&& 31).toUInt32).toInt32) &&& (2147483647 : Int32)) % (3 : Int32))), uS, uS, uS, uS, uS, uS, uS]) rfl ?_
 obtain ⟨n, e_n⟩ : ∃ x : Int32, x = ((1 : Int32) + ((i0 &&& (2147483647 : Int32)) % (3 : Int32))) := ⟨_, rfl⟩
 rw [← e_n]
 obtain ⟨m, e_m⟩ : ∃ x : Int32, x = ((1 : Int32) + ((((i0.toUInt32 >>> ((8 : Int32) &&& 31).toUInt32).toInt32) &&& (2147483647 : Int32)) % (3 : Int32))) := ⟨_, rfl⟩
 rw [← e_m]
 rcases oR3 i0 with z | z | z
 obtain rfl : n = (1 : Int32) := e_n.trans (by rw [z]; decide)
 rcases oR3 ((i0.toUInt32 >>> ((8 : Int32) &&& 31).toUInt32).toInt32) with z | z | z
 obtain rfl : m = (1 : Int32) := e_m.trans (by rw [z]; decide)
 refine o_iloadN K X0 at_68 rfl rfl ?_
 refine o_ldc K X0 (w0 hw) at_69 rfl ?_
 refine o_iand K X0 at_71 rfl (z := (i1 &&& (2147483647 : Int32))) rfl ?_
 refine o_iload K X0 at_72 rfl rfl ?_
 refine o_irem K X0 at_74 rfl (by decide) (z := ((i1 &&& (2147483647 : Int32)) % (1 : Int32))) rfl ?_
 refine o_istore K X0 at_75 rfl (L' := #[vI i0, vI i1, vI i2, vJ i3, sS, vI i4, vI i5, vI 1, vI 1, vI 1, vI 0, vI 1, vI ((i1 &&& (2147483647 : Int32)) % (1 : Int32)), uS, uS, uS, uS, uS, uS]) rfl ?_
 refine o_new K X0 (w1 hw) (w2 hw) (w3 hw) at_77 rfl (by decide) (by decide) ?_
 intro T387 h387 b387 X387 g387 E387 A387 D387 G387
 have F387_line : Fld Z h387 b387 z2 "line" "I" (.int 0) := (D387 (Or.inr (w193 hw)) (ty := .int) (by decide))
 have F387_fields : Fld Z h387 b387 z2 "fields" z11 .null := (D387 (Or.inr (w195 hw)) (ty := (.object z7)) (by decide))
 refine o_dup K X387 at_80 rfl rfl ?_
 refine o_iload K X387 at_81 rfl rfl ?_
 refine o_bipush K X387 at_83 rfl (z := 97) rfl ?_
 refine o_iload K X387 at_85 rfl rfl ?_
 refine o_lloadN K X387 at_87 rfl rfl ?_
 refine o_iconst K X387 at_88 rfl (z := 0) rfl ?_
 refine o_static K X387  (w4 hw) (w5 hw) (w6 hw) (w7 hw) (by decide) (rm_fields97_1 l Z a0 hw i3 cs dce kd h387 q0 q1 q2 q3) (by decide) rfl (argsL := [.int 97, .int 1, (.long i3), .int 0]) rfl (lenOf pd33 rfl) (W := 3) rfl (by decide) (by decide) (by decide) at_89 rfl ?_
 intro v388 T388 h388 X388 U388
 obtain ⟨l_388, r_388, kr_388, m_388, s0_388, vz0_388, kz0_388, rfl, u388_0, u388_1, u388_2, u388_3, u388_4, u388_5, u388_6, u388_7, u388_8, u388_9, u388_10, u388_11, u388_12, u388_13, u388_14⟩ := U388
 have G388_l : Z.heap.size ≤ l_388 := Nat.le_trans X387.ext0.1 u388_1
 have G388_r : Z.heap.size ≤ r_388 := Nat.le_trans X387.ext0.1 u388_6
 have G388_s0 : Z.heap.size ≤ s0_388 := Nat.le_trans X387.ext0.1 u388_10
 show oGoes pp ee bb ss Z T388 (mkF mm 92 _ [.ref l_388, .int i4, .ref b387, .ref b387]) _ _ _
 have m389 := (A387.keep u388_0)
 have m390 := (F387_line.keep u388_0 nin0)
 have m391 := (F387_fields.keep u388_0 nin0)
 refine o_special K X388 (y := (⟨z2, "<init>", z15⟩ : MethodName)) rfl (w97 hw) (w98 hw) (w3 hw) (w99 hw) (by decide) (rm_crow1 l Z a0 hw b387 i4 l_388 r_388 kr_388 s0_388 mr em h388 m389 m390 m391 G387 u388_2 u388_3 u388_4 u388_7 u388_8 u388_11 q4 q5) (by decide) rfl (argsL := [.int i4, .ref l_388]) rfl (lenOf pd34 rfl) (W := 1) rfl (by decide) (by decide) (by decide) at_92 rfl ?_
 intro v392 T392 h392 X392 U392
 obtain ⟨q_392, rfl, u392_0, u392_1, u392_2, u392_3, u392_4, u392_5, u392_6⟩ := U392
 show oGoes pp ee bb ss Z T392 (mkF mm 95 _ [.ref b387]) _ _ _
 refine o_astore K X392 at_95 rfl rfl (L' := #[vI i0, vI i1, vI i2, vJ i3, sS, vI i4, vI i5, vI 1, vI 1, vI 1, vI 0, vI 1, vI ((i1 &&& (2147483647 : Int32)) % (1 : Int32)), vR b387, uS, uS, uS, uS, uS]) rfl ?_
 refine o_iload K X392 at_97 rfl rfl ?_
 refine o_if_eq_t K X392 at_99 (by decide) (pc' := 106) (by decide) (by decide) ?_
 refine o_new K X392 (w1 hw) (w2 hw) (w3 hw) at_106 rfl (by decide) (by decide) ?_
 intro T393 h393 b393 X393 g393 E393 A393 D393 G393
 have F393_line : Fld Z h393 b393 z2 "line" "I" (.int 0) := (D393 (Or.inr (w193 hw)) (ty := .int) (by decide))
 have F393_fields : Fld Z h393 b393 z2 "fields" z11 .null := (D393 (Or.inr (w195 hw)) (ty := (.object z7)) (by decide))
 refine o_dup K X393 at_109 rfl rfl ?_
 refine o_iload K X393 at_110 rfl rfl ?_
 refine o_bipush K X393 at_112 rfl (z := 100) rfl ?_
 refine o_iload K X393 at_114 rfl rfl ?_
 refine o_lloadN K X393 at_116 rfl rfl ?_
 refine o_iconst K X393 at_117 rfl (z := 3) rfl ?_
 refine o_static K X393  (w4 hw) (w5 hw) (w6 hw) (w7 hw) (by decide) (rm_fields100_1 l Z a0 hw i3 cs dce kd h393 q0 q1 q2 q3) (by decide) rfl (argsL := [.int 100, .int 1, (.long i3), .int 3]) rfl (lenOf pd33 rfl) (W := 3) rfl (by decide) (by decide) (by decide) at_118 rfl ?_
 intro v394 T394 h394 X394 U394
 obtain ⟨l_394, r_394, kr_394, m_394, s0_394, vz0_394, kz0_394, rfl, u394_0, u394_1, u394_2, u394_3, u394_4, u394_5, u394_6, u394_7, u394_8, u394_9, u394_10, u394_11, u394_12, u394_13, u394_14⟩ := U394
 have G394_l : Z.heap.size ≤ l_394 := Nat.le_trans X393.ext0.1 u394_1
 have G394_r : Z.heap.size ≤ r_394 := Nat.le_trans X393.ext0.1 u394_6
 have G394_s0 : Z.heap.size ≤ s0_394 := Nat.le_trans X393.ext0.1 u394_10
 show oGoes pp ee bb ss Z T394 (mkF mm 121 _ [.ref l_394, .int i5, .ref b393, .ref b393]) _ _ _
 have m395 := (A393.keep u394_0)
 have m396 := (F393_line.keep u394_0 nin0)
 have m397 := (F393_fields.keep u394_0 nin0)
 refine o_special K X394 (y := (⟨z2, "<init>", z15⟩ : MethodName)) rfl (w97 hw) (w98 hw) (w3 hw) (w99 hw) (by decide) (rm_crow1 l Z a0 hw b393 i5 l_394 r_394 kr_394 s0_394 mr em h394 m395 m396 m397 G393 u394_2 u394_3 u394_4 u394_7 u394_8 u394_11 q4 q5) (by decide) rfl (argsL := [.int i5, .ref l_394]) rfl (lenOf pd34 rfl) (W := 1) rfl (by decide) (by decide) (by decide) at_121 rfl ?_
 intro v398 T398 h398 X398 U398
 obtain ⟨q_398, rfl, u398_0, u398_1, u398_2, u398_3, u398_4, u398_5, u398_6⟩ := U398
 show oGoes pp ee bb ss Z T398 (mkF mm 124 _ [.ref b393]) _ _ _
 refine o_astore K X398 at_124 rfl rfl (L' := #[vI i0, vI i1, vI i2, vJ i3, sS, vI i4, vI i5, vI 1, vI 1, vI 1, vI 0, vI 1, vI ((i1 &&& (2147483647 : Int32)) % (1 : Int32)), vR b387, vR b393, uS, uS, uS, uS]) rfl ?_
 have m400 := (u394_11.keep u398_0)
 have n401 := oLsz A393.lt u394_10
 have m402 := (u394_12.keep u398_0 (ninS n401 nin0))
 have m403 := (u394_13.keep u398_0 (ninS n401 nin0))
 have n404 : vz0_394 ≠ b393 := (oNeArr (A393.keep u394_0) (w2 hw) u394_14)
 have m405 := (u394_14.keep u398_0 (ninS n404 nin0))
 refine tl_lw1_1 l Z a0 hw i0 i1 i2 i3 i4 i5 1 1 1 ((i1 &&& (2147483647 : Int32)) % (1 : Int32)) b387 b393 q_398 s0_394 vz0_394 kz0_394 cs em h398 (oR1 i1) u398_1 u398_3 u398_4 u398_5 u398_6 m400 m402 m403 m405 G394_s0 q0 q1 q5 q6 (fun v399 h399 U399 => ?_) K (X398.mono (by decide) (by decide))
 obtain rfl : v399 = some (.int 1) := U399
 exact rfl
 obtain rfl : m = (2 : Int32) := e_m.trans (by rw [z]; decide)
 refine o_iloadN K X0 at_68 rfl rfl ?_
 refine o_ldc K X0 (w0 hw) at_69 rfl ?_
 refine o_iand K X0 at_71 rfl (z := (i1 &&& (2147483647 : Int32))) rfl ?_
 refine o_iload K X0 at_72 rfl rfl ?_
 refine o_irem K X0 at_74 rfl (by decide) (z := ((i1 &&& (2147483647 : Int32)) % (2 : Int32))) rfl ?_
 refine o_istore K X0 at_75 rfl (L' := #[vI i0, vI i1, vI i2, vJ i3, sS, vI i4, vI i5, vI 1, vI 2, vI 1, vI 0, vI 2, vI ((i1 &&& (2147483647 : Int32)) % (2 : Int32)), uS, uS, uS, uS, uS, uS]) rfl ?_
 refine o_new K X0 (w1 hw) (w2 hw) (w3 hw) at_77 rfl (by decide) (by decide) ?_
 intro T406 h406 b406 X406 g406 E406 A406 D406 G406
 have F406_line : Fld Z h406 b406 z2 "line" "I" (.int 0) := (D406 (Or.inr (w193 hw)) (ty := .int) (by decide))
 have F406_fields : Fld Z h406 b406 z2 "fields" z11 .null := (D406 (Or.inr (w195 hw)) (ty := (.object z7)) (by decide))
 refine o_dup K X406 at_80 rfl rfl ?_
 refine o_iload K X406 at_81 rfl rfl ?_
 refine o_bipush K X406 at_83 rfl (z := 97) rfl ?_
 refine o_iload K X406 at_85 rfl rfl ?_
 refine o_lloadN K X406 at_87 rfl rfl ?_
 refine o_iconst K X406 at_88 rfl (z := 0) rfl ?_
 refine o_static K X406  (w4 hw) (w5 hw) (w6 hw) (w7 hw) (by decide) (rm_fields97_1 l Z a0 hw i3 cs dce kd h406 q0 q1 q2 q3) (by decide) rfl (argsL := [.int 97, .int 1, (.long i3), .int 0]) rfl (lenOf pd33 rfl) (W := 3) rfl (by decide) (by decide) (by decide) at_89 rfl ?_
 intro v407 T407 h407 X407 U407
 obtain ⟨l_407, r_407, kr_407, m_407, s0_407, vz0_407, kz0_407, rfl, u407_0, u407_1, u407_2, u407_3, u407_4, u407_5, u407_6, u407_7, u407_8, u407_9, u407_10, u407_11, u407_12, u407_13, u407_14⟩ := U407
 have G407_l : Z.heap.size ≤ l_407 := Nat.le_trans X406.ext0.1 u407_1
 have G407_r : Z.heap.size ≤ r_407 := Nat.le_trans X406.ext0.1 u407_6
 have G407_s0 : Z.heap.size ≤ s0_407 := Nat.le_trans X406.ext0.1 u407_10
 show oGoes pp ee bb ss Z T407 (mkF mm 92 _ [.ref l_407, .int i4, .ref b406, .ref b406]) _ _ _
 have m408 := (A406.keep u407_0)
 have m409 := (F406_line.keep u407_0 nin0)
 have m410 := (F406_fields.keep u407_0 nin0)
 refine o_special K X407 (y := (⟨z2, "<init>", z15⟩ : MethodName)) rfl (w97 hw) (w98 hw) (w3 hw) (w99 hw) (by decide) (rm_crow1 l Z a0 hw b406 i4 l_407 r_407 kr_407 s0_407 mr em h407 m408 m409 m410 G406 u407_2 u407_3 u407_4 u407_7 u407_8 u407_11 q4 q5) (by decide) rfl (argsL := [.int i4, .ref l_407]) rfl (lenOf pd34 rfl) (W := 1) rfl (by decide) (by decide) (by decide) at_92 rfl ?_
 intro v411 T411 h411 X411 U411
 obtain ⟨q_411, rfl, u411_0, u411_1, u411_2, u411_3, u411_4, u411_5, u411_6⟩ := U411
 show oGoes pp ee bb ss Z T411 (mkF mm 95 _ [.ref b406]) _ _ _
 refine o_astore K X411 at_95 rfl rfl (L' := #[vI i0, vI i1, vI i2, vJ i3, sS, vI i4, vI i5, vI 1, vI 2, vI 1, vI 0, vI 2, vI ((i1 &&& (2147483647 : Int32)) % (2 : Int32)), vR b406, uS, uS, uS, uS, uS]) rfl ?_
 refine o_iload K X411 at_97 rfl rfl ?_
 refine o_if_eq_t K X411 at_99 (by decide) (pc' := 106) (by decide) (by decide) ?_
 refine o_new K X411 (w1 hw) (w2 hw) (w3 hw) at_106 rfl (by decide) (by decide) ?_
 intro T412 h412 b412 X412 g412 E412 A412 D412 G412
 have F412_line : Fld Z h412 b412 z2 "line" "I" (.int 0) := (D412 (Or.inr (w193 hw)) (ty := .int) (by decide))
 have F412_fields : Fld Z h412 b412 z2 "fields" z11 .null := (D412 (Or.inr (w195 hw)) (ty := (.object z7)) (by decide))
 refine o_dup K X412 at_109 rfl rfl ?_
 refine o_iload K X412 at_110 rfl rfl ?_
 refine o_bipush K X412 at_112 rfl (z := 100) rfl ?_
 refine o_iload K X412 at_114 rfl rfl ?_
 refine o_lloadN K X412 at_116 rfl rfl ?_
 refine o_iconst K X412 at_117 rfl (z := 3) rfl ?_
 refine o_static K X412  (w4 hw) (w5 hw) (w6 hw) (w7 hw) (by decide) (rm_fields100_2 l Z a0 hw i3 cs dce kd h412 q0 q1 q2 q3) (by decide) rfl (argsL := [.int 100, .int 2, (.long i3), .int 3]) rfl (lenOf pd33 rfl) (W := 3) rfl (by decide) (by decide) (by decide) at_118 rfl ?_
 intro v413 T413 h413 X413 U413
 obtain ⟨l_413, r_413, kr_413, m_413, s0_413, vz0_413, kz0_413, s1_413, vz1_413, kz1_413, rfl, u413_0, u413_1, u413_2, u413_3, u413_4, u413_5, u413_6, u413_7, u413_8, u413_9, u413_10, u413_11, u413_12, u413_13, u413_14, u413_15, u413_16, u413_17, u413_18, u413_19⟩ := U413
 have G413_l : Z.heap.size ≤ l_413 := Nat.le_trans X412.ext0.1 u413_1
 have G413_r : Z.heap.size ≤ r_413 := Nat.le_trans X412.ext0.1 u413_6
 have G413_s0 : Z.heap.size ≤ s0_413 := Nat.le_trans X412.ext0.1 u413_10
 have G413_s1 : Z.heap.size ≤ s1_413 := Nat.le_trans X412.ext0.1 u413_11
 show oGoes pp ee bb ss Z T413 (mkF mm 121 _ [.ref l_413, .int i5, .ref b412, .ref b412]) _ _ _
 have m414 := (A412.keep u413_0)
 have m415 := (F412_line.keep u413_0 nin0)
 have m416 := (F412_fields.keep u413_0 nin0)
 refine o_special K X413 (y := (⟨z2, "<init>", z15⟩ : MethodName)) rfl (w97 hw) (w98 hw) (w3 hw) (w99 hw) (by decide) (rm_crow2 l Z a0 hw b412 i5 l_413 r_413 kr_413 s0_413 s1_413 mr h413 m414 m415 m416 G412 u413_2 u413_3 u413_4 u413_7 u413_8 u413_12 u413_16 q4) (by decide) rfl (argsL := [.int i5, .ref l_413]) rfl (lenOf pd34 rfl) (W := 1) rfl (by decide) (by decide) (by decide) at_121 rfl ?_
 intro v417 T417 h417 X417 U417
 obtain ⟨q_417, rfl, u417_0, u417_1, u417_2, u417_3, u417_4, u417_5, u417_6⟩ := U417
 show oGoes pp ee bb ss Z T417 (mkF mm 124 _ [.ref b412]) _ _ _
 refine o_astore K X417 at_124 rfl rfl (L' := #[vI i0, vI i1, vI i2, vJ i3, sS, vI i4, vI i5, vI 1, vI 2, vI 1, vI 0, vI 2, vI ((i1 &&& (2147483647 : Int32)) % (2 : Int32)), vR b406, vR b412, uS, uS, uS, uS]) rfl ?_
 have m419 := (u413_12.keep u417_0)
 have n420 := oLsz A412.lt u413_10
 have m421 := (u413_13.keep u417_0 (ninS n420 nin0))
 have m422 := (u413_14.keep u417_0 (ninS n420 nin0))
 have n423 : vz0_413 ≠ b412 := (oNeArr (A412.keep u413_0) (w2 hw) u413_15)
 have m424 := (u413_15.keep u417_0 (ninS n423 nin0))
 have m425 := (u413_16.keep u417_0)
 have n426 := oLsz A412.lt u413_11
 have m427 := (u413_17.keep u417_0 (ninS n426 nin0))
 have m428 := (u413_18.keep u417_0 (ninS n426 nin0))
 have n429 : vz1_413 ≠ b412 := (oNeArr (A412.keep u413_0) (w2 hw) u413_19)
 have m430 := (u413_19.keep u417_0 (ninS n429 nin0))
 refine tl_lw1_2 l Z a0 hw i0 i1 i2 i3 i4 i5 1 2 2 ((i1 &&& (2147483647 : Int32)) % (2 : Int32)) b406 b412 q_417 s0_413 vz0_413 kz0_413 s1_413 vz1_413 kz1_413 cs em h417 (oR2 i1) u417_1 u417_3 u417_4 u417_5 u417_6 m419 m421 m422 m424 m425 m427 m428 m430 G413_s0 G413_s1 q0 q1 q5 q6 (fun v418 h418 U418 => ?_) K (X417.mono (by decide) (by decide))
 obtain rfl : v418 = some (.int 1) := U418
 exact rfl
 obtain rfl : m = (3 : Int32) := e_m.trans (by rw [z]; decide)
 refine o_iloadN K X0 at_68 rfl rfl ?_
 refine o_ldc K X0 (w0 hw) at_69 rfl ?_
 refine o_iand K X0 at_71 rfl (z := (i1 &&& (2147483647 : Int32))) rfl ?_
 refine o_iload K X0 at_72 rfl rfl ?_
 refine o_irem K X0 at_74 rfl (by decide) (z := ((i1 &&& (2147483647 : Int32)) % (3 : Int32))) rfl ?_
 refine o_istore K X0 at_75 rfl (L' := #[vI i0, vI i1, vI i2, vJ i3, sS, vI i4, vI i5, vI 1, vI 3, vI 1, vI 0, vI 3, vI ((i1 &&& (2147483647 : Int32)) % (3 : Int32)), uS, uS, uS, uS, uS, uS]) rfl ?_
 refine o_new K X0 (w1 hw) (w2 hw) (w3 hw) at_77 rfl (by decide) (by decide) ?_
 intro T431 h431 b431 X431 g431 E431 A431 D431 G431
 have F431_line : Fld Z h431 b431 z2 "line" "I" (.int 0) := (D431 (Or.inr (w193 hw)) (ty := .int) (by decide))
 have F431_fields : Fld Z h431 b431 z2 "fields" z11 .null := (D431 (Or.inr (w195 hw)) (ty := (.object z7)) (by decide))
 refine o_dup K X431 at_80 rfl rfl ?_
 refine o_iload K X431 at_81 rfl rfl ?_
 refine o_bipush K X431 at_83 rfl (z := 97) rfl ?_
 refine o_iload K X431 at_85 rfl rfl ?_
 refine o_lloadN K X431 at_87 rfl rfl ?_
 refine o_iconst K X431 at_88 rfl (z := 0) rfl ?_
 refine o_static K X431  (w4 hw) (w5 hw) (w6 hw) (w7 hw) (by decide) (rm_fields97_1 l Z a0 hw i3 cs dce kd h431 q0 q1 q2 q3) (by decide) rfl (argsL := [.int 97, .int 1, (.long i3), .int 0]) rfl (lenOf pd33 rfl) (W := 3) rfl (by decide) (by decide) (by decide) at_89 rfl ?_
 intro v432 T432 h432 X432 U432
 obtain ⟨l_432, r_432, kr_432, m_432, s0_432, vz0_432, kz0_432, rfl, u432_0, u432_1, u432_2, u432_3, u432_4, u432_5, u432_6, u432_7, u432_8, u432_9, u432_10, u432_11, u432_12, u432_13, u432_14⟩ := U432
 have G432_l : Z.heap.size ≤ l_432 := Nat.le_trans X431.ext0.1 u432_1
 have G432_r : Z.heap.size ≤ r_432 := Nat.le_trans X431.ext0.1 u432_6
 have G432_s0 : Z.heap.size ≤ s0_432 := Nat.le_trans X431.ext0.1 u432_10
 show oGoes pp ee bb ss Z T432 (mkF mm 92 _ [.ref l_432, .int i4, .ref b431, .ref b431]) _ _ _
 have m433 := (A431.keep u432_0)
 have m434 := (F431_line.keep u432_0 nin0)
 have m435 := (F431_fields.keep u432_0 nin0)
 refine o_special K X432 (y := (⟨z2, "<init>", z15⟩ : MethodName)) rfl (w97 hw) (w98 hw) (w3 hw) (w99 hw) (by decide) (rm_crow1 l Z a0 hw b431 i4 l_432 r_432 kr_432 s0_432 mr em h432 m433 m434 m435 G431 u432_2 u432_3 u432_4 u432_7 u432_8 u432_11 q4 q5) (by decide) rfl (argsL := [.int i4, .ref l_432]) rfl (lenOf pd34 rfl) (W := 1) rfl (by decide) (by decide) (by decide) at_92 rfl ?_
 intro v436 T436 h436 X436 U436
 obtain ⟨q_436, rfl, u436_0, u436_1, u436_2, u436_3, u436_4, u436_5, u436_6⟩ := U436
 show oGoes pp ee bb ss Z T436 (mkF mm 95 _ [.ref b431]) _ _ _
 refine o_astore K X436 at_95 rfl rfl (L' := #[vI i0, vI i1, vI i2, vJ i3, sS, vI i4, vI i5, vI 1, vI 3, vI 1, vI 0, vI 3, vI ((i1 &&& (2147483647 : Int32)) % (3 : Int32)), vR b431, uS, uS, uS, uS, uS]) rfl ?_
 refine o_iload K X436 at_97 rfl rfl ?_
 refine o_if_eq_t K X436 at_99 (by decide) (pc' := 106) (by decide) (by decide) ?_
 refine o_new K X436 (w1 hw) (w2 hw) (w3 hw) at_106 rfl (by decide) (by decide) ?_
 intro T437 h437 b437 X437 g437 E437 A437 D437 G437
 have F437_line : Fld Z h437 b437 z2 "line" "I" (.int 0) := (D437 (Or.inr (w193 hw)) (ty := .int) (by decide))
 have F437_fields : Fld Z h437 b437 z2 "fields" z11 .null := (D437 (Or.inr (w195 hw)) (ty := (.object z7)) (by decide))
 refine o_dup K X437 at_109 rfl rfl ?_
 refine o_iload K X437 at_110 rfl rfl ?_
 refine o_bipush K X437 at_112 rfl (z := 100) rfl ?_
 refine o_iload K X437 at_114 rfl rfl ?_
 refine o_lloadN K X437 at_116 rfl rfl ?_
 refine o_iconst K X437 at_117 rfl (z := 3) rfl ?_
 refine o_static K X437  (w4 hw) (w5 hw) (w6 hw) (w7 hw) (by decide) (rm_fields100_3 l Z a0 hw i3 cs dce kd h437 q0 q1 q2 q3) (by decide) rfl (argsL := [.int 100, .int 3, (.long i3), .int 3]) rfl (lenOf pd33 rfl) (W := 3) rfl (by decide) (by decide) (by decide) at_118 rfl ?_
 intro v438 T438 h438 X438 U438
 obtain ⟨l_438, r_438, kr_438, m_438, s0_438, vz0_438, kz0_438, s1_438, vz1_438, kz1_438, s2_438, vz2_438, kz2_438, rfl, u438_0, u438_1, u438_2, u438_3, u438_4, u438_5, u438_6, u438_7, u438_8, u438_9, u438_10, u438_11, u438_12, u438_13, u438_14, u438_15, u438_16, u438_17, u438_18, u438_19, u438_20, u438_21, u438_22, u438_23, u438_24⟩ := U438
 have G438_l : Z.heap.size ≤ l_438 := Nat.le_trans X437.ext0.1 u438_1
 have G438_r : Z.heap.size ≤ r_438 := Nat.le_trans X437.ext0.1 u438_6
 have G438_s0 : Z.heap.size ≤ s0_438 := Nat.le_trans X437.ext0.1 u438_10
 have G438_s1 : Z.heap.size ≤ s1_438 := Nat.le_trans X437.ext0.1 u438_11
 have G438_s2 : Z.heap.size ≤ s2_438 := Nat.le_trans X437.ext0.1 u438_12
 show oGoes pp ee bb ss Z T438 (mkF mm 121 _ [.ref l_438, .int i5, .ref b437, .ref b437]) _ _ _
 have m439 := (A437.keep u438_0)
 have m440 := (F437_line.keep u438_0 nin0)
 have m441 := (F437_fields.keep u438_0 nin0)
 refine o_special K X438 (y := (⟨z2, "<init>", z15⟩ : MethodName)) rfl (w97 hw) (w98 hw) (w3 hw) (w99 hw) (by decide) (rm_crow3 l Z a0 hw b437 i5 l_438 r_438 kr_438 s0_438 s1_438 s2_438 mr h438 m439 m440 m441 G437 u438_2 u438_3 u438_4 u438_7 u438_8 u438_13 u438_17 u438_21 q4) (by decide) rfl (argsL := [.int i5, .ref l_438]) rfl (lenOf pd34 rfl) (W := 1) rfl (by decide) (by decide) (by decide) at_121 rfl ?_
 intro v442 T442 h442 X442 U442
 obtain ⟨q_442, y_442, ky_442, rfl, u442_0, u442_1, u442_2, u442_3, u442_4, u442_5, u442_6⟩ := U442
 show oGoes pp ee bb ss Z T442 (mkF mm 124 _ [.ref b437]) _ _ _
 refine o_astore K X442 at_124 rfl rfl (L' := #[vI i0, vI i1, vI i2, vJ i3, sS, vI i4, vI i5, vI 1, vI 3, vI 1, vI 0, vI 3, vI ((i1 &&& (2147483647 : Int32)) % (3 : Int32)), vR b431, vR b437, uS, uS, uS, uS]) rfl ?_
 have m444 := (u438_13.keep u442_0)
 have n445 := oLsz A437.lt u438_10
 have m446 := (u438_14.keep u442_0 (ninS n445 nin0))
 have m447 := (u438_15.keep u442_0 (ninS n445 nin0))
 have n448 : vz0_438 ≠ b437 := (oNeArr (A437.keep u438_0) (w2 hw) u438_16)
 have m449 := (u438_16.keep u442_0 (ninS n448 nin0))
 have m450 := (u438_17.keep u442_0)
 have n451 := oLsz A437.lt u438_11
 have m452 := (u438_18.keep u442_0 (ninS n451 nin0))
 have m453 := (u438_19.keep u442_0 (ninS n451 nin0))
 have n454 : vz1_438 ≠ b437 := (oNeArr (A437.keep u438_0) (w2 hw) u438_20)
 have m455 := (u438_20.keep u442_0 (ninS n454 nin0))
 have m456 := (u438_21.keep u442_0)
 have n457 := oLsz A437.lt u438_12
 have m458 := (u438_22.keep u442_0 (ninS n457 nin0))
 have m459 := (u438_23.keep u442_0 (ninS n457 nin0))
 have n460 : vz2_438 ≠ b437 := (oNeArr (A437.keep u438_0) (w2 hw) u438_24)
 have m461 := (u438_24.keep u442_0 (ninS n460 nin0))
 refine tl_lw1_3 l Z a0 hw i0 i1 i2 i3 i4 i5 1 3 3 ((i1 &&& (2147483647 : Int32)) % (3 : Int32)) b431 b437 q_442 y_442 ky_442 s0_438 vz0_438 kz0_438 s1_438 vz1_438 kz1_438 s2_438 vz2_438 kz2_438 cs h442 (oR3 i1) u442_1 u442_3 u442_4 u442_5 u442_6 m444 m446 m447 m449 m450 m452 m453 m455 m456 m458 m459 m461 G438_s0 G438_s1 G438_s2 q0 q1 (fun v443 h443 U443 => ?_) K (X442.mono (by decide) (by decide))
 obtain rfl : v443 = some (.int 1) := U443
 exact rfl
 obtain rfl : n = (2 : Int32) := e_n.trans (by rw [z]; decide)
 rcases oR3 ((i0.toUInt32 >>> ((8 : Int32) &&& 31).toUInt32).toInt32) with z | z | z
 obtain rfl : m = (1 : Int32) := e_m.trans (by rw [z]; decide)
 refine o_iloadN K X0 at_68 rfl rfl ?_
 refine o_ldc K X0 (w0 hw) at_69 rfl ?_
 refine o_iand K X0 at_71 rfl (z := (i1 &&& (2147483647 : Int32))) rfl ?_
 refine o_iload K X0 at_72 rfl rfl ?_
 refine o_irem K X0 at_74 rfl (by decide) (z := ((i1 &&& (2147483647 : Int32)) % (1 : Int32))) rfl ?_
 refine o_istore K X0 at_75 rfl (L' := #[vI i0, vI i1, vI i2, vJ i3, sS, vI i4, vI i5, vI 2, vI 1, vI 1, vI 0, vI 1, vI ((i1 &&& (2147483647 : Int32)) % (1 : Int32)), uS, uS, uS, uS, uS, uS]) rfl ?_
 refine o_new K X0 (w1 hw) (w2 hw) (w3 hw) at_77 rfl (by decide) (by decide) ?_
 intro T462 h462 b462 X462 g462 E462 A462 D462 G462
 have F462_line : Fld Z h462 b462 z2 "line" "I" (.int 0) := (D462 (Or.inr (w193 hw)) (ty := .int) (by decide))
 have F462_fields : Fld Z h462 b462 z2 "fields" z11 .null := (D462 (Or.inr (w195 hw)) (ty := (.object z7)) (by decide))
 refine o_dup K X462 at_80 rfl rfl ?_
 refine o_iload K X462 at_81 rfl rfl ?_
 refine o_bipush K X462 at_83 rfl (z := 97) rfl ?_
 refine o_iload K X462 at_85 rfl rfl ?_
 refine o_lloadN K X462 at_87 rfl rfl ?_
 refine o_iconst K X462 at_88 rfl (z := 0) rfl ?_
 refine o_static K X462  (w4 hw) (w5 hw) (w6 hw) (w7 hw) (by decide) (rm_fields97_2 l Z a0 hw i3 cs dce kd h462 q0 q1 q2 q3) (by decide) rfl (argsL := [.int 97, .int 2, (.long i3), .int 0]) rfl (lenOf pd33 rfl) (W := 3) rfl (by decide) (by decide) (by decide) at_89 rfl ?_
 intro v463 T463 h463 X463 U463
 obtain ⟨l_463, r_463, kr_463, m_463, s0_463, vz0_463, kz0_463, s1_463, vz1_463, kz1_463, rfl, u463_0, u463_1, u463_2, u463_3, u463_4, u463_5, u463_6, u463_7, u463_8, u463_9, u463_10, u463_11, u463_12, u463_13, u463_14, u463_15, u463_16, u463_17, u463_18, u463_19⟩ := U463
 have G463_l : Z.heap.size ≤ l_463 := Nat.le_trans X462.ext0.1 u463_1
 have G463_r : Z.heap.size ≤ r_463 := Nat.le_trans X462.ext0.1 u463_6
 have G463_s0 : Z.heap.size ≤ s0_463 := Nat.le_trans X462.ext0.1 u463_10
 have G463_s1 : Z.heap.size ≤ s1_463 := Nat.le_trans X462.ext0.1 u463_11
 show oGoes pp ee bb ss Z T463 (mkF mm 92 _ [.ref l_463, .int i4, .ref b462, .ref b462]) _ _ _
 have m464 := (A462.keep u463_0)
 have m465 := (F462_line.keep u463_0 nin0)
 have m466 := (F462_fields.keep u463_0 nin0)
 refine o_special K X463 (y := (⟨z2, "<init>", z15⟩ : MethodName)) rfl (w97 hw) (w98 hw) (w3 hw) (w99 hw) (by decide) (rm_crow2 l Z a0 hw b462 i4 l_463 r_463 kr_463 s0_463 s1_463 mr h463 m464 m465 m466 G462 u463_2 u463_3 u463_4 u463_7 u463_8 u463_12 u463_16 q4) (by decide) rfl (argsL := [.int i4, .ref l_463]) rfl (lenOf pd34 rfl) (W := 1) rfl (by decide) (by decide) (by decide) at_92 rfl ?_
 intro v467 T467 h467 X467 U467
 obtain ⟨q_467, rfl, u467_0, u467_1, u467_2, u467_3, u467_4, u467_5, u467_6⟩ := U467
 show oGoes pp ee bb ss Z T467 (mkF mm 95 _ [.ref b462]) _ _ _
 refine o_astore K X467 at_95 rfl rfl (L' := #[vI i0, vI i1, vI i2, vJ i3, sS, vI i4, vI i5, vI 2, vI 1, vI 1, vI 0, vI 1, vI ((i1 &&& (2147483647 : Int32)) % (1 : Int32)), vR b462, uS, uS, uS, uS, uS]) rfl ?_
 refine o_iload K X467 at_97 rfl rfl ?_
 refine o_if_eq_t K X467 at_99 (by decide) (pc' := 106) (by decide) (by decide) ?_
 refine o_new K X467 (w1 hw) (w2 hw) (w3 hw) at_106 rfl (by decide) (by decide) ?_
 intro T468 h468 b468 X468 g468 E468 A468 D468 G468
 have F468_line : Fld Z h468 b468 z2 "line" "I" (.int 0) := (D468 (Or.inr (w193 hw)) (ty := .int) (by decide))
 have F468_fields : Fld Z h468 b468 z2 "fields" z11 .null := (D468 (Or.inr (w195 hw)) (ty := (.object z7)) (by decide))
 refine o_dup K X468 at_109 rfl rfl ?_
 refine o_iload K X468 at_110 rfl rfl ?_
 refine o_bipush K X468 at_112 rfl (z := 100) rfl ?_
 refine o_iload K X468 at_114 rfl rfl ?_
 refine o_lloadN K X468 at_116 rfl rfl ?_
 refine o_iconst K X468 at_117 rfl (z := 3) rfl ?_
 refine o_static K X468  (w4 hw) (w5 hw) (w6 hw) (w7 hw) (by decide) (rm_fields100_1 l Z a0 hw i3 cs dce kd h468 q0 q1 q2 q3) (by decide) rfl (argsL := [.int 100, .int 1, (.long i3), .int 3]) rfl (lenOf pd33 rfl) (W := 3) rfl (by decide) (by decide) (by decide) at_118 rfl ?_
 intro v469 T469 h469 X469 U469
 obtain ⟨l_469, r_469, kr_469, m_469, s0_469, vz0_469, kz0_469, rfl, u469_0, u469_1, u469_2, u469_3, u469_4, u469_5, u469_6, u469_7, u469_8, u469_9, u469_10, u469_11, u469_12, u469_13, u469_14⟩ := U469
 have G469_l : Z.heap.size ≤ l_469 := Nat.le_trans X468.ext0.1 u469_1
 have G469_r : Z.heap.size ≤ r_469 := Nat.le_trans X468.ext0.1 u469_6
 have G469_s0 : Z.heap.size ≤ s0_469 := Nat.le_trans X468.ext0.1 u469_10
 show oGoes pp ee bb ss Z T469 (mkF mm 121 _ [.ref l_469, .int i5, .ref b468, .ref b468]) _ _ _
 have m470 := (A468.keep u469_0)
 have m471 := (F468_line.keep u469_0 nin0)
 have m472 := (F468_fields.keep u469_0 nin0)
 refine o_special K X469 (y := (⟨z2, "<init>", z15⟩ : MethodName)) rfl (w97 hw) (w98 hw) (w3 hw) (w99 hw) (by decide) (rm_crow1 l Z a0 hw b468 i5 l_469 r_469 kr_469 s0_469 mr em h469 m470 m471 m472 G468 u469_2 u469_3 u469_4 u469_7 u469_8 u469_11 q4 q5) (by decide) rfl (argsL := [.int i5, .ref l_469]) rfl (lenOf pd34 rfl) (W := 1) rfl (by decide) (by decide) (by decide) at_121 rfl ?_
 intro v473 T473 h473 X473 U473
 obtain ⟨q_473, rfl, u473_0, u473_1, u473_2, u473_3, u473_4, u473_5, u473_6⟩ := U473
 show oGoes pp ee bb ss Z T473 (mkF mm 124 _ [.ref b468]) _ _ _
 refine o_astore K X473 at_124 rfl rfl (L' := #[vI i0, vI i1, vI i2, vJ i3, sS, vI i4, vI i5, vI 2, vI 1, vI 1, vI 0, vI 1, vI ((i1 &&& (2147483647 : Int32)) % (1 : Int32)), vR b462, vR b468, uS, uS, uS, uS]) rfl ?_
 have m475 := (u469_11.keep u473_0)
 have n476 := oLsz A468.lt u469_10
 have m477 := (u469_12.keep u473_0 (ninS n476 nin0))
 have m478 := (u469_13.keep u473_0 (ninS n476 nin0))
 have n479 : vz0_469 ≠ b468 := (oNeArr (A468.keep u469_0) (w2 hw) u469_14)
 have m480 := (u469_14.keep u473_0 (ninS n479 nin0))
 refine tl_lw1_1 l Z a0 hw i0 i1 i2 i3 i4 i5 2 1 1 ((i1 &&& (2147483647 : Int32)) % (1 : Int32)) b462 b468 q_473 s0_469 vz0_469 kz0_469 cs em h473 (oR1 i1) u473_1 u473_3 u473_4 u473_5 u473_6 m475 m477 m478 m480 G469_s0 q0 q1 q5 q6 (fun v474 h474 U474 => ?_) K (X473.mono (by decide) (by decide))
 obtain rfl : v474 = some (.int 1) := U474
 exact rfl
 obtain rfl : m = (2 : Int32) := e_m.trans (by rw [z]; decide)
 refine o_iloadN K X0 at_68 rfl rfl ?_
 refine o_ldc K X0 (w0 hw) at_69 rfl ?_
 refine o_iand K X0 at_71 rfl (z := (i1 &&& (2147483647 : Int32))) rfl ?_
 refine o_iload K X0 at_72 rfl rfl ?_
 refine o_irem K X0 at_74 rfl (by decide) (z := ((i1 &&& (2147483647 : Int32)) % (2 : Int32))) rfl ?_
 refine o_istore K X0 at_75 rfl (L' := #[vI i0, vI i1, vI i2, vJ i3, sS, vI i4, vI i5, vI 2, vI 2, vI 1, vI 0, vI 2, vI ((i1 &&& (2147483647 : Int32)) % (2 : Int32)), uS, uS, uS, uS, uS, uS]) rfl ?_
 refine o_new K X0 (w1 hw) (w2 hw) (w3 hw) at_77 rfl (by decide) (by decide) ?_
 intro T481 h481 b481 X481 g481 E481 A481 D481 G481
 have F481_line : Fld Z h481 b481 z2 "line" "I" (.int 0) := (D481 (Or.inr (w193 hw)) (ty := .int) (by decide))
 have F481_fields : Fld Z h481 b481 z2 "fields" z11 .null := (D481 (Or.inr (w195 hw)) (ty := (.object z7)) (by decide))
 refine o_dup K X481 at_80 rfl rfl ?_
 refine o_iload K X481 at_81 rfl rfl ?_
 refine o_bipush K X481 at_83 rfl (z := 97) rfl ?_
 refine o_iload K X481 at_85 rfl rfl ?_
 refine o_lloadN K X481 at_87 rfl rfl ?_
 refine o_iconst K X481 at_88 rfl (z := 0) rfl ?_
 refine o_static K X481  (w4 hw) (w5 hw) (w6 hw) (w7 hw) (by decide) (rm_fields97_2 l Z a0 hw i3 cs dce kd h481 q0 q1 q2 q3) (by decide) rfl (argsL := [.int 97, .int 2, (.long i3), .int 0]) rfl (lenOf pd33 rfl) (W := 3) rfl (by decide) (by decide) (by decide) at_89 rfl ?_
 intro v482 T482 h482 X482 U482
 obtain ⟨l_482, r_482, kr_482, m_482, s0_482, vz0_482, kz0_482, s1_482, vz1_482, kz1_482, rfl, u482_0, u482_1, u482_2, u482_3, u482_4, u482_5, u482_6, u482_7, u482_8, u482_9, u482_10, u482_11, u482_12, u482_13, u482_14, u482_15, u482_16, u482_17, u482_18, u482_19⟩ := U482
 have G482_l : Z.heap.size ≤ l_482 := Nat.le_trans X481.ext0.1 u482_1
 have G482_r : Z.heap.size ≤ r_482 := Nat.le_trans X481.ext0.1 u482_6
 have G482_s0 : Z.heap.size ≤ s0_482 := Nat.le_trans X481.ext0.1 u482_10
 have G482_s1 : Z.heap.size ≤ s1_482 := Nat.le_trans X481.ext0.1 u482_11
 show oGoes pp ee bb ss Z T482 (mkF mm 92 _ [.ref l_482, .int i4, .ref b481, .ref b481]) _ _ _
 have m483 := (A481.keep u482_0)
 have m484 := (F481_line.keep u482_0 nin0)
 have m485 := (F481_fields.keep u482_0 nin0)
 refine o_special K X482 (y := (⟨z2, "<init>", z15⟩ : MethodName)) rfl (w97 hw) (w98 hw) (w3 hw) (w99 hw) (by decide) (rm_crow2 l Z a0 hw b481 i4 l_482 r_482 kr_482 s0_482 s1_482 mr h482 m483 m484 m485 G481 u482_2 u482_3 u482_4 u482_7 u482_8 u482_12 u482_16 q4) (by decide) rfl (argsL := [.int i4, .ref l_482]) rfl (lenOf pd34 rfl) (W := 1) rfl (by decide) (by decide) (by decide) at_92 rfl ?_
 intro v486 T486 h486 X486 U486
 obtain ⟨q_486, rfl, u486_0, u486_1, u486_2, u486_3, u486_4, u486_5, u486_6⟩ := U486
 show oGoes pp ee bb ss Z T486 (mkF mm 95 _ [.ref b481]) _ _ _
 refine o_astore K X486 at_95 rfl rfl (L' := #[vI i0, vI i1, vI i2, vJ i3, sS, vI i4, vI i5, vI 2, vI 2, vI 1, vI 0, vI 2, vI ((i1 &&& (2147483647 : Int32)) % (2 : Int32)), vR b481, uS, uS, uS, uS, uS]) rfl ?_
 refine o_iload K X486 at_97 rfl rfl ?_
 refine o_if_eq_t K X486 at_99 (by decide) (pc' := 106) (by decide) (by decide) ?_
 refine o_new K X486 (w1 hw) (w2 hw) (w3 hw) at_106 rfl (by decide) (by decide) ?_
 intro T487 h487 b487 X487 g487 E487 A487 D487 G487
 have F487_line : Fld Z h487 b487 z2 "line" "I" (.int 0) := (D487 (Or.inr (w193 hw)) (ty := .int) (by decide))
 have F487_fields : Fld Z h487 b487 z2 "fields" z11 .null := (D487 (Or.inr (w195 hw)) (ty := (.object z7)) (by decide))
 refine o_dup K X487 at_109 rfl rfl ?_
 refine o_iload K X487 at_110 rfl rfl ?_
 refine o_bipush K X487 at_112 rfl (z := 100) rfl ?_
 refine o_iload K X487 at_114 rfl rfl ?_
 refine o_lloadN K X487 at_116 rfl rfl ?_
 refine o_iconst K X487 at_117 rfl (z := 3) rfl ?_
 refine o_static K X487  (w4 hw) (w5 hw) (w6 hw) (w7 hw) (by decide) (rm_fields100_2 l Z a0 hw i3 cs dce kd h487 q0 q1 q2 q3) (by decide) rfl (argsL := [.int 100, .int 2, (.long i3), .int 3]) rfl (lenOf pd33 rfl) (W := 3) rfl (by decide) (by decide) (by decide) at_118 rfl ?_
 intro v488 T488 h488 X488 U488
 obtain ⟨l_488, r_488, kr_488, m_488, s0_488, vz0_488, kz0_488, s1_488, vz1_488, kz1_488, rfl, u488_0, u488_1, u488_2, u488_3, u488_4, u488_5, u488_6, u488_7, u488_8, u488_9, u488_10, u488_11, u488_12, u488_13, u488_14, u488_15, u488_16, u488_17, u488_18, u488_19⟩ := U488
 have G488_l : Z.heap.size ≤ l_488 := Nat.le_trans X487.ext0.1 u488_1
 have G488_r : Z.heap.size ≤ r_488 := Nat.le_trans X487.ext0.1 u488_6
 have G488_s0 : Z.heap.size ≤ s0_488 := Nat.le_trans X487.ext0.1 u488_10
 have G488_s1 : Z.heap.size ≤ s1_488 := Nat.le_trans X487.ext0.1 u488_11
 show oGoes pp ee bb ss Z T488 (mkF mm 121 _ [.ref l_488, .int i5, .ref b487, .ref b487]) _ _ _
 have m489 := (A487.keep u488_0)
 have m490 := (F487_line.keep u488_0 nin0)
 have m491 := (F487_fields.keep u488_0 nin0)
 refine o_special K X488 (y := (⟨z2, "<init>", z15⟩ : MethodName)) rfl (w97 hw) (w98 hw) (w3 hw) (w99 hw) (by decide) (rm_crow2 l Z a0 hw b487 i5 l_488 r_488 kr_488 s0_488 s1_488 mr h488 m489 m490 m491 G487 u488_2 u488_3 u488_4 u488_7 u488_8 u488_12 u488_16 q4) (by decide) rfl (argsL := [.int i5, .ref l_488]) rfl (lenOf pd34 rfl) (W := 1) rfl (by decide) (by decide) (by decide) at_121 rfl ?_
 intro v492 T492 h492 X492 U492
 obtain ⟨q_492, rfl, u492_0, u492_1, u492_2, u492_3, u492_4, u492_5, u492_6⟩ := U492
 show oGoes pp ee bb ss Z T492 (mkF mm 124 _ [.ref b487]) _ _ _
 refine o_astore K X492 at_124 rfl rfl (L' := #[vI i0, vI i1, vI i2, vJ i3, sS, vI i4, vI i5, vI 2, vI 2, vI 1, vI 0, vI 2, vI ((i1 &&& (2147483647 : Int32)) % (2 : Int32)), vR b481, vR b487, uS, uS, uS, uS]) rfl ?_
 have m494 := (u488_12.keep u492_0)
 have n495 := oLsz A487.lt u488_10
 have m496 := (u488_13.keep u492_0 (ninS n495 nin0))
 have m497 := (u488_14.keep u492_0 (ninS n495 nin0))
 have n498 : vz0_488 ≠ b487 := (oNeArr (A487.keep u488_0) (w2 hw) u488_15)
 have m499 := (u488_15.keep u492_0 (ninS n498 nin0))
 have m500 := (u488_16.keep u492_0)
 have n501 := oLsz A487.lt u488_11
 have m502 := (u488_17.keep u492_0 (ninS n501 nin0))
 have m503 := (u488_18.keep u492_0 (ninS n501 nin0))
 have n504 : vz1_488 ≠ b487 := (oNeArr (A487.keep u488_0) (w2 hw) u488_19)
 have m505 := (u488_19.keep u492_0 (ninS n504 nin0))
 refine tl_lw1_2 l Z a0 hw i0 i1 i2 i3 i4 i5 2 2 2 ((i1 &&& (2147483647 : Int32)) % (2 : Int32)) b481 b487 q_492 s0_488 vz0_488 kz0_488 s1_488 vz1_488 kz1_488 cs em h492 (oR2 i1) u492_1 u492_3 u492_4 u492_5 u492_6 m494 m496 m497 m499 m500 m502 m503 m505 G488_s0 G488_s1 q0 q1 q5 q6 (fun v493 h493 U493 => ?_) K (X492.mono (by decide) (by decide))
 obtain rfl : v493 = some (.int 1) := U493
 exact rfl
 obtain rfl : m = (3 : Int32) := e_m.trans (by rw [z]; decide)
 refine o_iloadN K X0 at_68 rfl rfl ?_
 refine o_ldc K X0 (w0 hw) at_69 rfl ?_
 refine o_iand K X0 at_71 rfl (z := (i1 &&& (2147483647 : Int32))) rfl ?_
 refine o_iload K X0 at_72 rfl rfl ?_
 refine o_irem K X0 at_74 rfl (by decide) (z := ((i1 &&& (2147483647 : Int32)) % (3 : Int32))) rfl ?_
 refine o_istore K X0 at_75 rfl (L' := #[vI i0, vI i1, vI i2, vJ i3, sS, vI i4, vI i5, vI 2, vI 3, vI 1, vI 0, vI 3, vI ((i1 &&& (2147483647 : Int32)) % (3 : Int32)), uS, uS, uS, uS, uS, uS]) rfl ?_
 refine o_new K X0 (w1 hw) (w2 hw) (w3 hw) at_77 rfl (by decide) (by decide) ?_
 intro T506 h506 b506 X506 g506 E506 A506 D506 G506
 have F506_line : Fld Z h506 b506 z2 "line" "I" (.int 0) := (D506 (Or.inr (w193 hw)) (ty := .int) (by decide))
 have F506_fields : Fld Z h506 b506 z2 "fields" z11 .null := (D506 (Or.inr (w195 hw)) (ty := (.object z7)) (by decide))
 refine o_dup K X506 at_80 rfl rfl ?_
 refine o_iload K X506 at_81 rfl rfl ?_
 refine o_bipush K X506 at_83 rfl (z := 97) rfl ?_
 refine o_iload K X506 at_85 rfl rfl ?_
 refine o_lloadN K X506 at_87 rfl rfl ?_
 refine o_iconst K X506 at_88 rfl (z := 0) rfl ?_
 refine o_static K X506  (w4 hw) (w5 hw) (w6 hw) (w7 hw) (by decide) (rm_fields97_2 l Z a0 hw i3 cs dce kd h506 q0 q1 q2 q3) (by decide) rfl (argsL := [.int 97, .int 2, (.long i3), .int 0]) rfl (lenOf pd33 rfl) (W := 3) rfl (by decide) (by decide) (by decide) at_89 rfl ?_
 intro v507 T507 h507 X507 U507
 obtain ⟨l_507, r_507, kr_507, m_507, s0_507, vz0_507, kz0_507, s1_507, vz1_507, kz1_507, rfl, u507_0, u507_1, u507_2, u507_3, u507_4, u507_5, u507_6, u507_7, u507_8, u507_9, u507_10, u507_11, u507_12, u507_13, u507_14, u507_15, u507_16, u507_17, u507_18, u507_19⟩ := U507
 have G507_l : Z.heap.size ≤ l_507 := Nat.le_trans X506.ext0.1 u507_1
 have G507_r : Z.heap.size ≤ r_507 := Nat.le_trans X506.ext0.1 u507_6
 have G507_s0 : Z.heap.size ≤ s0_507 := Nat.le_trans X506.ext0.1 u507_10
 have G507_s1 : Z.heap.size ≤ s1_507 := Nat.le_trans X506.ext0.1 u507_11
 show oGoes pp ee bb ss Z T507 (mkF mm 92 _ [.ref l_507, .int i4, .ref b506, .ref b506]) _ _ _
 have m508 := (A506.keep u507_0)
 have m509 := (F506_line.keep u507_0 nin0)
 have m510 := (F506_fields.keep u507_0 nin0)
 refine o_special K X507 (y := (⟨z2, "<init>", z15⟩ : MethodName)) rfl (w97 hw) (w98 hw) (w3 hw) (w99 hw) (by decide) (rm_crow2 l Z a0 hw b506 i4 l_507 r_507 kr_507 s0_507 s1_507 mr h507 m508 m509 m510 G506 u507_2 u507_3 u507_4 u507_7 u507_8 u507_12 u507_16 q4) (by decide) rfl (argsL := [.int i4, .ref l_507]) rfl (lenOf pd34 rfl) (W := 1) rfl (by decide) (by decide) (by decide) at_92 rfl ?_
 intro v511 T511 h511 X511 U511
 obtain ⟨q_511, rfl, u511_0, u511_1, u511_2, u511_3, u511_4, u511_5, u511_6⟩ := U511
 show oGoes pp ee bb ss Z T511 (mkF mm 95 _ [.ref b506]) _ _ _
 refine o_astore K X511 at_95 rfl rfl (L' := #[vI i0, vI i1, vI i2, vJ i3, sS, vI i4, vI i5, vI 2, vI 3, vI 1, vI 0, vI 3, vI ((i1 &&& (2147483647 : Int32)) % (3 : Int32)), vR b506, uS, uS, uS, uS, uS]) rfl ?_
 refine o_iload K X511 at_97 rfl rfl ?_
 refine o_if_eq_t K X511 at_99 (by decide) (pc' := 106) (by decide) (by decide) ?_
 refine o_new K X511 (w1 hw) (w2 hw) (w3 hw) at_106 rfl (by decide) (by decide) ?_
 intro T512 h512 b512 X512 g512 E512 A512 D512 G512
 have F512_line : Fld Z h512 b512 z2 "line" "I" (.int 0) := (D512 (Or.inr (w193 hw)) (ty := .int) (by decide))
 have F512_fields : Fld Z h512 b512 z2 "fields" z11 .null := (D512 (Or.inr (w195 hw)) (ty := (.object z7)) (by decide))
 refine o_dup K X512 at_109 rfl rfl ?_
 refine o_iload K X512 at_110 rfl rfl ?_
 refine o_bipush K X512 at_112 rfl (z := 100) rfl ?_
 refine o_iload K X512 at_114 rfl rfl ?_
 refine o_lloadN K X512 at_116 rfl rfl ?_
 refine o_iconst K X512 at_117 rfl (z := 3) rfl ?_
 refine o_static K X512  (w4 hw) (w5 hw) (w6 hw) (w7 hw) (by decide) (rm_fields100_3 l Z a0 hw i3 cs dce kd h512 q0 q1 q2 q3) (by decide) rfl (argsL := [.int 100, .int 3, (.long i3), .int 3]) rfl (lenOf pd33 rfl) (W := 3) rfl (by decide) (by decide) (by decide) at_118 rfl ?_
 intro v513 T513 h513 X513 U513
 obtain ⟨l_513, r_513, kr_513, m_513, s0_513, vz0_513, kz0_513, s1_513, vz1_513, kz1_513, s2_513, vz2_513, kz2_513, rfl, u513_0, u513_1, u513_2, u513_3, u513_4, u513_5, u513_6, u513_7, u513_8, u513_9, u513_10, u513_11, u513_12, u513_13, u513_14, u513_15, u513_16, u513_17, u513_18, u513_19, u513_20, u513_21, u513_22, u513_23, u513_24⟩ := U513
 have G513_l : Z.heap.size ≤ l_513 := Nat.le_trans X512.ext0.1 u513_1
 have G513_r : Z.heap.size ≤ r_513 := Nat.le_trans X512.ext0.1 u513_6
 have G513_s0 : Z.heap.size ≤ s0_513 := Nat.le_trans X512.ext0.1 u513_10
 have G513_s1 : Z.heap.size ≤ s1_513 := Nat.le_trans X512.ext0.1 u513_11
 have G513_s2 : Z.heap.size ≤ s2_513 := Nat.le_trans X512.ext0.1 u513_12
 show oGoes pp ee bb ss Z T513 (mkF mm 121 _ [.ref l_513, .int i5, .ref b512, .ref b512]) _ _ _
 have m514 := (A512.keep u513_0)
 have m515 := (F512_line.keep u513_0 nin0)
 have m516 := (F512_fields.keep u513_0 nin0)
 refine o_special K X513 (y := (⟨z2, "<init>", z15⟩ : MethodName)) rfl (w97 hw) (w98 hw) (w3 hw) (w99 hw) (by decide) (rm_crow3 l Z a0 hw b512 i5 l_513 r_513 kr_513 s0_513 s1_513 s2_513 mr h513 m514 m515 m516 G512 u513_2 u513_3 u513_4 u513_7 u513_8 u513_13 u513_17 u513_21 q4) (by decide) rfl (argsL := [.int i5, .ref l_513]) rfl (lenOf pd34 rfl) (W := 1) rfl (by decide) (by decide) (by decide) at_121 rfl ?_
 intro v517 T517 h517 X517 U517
 obtain ⟨q_517, y_517, ky_517, rfl, u517_0, u517_1, u517_2, u517_3, u517_4, u517_5, u517_6⟩ := U517
 show oGoes pp ee bb ss Z T517 (mkF mm 124 _ [.ref b512]) _ _ _
 refine o_astore K X517 at_124 rfl rfl (L' := #[vI i0, vI i1, vI i2, vJ i3, sS, vI i4, vI i5, vI 2, vI 3, vI 1, vI 0, vI 3, vI ((i1 &&& (2147483647 : Int32)) % (3 : Int32)), vR b506, vR b512, uS, uS, uS, uS]) rfl ?_
 have m519 := (u513_13.keep u517_0)
 have n520 := oLsz A512.lt u513_10
 have m521 := (u513_14.keep u517_0 (ninS n520 nin0))
 have m522 := (u513_15.keep u517_0 (ninS n520 nin0))
 have n523 : vz0_513 ≠ b512 := (oNeArr (A512.keep u513_0) (w2 hw) u513_16)
 have m524 := (u513_16.keep u517_0 (ninS n523 nin0))
 have m525 := (u513_17.keep u517_0)
 have n526 := oLsz A512.lt u513_11
 have m527 := (u513_18.keep u517_0 (ninS n526 nin0))
 have m528 := (u513_19.keep u517_0 (ninS n526 nin0))
 have n529 : vz1_513 ≠ b512 := (oNeArr (A512.keep u513_0) (w2 hw) u513_20)
 have m530 := (u513_20.keep u517_0 (ninS n529 nin0))
 have m531 := (u513_21.keep u517_0)
 have n532 := oLsz A512.lt u513_12
 have m533 := (u513_22.keep u517_0 (ninS n532 nin0))
 have m534 := (u513_23.keep u517_0 (ninS n532 nin0))
 have n535 : vz2_513 ≠ b512 := (oNeArr (A512.keep u513_0) (w2 hw) u513_24)
 have m536 := (u513_24.keep u517_0 (ninS n535 nin0))
 refine tl_lw1_3 l Z a0 hw i0 i1 i2 i3 i4 i5 2 3 3 ((i1 &&& (2147483647 : Int32)) % (3 : Int32)) b506 b512 q_517 y_517 ky_517 s0_513 vz0_513 kz0_513 s1_513 vz1_513 kz1_513 s2_513 vz2_513 kz2_513 cs h517 (oR3 i1) u517_1 u517_3 u517_4 u517_5 u517_6 m519 m521 m522 m524 m525 m527 m528 m530 m531 m533 m534 m536 G513_s0 G513_s1 G513_s2 q0 q1 (fun v518 h518 U518 => ?_) K (X517.mono (by decide) (by decide))
 obtain rfl : v518 = some (.int 1) := U518
 exact rfl
 obtain rfl : n = (3 : Int32) := e_n.trans (by rw [z]; decide)
 rcases oR3 ((i0.toUInt32 >>> ((8 : Int32) &&& 31).toUInt32).toInt32) with z | z | z
 obtain rfl : m = (1 : Int32) := e_m.trans (by rw [z]; decide)
 refine o_iloadN K X0 at_68 rfl rfl ?_
 refine o_ldc K X0 (w0 hw) at_69 rfl ?_
 refine o_iand K X0 at_71 rfl (z := (i1 &&& (2147483647 : Int32))) rfl ?_
 refine o_iload K X0 at_72 rfl rfl ?_
 refine o_irem K X0 at_74 rfl (by decide) (z := ((i1 &&& (2147483647 : Int32)) % (1 : Int32))) rfl ?_
 refine o_istore K X0 at_75 rfl (L' := #[vI i0, vI i1, vI i2, vJ i3, sS, vI i4, vI i5, vI 3, vI 1, vI 1, vI 0, vI 1, vI ((i1 &&& (2147483647 : Int32)) % (1 : Int32)), uS, uS, uS, uS, uS, uS]) rfl ?_
 refine o_new K X0 (w1 hw) (w2 hw) (w3 hw) at_77 rfl (by decide) (by decide) ?_
 intro T537 h537 b537 X537 g537 E537 A537 D537 G537
 have F537_line : Fld Z h537 b537 z2 "line" "I" (.int 0) := (D537 (Or.inr (w193 hw)) (ty := .int) (by decide))
 have F537_fields : Fld Z h537 b537 z2 "fields" z11 .null := (D537 (Or.inr (w195 hw)) (ty := (.object z7)) (by decide))
 refine o_dup K X537 at_80 rfl rfl ?_
 refine o_iload K X537 at_81 rfl rfl ?_
 refine o_bipush K X537 at_83 rfl (z := 97) rfl ?_
 refine o_iload K X537 at_85 rfl rfl ?_
 refine o_lloadN K X537 at_87 rfl rfl ?_
 refine o_iconst K X537 at_88 rfl (z := 0) rfl ?_
 refine o_static K X537  (w4 hw) (w5 hw) (w6 hw) (w7 hw) (by decide) (rm_fields97_3 l Z a0 hw i3 cs dce kd h537 q0 q1 q2 q3) (by decide) rfl (argsL := [.int 97, .int 3, (.long i3), .int 0]) rfl (lenOf pd33 rfl) (W := 3) rfl (by decide) (by decide) (by decide) at_89 rfl ?_
 intro v538 T538 h538 X538 U538
 obtain ⟨l_538, r_538, kr_538, m_538, s0_538, vz0_538, kz0_538, s1_538, vz1_538, kz1_538, s2_538, vz2_538, kz2_538, rfl, u538_0, u538_1, u538_2, u538_3, u538_4, u538_5, u538_6, u538_7, u538_8, u538_9, u538_10, u538_11, u538_12, u538_13, u538_14, u538_15, u538_16, u538_17, u538_18, u538_19, u538_20, u538_21, u538_22, u538_23, u538_24⟩ := U538
 have G538_l : Z.heap.size ≤ l_538 := Nat.le_trans X537.ext0.1 u538_1
 have G538_r : Z.heap.size ≤ r_538 := Nat.le_trans X537.ext0.1 u538_6
 have G538_s0 : Z.heap.size ≤ s0_538 := Nat.le_trans X537.ext0.1 u538_10
 have G538_s1 : Z.heap.size ≤ s1_538 := Nat.le_trans X537.ext0.1 u538_11
 have G538_s2 : Z.heap.size ≤ s2_538 := Nat.le_trans X537.ext0.1 u538_12
 show oGoes pp ee bb ss Z T538 (mkF mm 92 _ [.ref l_538, .int i4, .ref b537, .ref b537]) _ _ _
 have m539 := (A537.keep u538_0)
 have m540 := (F537_line.keep u538_0 nin0)
 have m541 := (F537_fields.keep u538_0 nin0)
 refine o_special K X538 (y := (⟨z2, "<init>", z15⟩ : MethodName)) rfl (w97 hw) (w98 hw) (w3 hw) (w99 hw) (by decide) (rm_crow3 l Z a0 hw b537 i4 l_538 r_538 kr_538 s0_538 s1_538 s2_538 mr h538 m539 m540 m541 G537 u538_2 u538_3 u538_4 u538_7 u538_8 u538_13 u538_17 u538_21 q4) (by decide) rfl (argsL := [.int i4, .ref l_538]) rfl (lenOf pd34 rfl) (W := 1) rfl (by decide) (by decide) (by decide) at_92 rfl ?_
 intro v542 T542 h542 X542 U542
 obtain ⟨q_542, y_542, ky_542, rfl, u542_0, u542_1, u542_2, u542_3, u542_4, u542_5, u542_6⟩ := U542
 show oGoes pp ee bb ss Z T542 (mkF mm 95 _ [.ref b537]) _ _ _
 refine o_astore K X542 at_95 rfl rfl (L' := #[vI i0, vI i1, vI i2, vJ i3, sS, vI i4, vI i5, vI 3, vI 1, vI 1, vI 0, vI 1, vI ((i1 &&& (2147483647 : Int32)) % (1 : Int32)), vR b537, uS, uS, uS, uS, uS]) rfl ?_
 refine o_iload K X542 at_97 rfl rfl ?_
 refine o_if_eq_t K X542 at_99 (by decide) (pc' := 106) (by decide) (by decide) ?_
 refine o_new K X542 (w1 hw) (w2 hw) (w3 hw) at_106 rfl (by decide) (by decide) ?_
 intro T543 h543 b543 X543 g543 E543 A543 D543 G543
 have F543_line : Fld Z h543 b543 z2 "line" "I" (.int 0) := (D543 (Or.inr (w193 hw)) (ty := .int) (by decide))
 have F543_fields : Fld Z h543 b543 z2 "fields" z11 .null := (D543 (Or.inr (w195 hw)) (ty := (.object z7)) (by decide))
 refine o_dup K X543 at_109 rfl rfl ?_
 refine o_iload K X543 at_110 rfl rfl ?_
 refine o_bipush K X543 at_112 rfl (z := 100) rfl ?_
 refine o_iload K X543 at_114 rfl rfl ?_
 refine o_lloadN K X543 at_116 rfl rfl ?_
 refine o_iconst K X543 at_117 rfl (z := 3) rfl ?_
 refine o_static K X543  (w4 hw) (w5 hw) (w6 hw) (w7 hw) (by decide) (rm_fields100_1 l Z a0 hw i3 cs dce kd h543 q0 q1 q2 q3) (by decide) rfl (argsL := [.int 100, .int 1, (.long i3), .int 3]) rfl (lenOf pd33 rfl) (W := 3) rfl (by decide) (by decide) (by decide) at_118 rfl ?_
 intro v544 T544 h544 X544 U544
 obtain ⟨l_544, r_544, kr_544, m_544, s0_544, vz0_544, kz0_544, rfl, u544_0, u544_1, u544_2, u544_3, u544_4, u544_5, u544_6, u544_7, u544_8, u544_9, u544_10, u544_11, u544_12, u544_13, u544_14⟩ := U544
 have G544_l : Z.heap.size ≤ l_544 := Nat.le_trans X543.ext0.1 u544_1
 have G544_r : Z.heap.size ≤ r_544 := Nat.le_trans X543.ext0.1 u544_6
 have G544_s0 : Z.heap.size ≤ s0_544 := Nat.le_trans X543.ext0.1 u544_10
 show oGoes pp ee bb ss Z T544 (mkF mm 121 _ [.ref l_544, .int i5, .ref b543, .ref b543]) _ _ _
 have m545 := (A543.keep u544_0)
 have m546 := (F543_line.keep u544_0 nin0)
 have m547 := (F543_fields.keep u544_0 nin0)
 refine o_special K X544 (y := (⟨z2, "<init>", z15⟩ : MethodName)) rfl (w97 hw) (w98 hw) (w3 hw) (w99 hw) (by decide) (rm_crow1 l Z a0 hw b543 i5 l_544 r_544 kr_544 s0_544 mr em h544 m545 m546 m547 G543 u544_2 u544_3 u544_4 u544_7 u544_8 u544_11 q4 q5) (by decide) rfl (argsL := [.int i5, .ref l_544]) rfl (lenOf pd34 rfl) (W := 1) rfl (by decide) (by decide) (by decide) at_121 rfl ?_
 intro v548 T548 h548 X548 U548
 obtain ⟨q_548, rfl, u548_0, u548_1, u548_2, u548_3, u548_4, u548_5, u548_6⟩ := U548
 show oGoes pp ee bb ss Z T548 (mkF mm 124 _ [.ref b543]) _ _ _
 refine o_astore K X548 at_124 rfl rfl (L' := #[vI i0, vI i1, vI i2, vJ i3, sS, vI i4, vI i5, vI 3, vI 1, vI 1, vI 0, vI 1, vI ((i1 &&& (2147483647 : Int32)) % (1 : Int32)), vR b537, vR b543, uS, uS, uS, uS]) rfl ?_
 have m550 := (u544_11.keep u548_0)
 have n551 := oLsz A543.lt u544_10
 have m552 := (u544_12.keep u548_0 (ninS n551 nin0))
 have m553 := (u544_13.keep u548_0 (ninS n551 nin0))
 have n554 : vz0_544 ≠ b543 := (oNeArr (A543.keep u544_0) (w2 hw) u544_14)
 have m555 := (u544_14.keep u548_0 (ninS n554 nin0))
 refine tl_lw1_1 l Z a0 hw i0 i1 i2 i3 i4 i5 3 1 1 ((i1 &&& (2147483647 : Int32)) % (1 : Int32)) b537 b543 q_548 s0_544 vz0_544 kz0_544 cs em h548 (oR1 i1) u548_1 u548_3 u548_4 u548_5 u548_6 m550 m552 m553 m555 G544_s0 q0 q1 q5 q6 (fun v549 h549 U549 => ?_) K (X548.mono (by decide) (by decide))
 obtain rfl : v549 = some (.int 1) := U549
 exact rfl
 obtain rfl : m = (2 : Int32) := e_m.trans (by rw [z]; decide)
 refine o_iloadN K X0 at_68 rfl rfl ?_
 refine o_ldc K X0 (w0 hw) at_69 rfl ?_
 refine o_iand K X0 at_71 rfl (z := (i1 &&& (2147483647 : Int32))) rfl ?_
 refine o_iload K X0 at_72 rfl rfl ?_
 refine o_irem K X0 at_74 rfl (by decide) (z := ((i1 &&& (2147483647 : Int32)) % (2 : Int32))) rfl ?_
 refine o_istore K X0 at_75 rfl (L' := #[vI i0, vI i1, vI i2, vJ i3, sS, vI i4, vI i5, vI 3, vI 2, vI 1, vI 0, vI 2, vI ((i1 &&& (2147483647 : Int32)) % (2 : Int32)), uS, uS, uS, uS, uS, uS]) rfl ?_
 refine o_new K X0 (w1 hw) (w2 hw) (w3 hw) at_77 rfl (by decide) (by decide) ?_
 intro T556 h556 b556 X556 g556 E556 A556 D556 G556
 have F556_line : Fld Z h556 b556 z2 "line" "I" (.int 0) := (D556 (Or.inr (w193 hw)) (ty := .int) (by decide))
 have F556_fields : Fld Z h556 b556 z2 "fields" z11 .null := (D556 (Or.inr (w195 hw)) (ty := (.object z7)) (by decide))
 refine o_dup K X556 at_80 rfl rfl ?_
 refine o_iload K X556 at_81 rfl rfl ?_
 refine o_bipush K X556 at_83 rfl (z := 97) rfl ?_
 refine o_iload K X556 at_85 rfl rfl ?_
 refine o_lloadN K X556 at_87 rfl rfl ?_
 refine o_iconst K X556 at_88 rfl (z := 0) rfl ?_
 refine o_static K X556  (w4 hw) (w5 hw) (w6 hw) (w7 hw) (by decide) (rm_fields97_3 l Z a0 hw i3 cs dce kd h556 q0 q1 q2 q3) (by decide) rfl (argsL := [.int 97, .int 3, (.long i3), .int 0]) rfl (lenOf pd33 rfl) (W := 3) rfl (by decide) (by decide) (by decide) at_89 rfl ?_
 intro v557 T557 h557 X557 U557
 obtain ⟨l_557, r_557, kr_557, m_557, s0_557, vz0_557, kz0_557, s1_557, vz1_557, kz1_557, s2_557, vz2_557, kz2_557, rfl, u557_0, u557_1, u557_2, u557_3, u557_4, u557_5, u557_6, u557_7, u557_8, u557_9, u557_10, u557_11, u557_12, u557_13, u557_14, u557_15, u557_16, u557_17, u557_18, u557_19, u557_20, u557_21, u557_22, u557_23, u557_24⟩ := U557
 have G557_l : Z.heap.size ≤ l_557 := Nat.le_trans X556.ext0.1 u557_1
 have G557_r : Z.heap.size ≤ r_557 := Nat.le_trans X556.ext0.1 u557_6
 have G557_s0 : Z.heap.size ≤ s0_557 := Nat.le_trans X556.ext0.1 u557_10
 have G557_s1 : Z.heap.size ≤ s1_557 := Nat.le_trans X556.ext0.1 u557_11
 have G557_s2 : Z.heap.size ≤ s2_557 := Nat.le_trans X556.ext0.1 u557_12
 show oGoes pp ee bb ss Z T557 (mkF mm 92 _ [.ref l_557, .int i4, .ref b556, .ref b556]) _ _ _
 have m558 := (A556.keep u557_0)
 have m559 := (F556_line.keep u557_0 nin0)
 have m560 := (F556_fields.keep u557_0 nin0)
 refine o_special K X557 (y := (⟨z2, "<init>", z15⟩ : MethodName)) rfl (w97 hw) (w98 hw) (w3 hw) (w99 hw) (by decide) (rm_crow3 l Z a0 hw b556 i4 l_557 r_557 kr_557 s0_557 s1_557 s2_557 mr h557 m558 m559 m560 G556 u557_2 u557_3 u557_4 u557_7 u557_8 u557_13 u557_17 u557_21 q4) (by decide) rfl (argsL := [.int i4, .ref l_557]) rfl (lenOf pd34 rfl) (W := 1) rfl (by decide) (by decide) (by decide) at_92 rfl ?_
 intro v561 T561 h561 X561 U561
 obtain ⟨q_561, y_561, ky_561, rfl, u561_0, u561_1, u561_2, u561_3, u561_4, u561_5, u561_6⟩ := U561
 show oGoes pp ee bb ss Z T561 (mkF mm 95 _ [.ref b556]) _ _ _
 refine o_astore K X561 at_95 rfl rfl (L' := #[vI i0, vI i1, vI i2, vJ i3, sS, vI i4, vI i5, vI 3, vI 2, vI 1, vI 0, vI 2, vI ((i1 &&& (2147483647 : Int32)) % (2 : Int32)), vR b556, uS, uS, uS, uS, uS]) rfl ?_
 refine o_iload K X561 at_97 rfl rfl ?_
 refine o_if_eq_t K X561 at_99 (by decide) (pc' := 106) (by decide) (by decide) ?_
 refine o_new K X561 (w1 hw) (w2 hw) (w3 hw) at_106 rfl (by decide) (by decide) ?_
 intro T562 h562 b562 X562 g562 E562 A562 D562 G562
 have F562_line : Fld Z h562 b562 z2 "line" "I" (.int 0) := (D562 (Or.inr (w193 hw)) (ty := .int) (by decide))
 have F562_fields : Fld Z h562 b562 z2 "fields" z11 .null := (D562 (Or.inr (w195 hw)) (ty := (.object z7)) (by decide))
 refine o_dup K X562 at_109 rfl rfl ?_
 refine o_iload K X562 at_110 rfl rfl ?_
 refine o_bipush K X562 at_112 rfl (z := 100) rfl ?_
 refine o_iload K X562 at_114 rfl rfl ?_
 refine o_lloadN K X562 at_116 rfl rfl ?_
 refine o_iconst K X562 at_117 rfl (z := 3) rfl ?_
 refine o_static K X562  (w4 hw) (w5 hw) (w6 hw) (w7 hw) (by decide) (rm_fields100_2 l Z a0 hw i3 cs dce kd h562 q0 q1 q2 q3) (by decide) rfl (argsL := [.int 100, .int 2, (.long i3), .int 3]) rfl (lenOf pd33 rfl) (W := 3) rfl (by decide) (by decide) (by decide) at_118 rfl ?_
 intro v563 T563 h563 X563 U563
 obtain ⟨l_563, r_563, kr_563, m_563, s0_563, vz0_563, kz0_563, s1_563, vz1_563, kz1_563, rfl, u563_0, u563_1, u563_2, u563_3, u563_4, u563_5, u563_6, u563_7, u563_8, u563_9, u563_10, u563_11, u563_12, u563_13, u563_14, u563_15, u563_16, u563_17, u563_18, u563_19⟩ := U563
 have G563_l : Z.heap.size ≤ l_563 := Nat.le_trans X562.ext0.1 u563_1
 have G563_r : Z.heap.size ≤ r_563 := Nat.le_trans X562.ext0.1 u563_6
 have G563_s0 : Z.heap.size ≤ s0_563 := Nat.le_trans X562.ext0.1 u563_10
 have G563_s1 : Z.heap.size ≤ s1_563 := Nat.le_trans X562.ext0.1 u563_11
 show oGoes pp ee bb ss Z T563 (mkF mm 121 _ [.ref l_563, .int i5, .ref b562, .ref b562]) _ _ _
 have m564 := (A562.keep u563_0)
 have m565 := (F562_line.keep u563_0 nin0)
 have m566 := (F562_fields.keep u563_0 nin0)
 refine o_special K X563 (y := (⟨z2, "<init>", z15⟩ : MethodName)) rfl (w97 hw) (w98 hw) (w3 hw) (w99 hw) (by decide) (rm_crow2 l Z a0 hw b562 i5 l_563 r_563 kr_563 s0_563 s1_563 mr h563 m564 m565 m566 G562 u563_2 u563_3 u563_4 u563_7 u563_8 u563_12 u563_16 q4) (by decide) rfl (argsL := [.int i5, .ref l_563]) rfl (lenOf pd34 rfl) (W := 1) rfl (by decide) (by decide) (by decide) at_121 rfl ?_
 intro v567 T567 h567 X567 U567
 obtain ⟨q_567, rfl, u567_0, u567_1, u567_2, u567_3, u567_4, u567_5, u567_6⟩ := U567
 show oGoes pp ee bb ss Z T567 (mkF mm 124 _ [.ref b562]) _ _ _
 refine o_astore K X567 at_124 rfl rfl (L' := #[vI i0, vI i1, vI i2, vJ i3, sS, vI i4, vI i5, vI 3, vI 2, vI 1, vI 0, vI 2, vI ((i1 &&& (2147483647 : Int32)) % (2 : Int32)), vR b556, vR b562, uS, uS, uS, uS]) rfl ?_
 have m569 := (u563_12.keep u567_0)
 have n570 := oLsz A562.lt u563_10
 have m571 := (u563_13.keep u567_0 (ninS n570 nin0))
 have m572 := (u563_14.keep u567_0 (ninS n570 nin0))
 have n573 : vz0_563 ≠ b562 := (oNeArr (A562.keep u563_0) (w2 hw) u563_15)
 have m574 := (u563_15.keep u567_0 (ninS n573 nin0))
 have m575 := (u563_16.keep u567_0)
 have n576 := oLsz A562.lt u563_11
 have m577 := (u563_17.keep u567_0 (ninS n576 nin0))
 have m578 := (u563_18.keep u567_0 (ninS n576 nin0))
 have n579 : vz1_563 ≠ b562 := (oNeArr (A562.keep u563_0) (w2 hw) u563_19)
 have m580 := (u563_19.keep u567_0 (ninS n579 nin0))
 refine tl_lw1_2 l Z a0 hw i0 i1 i2 i3 i4 i5 3 2 2 ((i1 &&& (2147483647 : Int32)) % (2 : Int32)) b556 b562 q_567 s0_563 vz0_563 kz0_563 s1_563 vz1_563 kz1_563 cs em h567 (oR2 i1) u567_1 u567_3 u567_4 u567_5 u567_6 m569 m571 m572 m574 m575 m577 m578 m580 G563_s0 G563_s1 q0 q1 q5 q6 (fun v568 h568 U568 => ?_) K (X567.mono (by decide) (by decide))
 obtain rfl : v568 = some (.int 1) := U568
 exact rfl
 obtain rfl : m = (3 : Int32) := e_m.trans (by rw [z]; decide)
 refine o_iloadN K X0 at_68 rfl rfl ?_
 refine o_ldc K X0 (w0 hw) at_69 rfl ?_
 refine o_iand K X0 at_71 rfl (z := (i1 &&& (2147483647 : Int32))) rfl ?_
 refine o_iload K X0 at_72 rfl rfl ?_
 refine o_irem K X0 at_74 rfl (by decide) (z := ((i1 &&& (2147483647 : Int32)) % (3 : Int32))) rfl ?_
 refine o_istore K X0 at_75 rfl (L' := #[vI i0, vI i1, vI i2, vJ i3, sS, vI i4, vI i5, vI 3, vI 3, vI 1, vI 0, vI 3, vI ((i1 &&& (2147483647 : Int32)) % (3 : Int32)), uS, uS, uS, uS, uS, uS]) rfl ?_
 refine o_new K X0 (w1 hw) (w2 hw) (w3 hw) at_77 rfl (by decide) (by decide) ?_
 intro T581 h581 b581 X581 g581 E581 A581 D581 G581
 have F581_line : Fld Z h581 b581 z2 "line" "I" (.int 0) := (D581 (Or.inr (w193 hw)) (ty := .int) (by decide))
 have F581_fields : Fld Z h581 b581 z2 "fields" z11 .null := (D581 (Or.inr (w195 hw)) (ty := (.object z7)) (by decide))
 refine o_dup K X581 at_80 rfl rfl ?_
 refine o_iload K X581 at_81 rfl rfl ?_
 refine o_bipush K X581 at_83 rfl (z := 97) rfl ?_
 refine o_iload K X581 at_85 rfl rfl ?_
 refine o_lloadN K X581 at_87 rfl rfl ?_
 refine o_iconst K X581 at_88 rfl (z := 0) rfl ?_
 refine o_static K X581  (w4 hw) (w5 hw) (w6 hw) (w7 hw) (by decide) (rm_fields97_3 l Z a0 hw i3 cs dce kd h581 q0 q1 q2 q3) (by decide) rfl (argsL := [.int 97, .int 3, (.long i3), .int 0]) rfl (lenOf pd33 rfl) (W := 3) rfl (by decide) (by decide) (by decide) at_89 rfl ?_
 intro v582 T582 h582 X582 U582
 obtain ⟨l_582, r_582, kr_582, m_582, s0_582, vz0_582, kz0_582, s1_582, vz1_582, kz1_582, s2_582, vz2_582, kz2_582, rfl, u582_0, u582_1, u582_2, u582_3, u582_4, u582_5, u582_6, u582_7, u582_8, u582_9, u582_10, u582_11, u582_12, u582_13, u582_14, u582_15, u582_16, u582_17, u582_18, u582_19, u582_20, u582_21, u582_22, u582_23, u582_24⟩ := U582
 have G582_l : Z.heap.size ≤ l_582 := Nat.le_trans X581.ext0.1 u582_1
 have G582_r : Z.heap.size ≤ r_582 := Nat.le_trans X581.ext0.1 u582_6
 have G582_s0 : Z.heap.size ≤ s0_582 := Nat.le_trans X581.ext0.1 u582_10
 have G582_s1 : Z.heap.size ≤ s1_582 := Nat.le_trans X581.ext0.1 u582_11
 have G582_s2 : Z.heap.size ≤ s2_582 := Nat.le_trans X581.ext0.1 u582_12
 show oGoes pp ee bb ss Z T582 (mkF mm 92 _ [.ref l_582, .int i4, .ref b581, .ref b581]) _ _ _
 have m583 := (A581.keep u582_0)
 have m584 := (F581_line.keep u582_0 nin0)
 have m585 := (F581_fields.keep u582_0 nin0)
 refine o_special K X582 (y := (⟨z2, "<init>", z15⟩ : MethodName)) rfl (w97 hw) (w98 hw) (w3 hw) (w99 hw) (by decide) (rm_crow3 l Z a0 hw b581 i4 l_582 r_582 kr_582 s0_582 s1_582 s2_582 mr h582 m583 m584 m585 G581 u582_2 u582_3 u582_4 u582_7 u582_8 u582_13 u582_17 u582_21 q4) (by decide) rfl (argsL := [.int i4, .ref l_582]) rfl (lenOf pd34 rfl) (W := 1) rfl (by decide) (by decide) (by decide) at_92 rfl ?_
 intro v586 T586 h586 X586 U586
 obtain ⟨q_586, y_586, ky_586, rfl, u586_0, u586_1, u586_2, u586_3, u586_4, u586_5, u586_6⟩ := U586
 show oGoes pp ee bb ss Z T586 (mkF mm 95 _ [.ref b581]) _ _ _
 refine o_astore K X586 at_95 rfl rfl (L' := #[vI i0, vI i1, vI i2, vJ i3, sS, vI i4, vI i5, vI 3, vI 3, vI 1, vI 0, vI 3, vI ((i1 &&& (2147483647 : Int32)) % (3 : Int32)), vR b581, uS, uS, uS, uS, uS]) rfl ?_
 refine o_iload K X586 at_97 rfl rfl ?_
 refine o_if_eq_t K X586 at_99 (by decide) (pc' := 106) (by decide) (by decide) ?_
 refine o_new K X586 (w1 hw) (w2 hw) (w3 hw) at_106 rfl (by decide) (by decide) ?_
 intro T587 h587 b587 X587 g587 E587 A587 D587 G587
 have F587_line : Fld Z h587 b587 z2 "line" "I" (.int 0) := (D587 (Or.inr (w193 hw)) (ty := .int) (by decide))
 have F587_fields : Fld Z h587 b587 z2 "fields" z11 .null := (D587 (Or.inr (w195 hw)) (ty := (.object z7)) (by decide))
 refine o_dup K X587 at_109 rfl rfl ?_
 refine o_iload K X587 at_110 rfl rfl ?_
 refine o_bipush K X587 at_112 rfl (z := 100) rfl ?_
 refine o_iload K X587 at_114 rfl rfl ?_
 refine o_lloadN K X587 at_116 rfl rfl ?_
 refine o_iconst K X587 at_117 rfl (z := 3) rfl ?_
 refine o_static K X587  (w4 hw) (w5 hw) (w6 hw) (w7 hw) (by decide) (rm_fields100_3 l Z a0 hw i3 cs dce kd h587 q0 q1 q2 q3) (by decide) rfl (argsL := [.int 100, .int 3, (.long i3), .int 3]) rfl (lenOf pd33 rfl) (W := 3) rfl (by decide) (by decide) (by decide) at_118 rfl ?_
 intro v588 T588 h588 X588 U588
 obtain ⟨l_588, r_588, kr_588, m_588, s0_588, vz0_588, kz0_588, s1_588, vz1_588, kz1_588, s2_588, vz2_588, kz2_588, rfl, u588_0, u588_1, u588_2, u588_3, u588_4, u588_5, u588_6, u588_7, u588_8, u588_9, u588_10, u588_11, u588_12, u588_13, u588_14, u588_15, u588_16, u588_17, u588_18, u588_19, u588_20, u588_21, u588_22, u588_23, u588_24⟩ := U588
 have G588_l : Z.heap.size ≤ l_588 := Nat.le_trans X587.ext0.1 u588_1
 have G588_r : Z.heap.size ≤ r_588 := Nat.le_trans X587.ext0.1 u588_6
 have G588_s0 : Z.heap.size ≤ s0_588 := Nat.le_trans X587.ext0.1 u588_10
 have G588_s1 : Z.heap.size ≤ s1_588 := Nat.le_trans X587.ext0.1 u588_11
 have G588_s2 : Z.heap.size ≤ s2_588 := Nat.le_trans X587.ext0.1 u588_12
 show oGoes pp ee bb ss Z T588 (mkF mm 121 _ [.ref l_588, .int i5, .ref b587, .ref b587]) _ _ _
 have m589 := (A587.keep u588_0)
 have m590 := (F587_line.keep u588_0 nin0)
 have m591 := (F587_fields.keep u588_0 nin0)
 refine o_special K X588 (y := (⟨z2, "<init>", z15⟩ : MethodName)) rfl (w97 hw) (w98 hw) (w3 hw) (w99 hw) (by decide) (rm_crow3 l Z a0 hw b587 i5 l_588 r_588 kr_588 s0_588 s1_588 s2_588 mr h588 m589 m590 m591 G587 u588_2 u588_3 u588_4 u588_7 u588_8 u588_13 u588_17 u588_21 q4) (by decide) rfl (argsL := [.int i5, .ref l_588]) rfl (lenOf pd34 rfl) (W := 1) rfl (by decide) (by decide) (by decide) at_121 rfl ?_
 intro v592 T592 h592 X592 U592
 obtain ⟨q_592, y_592, ky_592, rfl, u592_0, u592_1, u592_2, u592_3, u592_4, u592_5, u592_6⟩ := U592
 show oGoes pp ee bb ss Z T592 (mkF mm 124 _ [.ref b587]) _ _ _
 refine o_astore K X592 at_124 rfl rfl (L' := #[vI i0, vI i1, vI i2, vJ i3, sS, vI i4, vI i5, vI 3, vI 3, vI 1, vI 0, vI 3, vI ((i1 &&& (2147483647 : Int32)) % (3 : Int32)), vR b581, vR b587, uS, uS, uS, uS]) rfl ?_
 have m594 := (u588_13.keep u592_0)
 have n595 := oLsz A587.lt u588_10
 have m596 := (u588_14.keep u592_0 (ninS n595 nin0))
 have m597 := (u588_15.keep u592_0 (ninS n595 nin0))
 have n598 : vz0_588 ≠ b587 := (oNeArr (A587.keep u588_0) (w2 hw) u588_16)
 have m599 := (u588_16.keep u592_0 (ninS n598 nin0))
 have m600 := (u588_17.keep u592_0)
 have n601 := oLsz A587.lt u588_11
 have m602 := (u588_18.keep u592_0 (ninS n601 nin0))
 have m603 := (u588_19.keep u592_0 (ninS n601 nin0))
 have n604 : vz1_588 ≠ b587 := (oNeArr (A587.keep u588_0) (w2 hw) u588_20)
 have m605 := (u588_20.keep u592_0 (ninS n604 nin0))
 have m606 := (u588_21.keep u592_0)
 have n607 := oLsz A587.lt u588_12
 have m608 := (u588_22.keep u592_0 (ninS n607 nin0))
 have m609 := (u588_23.keep u592_0 (ninS n607 nin0))
 have n610 : vz2_588 ≠ b587 := (oNeArr (A587.keep u588_0) (w2 hw) u588_24)
 have m611 := (u588_24.keep u592_0 (ninS n610 nin0))
 refine tl_lw1_3 l Z a0 hw i0 i1 i2 i3 i4 i5 3 3 3 ((i1 &&& (2147483647 : Int32)) % (3 : Int32)) b581 b587 q_592 y_592 ky_592 s0_588 vz0_588 kz0_588 s1_588 vz1_588 kz1_588 s2_588 vz2_588 kz2_588 cs h592 (oR3 i1) u592_1 u592_3 u592_4 u592_5 u592_6 m594 m596 m597 m599 m600 m602 m603 m605 m606 m608 m609 m611 G588_s0 G588_s1 G588_s2 q0 q1 (fun v593 h593 U593 => ?_) K (X592.mono (by decide) (by decide))
 obtain rfl : v593 = some (.int 1) := U593
 exact rfl
set_option maxRecDepth 65536 in
set_option maxHeartbeats 40000000 in
theorem comes_1 {Post : Tables → Env → Array Value → State → Outcome → State → Prop} (hpost : ∀ tb e args s v u, (limb_1_1.after args s (.returned v) u = true ∧ limb_1_2.after args s (.returned v) u = true ∧ True) → FrameEnd s (.returned v) u (Jvm.fieldLocs frame_1_writes args s ++ Jvm.arrayLocs frame_1_arrays args s ++ Jvm.staticLocs frame_1_statics s) 88 320 → Post tb e args s (.returned v) u) :
    ArmFor flags0 classFile x code maxLocals ret World_1 tables_1 room_1 Calls_1 rest_1 Pre_1 Post := by
  intro l hfl _ _ p e ha hc hk s m args below hf hA hF happ hP
  obtain ⟨hcalls, hrest, hpre⟩ := hP
  obtain ⟨-, -, -, hnamed, -, -, -, hat⟩ := (Spec.applies_iff hf).mp happ
  obtain ⟨hg, hn⟩ := and_e (Cond.before_iff.mp (show (Jvm.Cond.and given_1 narrow_1).before args s = true from hpre))
  obtain ⟨g0, gr0⟩ := and_e hg
  obtain ⟨g1, gr1⟩ := and_e gr0
  obtain ⟨g2, gr2⟩ := and_e gr1
  obtain ⟨g3, gr3⟩ := and_e gr2
  obtain ⟨g4, gr4⟩ := and_e gr3
  obtain ⟨g5, gr5⟩ := and_e gr4
  obtain ⟨w_0, w_1, w_2, w_3, w_4, w_5, rfl⟩ : ∃ w_0 w_1 w_2 w_3 w_4 w_5 : Value, args = #[w_0, w_1, w_2, w_3, w_4, w_5] := by
    have hs : args.size = 6 := by simpa [Jvm.Cond.value] using g0
    obtain ⟨L⟩ := args
    match L, hs with
    | [w_0, w_1, w_2, w_3, w_4, w_5], _ => exact ⟨w_0, w_1, w_2, w_3, w_4, w_5, rfl⟩
  have hw : oHw s #[w_0, w_1, w_2, w_3, w_4, w_5] := fun d (hd : d ∈ tables_1) => atoms_spec (ws := Jvm.Cond.code x code maxLocals ret :: tables_1) hat d (List.mem_cons_of_mem _ hd)
  have hfit : Fit s := fun {y c} hc i hi => by
    obtain ⟨ha, rfl⟩ := Array.getElem?_eq_some_iff.mp hc
    have q := List.all_eq_true.mp ((Array.all_eq_true_iff_forall_mem.mp hF) _ (Array.getElem_mem ha)) i (List.mem_range.mpr hi)
    simpa [Array.getElem?_eq_getElem hi] using q
  obtain ⟨hsets, hown0⟩ := atoms_of _ (rest_1_c_eq ▸ (show rest_1_c.before _ s = true from hrest))
  obtain ⟨i0, ei0⟩ := is_v g1
  obtain rfl : w_0 = (.int i0) := Option.some.inj ei0
  obtain ⟨i1, ei1⟩ := is_v g2
  obtain rfl : w_1 = (.int i1) := Option.some.inj ei1
  obtain ⟨i2, ei2⟩ := is_v g3
  obtain rfl : w_2 = (.int i2) := Option.some.inj ei2
  obtain ⟨i3, ei3⟩ := isL_v g4
  obtain rfl : w_3 = (.long i3) := Option.some.inj ei3
  obtain ⟨i4, ei4⟩ := is_v g5
  obtain rfl : w_4 = (.int i4) := Option.some.inj ei4
  obtain ⟨i5, ei5⟩ := is_v gr5
  obtain rfl : w_5 = (.int i5) := Option.some.inj ei5
  obtain ⟨cs, ecs⟩ := is_v (Cond.before_iff.mp (hsets _ (List.mem_of_getElem? (i := 10) rfl)))
  have Scs := Sta.start ecs (Or.inl (hsets _ (List.mem_of_getElem? (i := 9) rfl)))
  have ncs : ¬ (cs = (0 : Int32)) := oNeInt_v ecs (Cond.before_iff.mp (hsets _ (List.mem_of_getElem? (i := 11) rfl)))
  have dx1 := Cond.before_iff.mp (hsets _ (List.mem_of_getElem? (i := 6) rfl))
  have dx2 := Cond.before_iff.mp (hsets _ (List.mem_of_getElem? (i := 8) rfl))
  obtain ⟨dce, ed, Sd⟩ := oStaRef dx1 (Or.inr ⟨(w10 hw), (hsets _ (List.mem_of_getElem? (i := 2) rfl))⟩)
  obtain ⟨kd, vd, Fd, ld⟩ := oArr_start hfit ed dx1 dx2 (by decide) (n := 0) (by decide)
  obtain rfl : vd = [] := List.eq_nil_of_length_eq_zero ld
  obtain ⟨em, eem, Xem⟩ := own_exactly (Cond.before_iff.mp (hsets _ (List.mem_of_getElem? (i := 20) rfl)))
  have Sem := Sta.start eem (Or.inl (hsets _ (List.mem_of_getElem? (i := 19) rfl)))
  obtain ⟨mc_, mk_, mr, mm1, mm2, mm3, -⟩ := hcalls.1
  have Mr : oMir s z5 mr := ⟨mc_, mk_, mm1, mm2, mm3⟩
  obtain ⟨n, o, h1, h2, h3, v, L, rfl, ⟨hQ, N, E⟩, hq⟩ := rm_law l s _ hw i0 i1 i2 i3 i4 i5 cs dce kd mr em s.heap Scs ncs Sd Fd Mr Sem Xem tables_1 ⟨Nat.le_refl _, fun _ _ q => q⟩ p e ha hc hk s m _ below hf ((Spec.applies_iff_loose hf).mp happ).1 ⟨rfl, State.Warmed39.refl s, rfl⟩ trivial
  obtain rfl : v = some (.int 1) := hQ
  refine ⟨n, _, h1, h2, h3, hpost _ _ _ _ _ _ ⟨Cond.after_iff.mpr rfl, Cond.after_iff.mpr (eq_i res_at (Term.int_eval (1)) rfl), trivial⟩ ⟨hq.1, hq.2.1, (hq.2.2.sift fun y hy => Or.inr (N y hy)).mono (by decide) (by decide)⟩⟩
theorem main_1_1 : Claimed_1_1 := comes_1 fun _ _ _ _ _ _ h hF => ⟨h.1, hF⟩
theorem main_1_2 : Claimed_1_2 := comes_1 fun _ _ _ _ _ _ h hF => ⟨h.2.1, hF⟩
end Jvm.Pilot.@@N@@
namespace Jvm.Pilot.@@N@@
open Jvm Jvm.ClassFile Sem Op Lib Jvm.Free Jvm.Stand Jvm.Pilot.@@N@@.Jvm.D
/-! MADE BY PROGRAM (witnessworld.py) out of the Statement's table words and the real class files: 42 classes; the members and pool entries that the words name. The judged class is class 1, her method 3. -/
namespace start1
open Jvm.ClassFile
def u (s : String) : CpInfo := .utf8 (stringToUtf16 s)
/-- a pool by its gaps: so many unusable entries, then the entry; so many at the end -/
def gap : Nat → List CpInfo → List CpInfo
  | 0, r => r
  | n + 1, r => .unusable :: gap n r
def poolList (es : List (Nat × CpInfo)) (last : Nat) : List CpInfo := es.foldr (fun e r => gap e.1 (e.2 :: r)) (gap last [])
def pool (es : List (Nat × CpInfo)) (last : Nat) : Array CpInfo := ⟨poolList es last⟩
def fileOf (pool : Array CpInfo) (this : Nat) (attrs : Array Attribute := #[]) (ms : Array MethodInfo := #[]) (fl : Nat := 33) (sup : Nat := 0) (ifs : Array Nat := #[]) (fds : Array FieldInfo := #[]) : ClassFile where
  minorVersion := 0
  majorVersion := 65
  constantPool := pool
  accessFlags := fl
  thisClass := this
  superClass := sup
  interfaces := ifs
  fields := fds
  methods := ms
  attributes := attrs
def plain (name : String) (sup : Option ClassId) : Class where
  name := name
  kind := .ordinary
  loader := none
  accessFlags := 33
  super := sup
  interfaces := #[]
  cf := none
  fields := #[]
  methods := #[]
  instanceTypes := #[]
  staticTypes := #[]
  resolved := #[]
  callSites := []
  init := .initialized
  statics := none
  mirror := none

def pool0 : Array CpInfo := pool [(5, u "<init>"), (0, u "()V"), (1, .class_ 10), (1, u "java/lang/Object"), (0, u "getClass"), (0, u "()Ljava/lang/Class;")] 111

def k0c0 : Code := { maxStack := 0, maxLocals := 1, code := object_method_1_code, exceptionTable := #[], attributes := #[] }
def k0m0 : Method := { name := "<init>", desc := "()V", sig := { parameters := [], returnType := none }, accessFlags := 1, code := some k0c0 }
def k0m1 : Method := { name := "getClass", desc := "()Ljava/lang/Class;", sig := { parameters := [], returnType := some (.object "java/lang/Class") }, accessFlags := 273, code := none }
/-- java/lang/Object -/
def k0 : Class := { plain "java/lang/Object" none with
  accessFlags := 33
  interfaces := #[]
  cf := some (fileOf pool0 8 #[] #[{ accessFlags := 1, nameIndex := 5, descriptorIndex := 6, attributes := #[] }, { accessFlags := 273, nameIndex := 11, descriptorIndex := 12, attributes := #[] }] 33 0 #[] #[])
  fields := #[]
  methods := #[k0m0, k0m1]
  instanceTypes := #[]
  staticTypes := #[]
  resolved := Array.replicate 124 none
  statics := none }

def pool1 : Array CpInfo := pool [(2, .class_ 4), (0, .nameAndType 5 6), (0, u "java/lang/Object"), (0, u "<init>"), (0, u "()V"), (0, .class_ 8), (0, u "java/lang/String"), (0, .long 255), (1, .methodref 7 12), (0, .nameAndType 5 13), (0, u "([C)V"), (0, .class_ 15), (0, u "java/util/ArrayList"), (0, .methodref 14 3), (0, .methodref 18 19), (0, .class_ 20), (0, .nameAndType 21 22), (0, u "com/example/latticube/latticube/spacefile/RowValuePinLaw"), (0, u "field"), (0, u "(CJI)Ljava/lang/String;"), (0, .methodref 14 24), (0, .nameAndType 25 26), (0, u "add"), (0, u "(Ljava/lang/Object;)Z"), (0, .integer 2147483647), (0, .class_ 29), (0, u "com/example/latticube/latticube/csv/CsvTable$Row"), (0, .methodref 18 31), (0, .nameAndType 32 33), (0, u "fields"), (0, u "(CIJI)Ljava/util/ArrayList;"), (0, .methodref 28 35), (0, .nameAndType 5 36), (0, u "(ILjava/util/List;)V"), (0, .class_ 38), (0, u "com/example/latticube/latticube/spacefile/DimensionTable$Column"), (0, .methodref 7 40), (0, .nameAndType 41 42), (0, u "valueOf"), (0, u "(C)Ljava/lang/String;"), (0, .methodref 37 44), (0, .nameAndType 5 45), (0, u "(Ljava/lang/String;IZ)V"), (0, .class_ 47), (0, u "com/example/latticube/latticube/spacefile/DimensionTable$Row"), (0, .methodref 46 49), (0, .nameAndType 5 50), (0, u "(Lcom/example/latticube/latticube/csv/CsvTable$Row;Lcom/example/latticube/latticube/csv/CsvTable$Row;)V"), (0, .methodref 46 52), (0, .nameAndType 53 54), (0, u "value"), (0, u "(Lcom/example/latticube/latticube/spacefile/DimensionTable$Column;)Ljava/lang/String;"), (0, .methodref 7 56), (0, .nameAndType 57 26), (0, u "equals"), (5, u "law"), (0, u "(IIIJII)Z")] 9

def k1m0 : Method := { name := "<init>", desc := "()V", sig := { parameters := [], returnType := none }, accessFlags := 1, code := none }
def k1c1 : Code := { maxStack := 9, maxLocals := 4, code := method_2_code, exceptionTable := #[], attributes := #[] }
def k1m1 : Method := { name := "field", desc := "(CJI)Ljava/lang/String;", sig := { parameters := [.char, .long, .int], returnType := some (.object "java/lang/String") }, accessFlags := 10, code := some k1c1 }
def k1c2 : Code := { maxStack := 6, maxLocals := 6, code := method_3_code, exceptionTable := #[], attributes := #[] }
def k1m2 : Method := { name := "fields", desc := "(CIJI)Ljava/util/ArrayList;", sig := { parameters := [.char, .int, .long, .int], returnType := some (.object "java/util/ArrayList") }, accessFlags := 10, code := some k1c2 }
def k1c3 : Code := { maxStack := 8, maxLocals := 19, code := code, exceptionTable := #[], attributes := #[] }
def k1m3 : Method := { name := "law", desc := "(IIIJII)Z", sig := { parameters := [.int, .int, .int, .long, .int, .int], returnType := some .boolean }, accessFlags := 9, code := some k1c3 }
/-- com/example/latticube/latticube/spacefile/RowValuePinLaw -/
def k1 : Class := { plain "com/example/latticube/latticube/spacefile/RowValuePinLaw" (some 0) with
  accessFlags := 49
  interfaces := #[]
  cf := some (fileOf pool1 18 #[] #[{ accessFlags := 1, nameIndex := 5, descriptorIndex := 6, attributes := #[] }, { accessFlags := 10, nameIndex := 21, descriptorIndex := 22, attributes := #[] }, { accessFlags := 10, nameIndex := 32, descriptorIndex := 33, attributes := #[] }, { accessFlags := 9, nameIndex := 63, descriptorIndex := 64, attributes := #[] }] 49 2 #[] #[])
  fields := #[]
  methods := #[k1m0, k1m1, k1m2, k1m3]
  instanceTypes := #[]
  staticTypes := #[]
  resolved := Array.replicate 74 none
  statics := none }

def pool2 : Array CpInfo := pool [(1, .methodref 2 3), (0, .class_ 4), (0, .nameAndType 5 6), (0, u "java/lang/Object"), (0, u "<init>"), (0, u "()V"), (0, .class_ 8), (0, u "java/lang/Record")] 13

def k2c0 : Code := { maxStack := 1, maxLocals := 1, code := jdk_30_method_1_code, exceptionTable := #[], attributes := #[] }
def k2m0 : Method := { name := "<init>", desc := "()V", sig := { parameters := [], returnType := none }, accessFlags := 4, code := some k2c0 }
/-- java/lang/Record -/
def k2 : Class := { plain "java/lang/Record" (some 0) with
  accessFlags := 1057
  interfaces := #[]
  cf := some (fileOf pool2 7 #[] #[{ accessFlags := 4, nameIndex := 5, descriptorIndex := 6, attributes := #[] }] 1057 2 #[] #[])
  fields := #[]
  methods := #[k2m0]
  instanceTypes := #[]
  staticTypes := #[]
  resolved := Array.replicate 22 none
  statics := none }

def pool3 : Array CpInfo := pool [(1, .methodref 2 3), (0, .class_ 4), (0, .nameAndType 5 6), (0, u "java/lang/Record"), (0, u "<init>"), (0, u "()V"), (0, .interfaceMethodref 8 9), (0, .class_ 10), (0, .nameAndType 11 12), (0, u "java/util/List"), (0, u "copyOf"), (0, u "(Ljava/util/Collection;)Ljava/util/List;"), (0, .fieldref 14 15), (0, .class_ 16), (0, .nameAndType 17 18), (0, u "com/example/latticube/latticube/csv/CsvTable$Row"), (0, u "line"), (0, u "I"), (0, .fieldref 14 20), (0, .nameAndType 21 22), (0, u "fields"), (0, u "Ljava/util/List;"), (14, u "(ILjava/util/List;)V"), (7, u "()Ljava/util/List;"), (4, .class_ 51), (0, u "com/example/latticube/latticube/csv/CsvTable")] 20

def k3c0 : Code := { maxStack := 2, maxLocals := 3, code := prog_28_method_1_code, exceptionTable := #[], attributes := #[] }
def k3m0 : Method := { name := "<init>", desc := "(ILjava/util/List;)V", sig := { parameters := [.int, (.object "java/util/List")], returnType := none }, accessFlags := 1, code := some k3c0 }
def k3c1 : Code := { maxStack := 1, maxLocals := 1, code := prog_28_method_6_code, exceptionTable := #[], attributes := #[] }
def k3m1 : Method := { name := "fields", desc := "()Ljava/util/List;", sig := { parameters := [], returnType := some (.object "java/util/List") }, accessFlags := 1, code := some k3c1 }
/-- com/example/latticube/latticube/csv/CsvTable$Row -/
def k3 : Class := { plain "com/example/latticube/latticube/csv/CsvTable$Row" (some 2) with
  accessFlags := 49
  interfaces := #[]
  cf := some (fileOf pool3 14 #[.nestHost 50] #[{ accessFlags := 1, nameIndex := 5, descriptorIndex := 37, attributes := #[] }, { accessFlags := 1, nameIndex := 21, descriptorIndex := 45, attributes := #[] }] 49 2 #[] #[{ accessFlags := 18, nameIndex := 17, descriptorIndex := 18, attributes := #[] }, { accessFlags := 18, nameIndex := 21, descriptorIndex := 22, attributes := #[] }])
  fields := #[{ name := "line", type := .int, accessFlags := 18, slot := 0, constantValue := 0 }, { name := "fields", type := (.object "java/util/List"), accessFlags := 18, slot := 1, constantValue := 0 }]
  methods := #[k3m0, k3m1]
  instanceTypes := #[.int, (.object "java/util/List")]
  staticTypes := #[]
  resolved := Array.replicate 72 none
  statics := none }

def pool4 : Array CpInfo := pool [(8, .class_ 10), (1, u "java/lang/Iterable"), (24, .class_ 36), (0, u "java/lang/Object")] 25

/-- java/lang/Iterable -/
def k4 : Class := { plain "java/lang/Iterable" (some 0) with
  accessFlags := 1537
  interfaces := #[]
  cf := some (fileOf pool4 8 #[] #[] 1537 35 #[] #[])
  fields := #[]
  methods := #[]
  instanceTypes := #[]
  staticTypes := #[]
  resolved := Array.replicate 62 none
  statics := none }

def pool5 : Array CpInfo := pool [(10, .class_ 12), (1, u "java/util/Collection"), (0, u "toArray"), (16, u "()Z"), (29, .class_ 61), (0, u "java/lang/Object"), (0, .class_ 63), (0, u "java/lang/Iterable"), (2, u "isEmpty"), (3, u "()[Ljava/lang/Object;")] 44

def k5m0 : Method := { name := "isEmpty", desc := "()Z", sig := { parameters := [], returnType := some .boolean }, accessFlags := 1025, code := none }
def k5m1 : Method := { name := "toArray", desc := "()[Ljava/lang/Object;", sig := { parameters := [], returnType := some (.array (.object "java/lang/Object")) }, accessFlags := 1025, code := none }
/-- java/util/Collection -/
def k5 : Class := { plain "java/util/Collection" (some 0) with
  accessFlags := 1537
  interfaces := #[4]
  cf := some (fileOf pool5 10 #[] #[{ accessFlags := 1025, nameIndex := 66, descriptorIndex := 30, attributes := #[] }, { accessFlags := 1025, nameIndex := 13, descriptorIndex := 70, attributes := #[] }] 1537 60 #[62] #[])
  fields := #[]
  methods := #[k5m0, k5m1]
  instanceTypes := #[]
  staticTypes := #[]
  resolved := Array.replicate 115 none
  statics := none }

def pool6 : Array CpInfo := pool [(1, .methodref 2 3), (0, .class_ 4), (0, .nameAndType 5 6), (0, u "java/lang/Object"), (0, u "<init>"), (0, u "()V"), (1, .class_ 10), (1, u "java/util/AbstractCollection"), (66, .class_ 78), (0, u "java/util/Collection")] 81

def k6c0 : Code := { maxStack := 1, maxLocals := 1, code := jdk_22_method_1_code, exceptionTable := #[], attributes := #[] }
def k6m0 : Method := { name := "<init>", desc := "()V", sig := { parameters := [], returnType := none }, accessFlags := 4, code := some k6c0 }
/-- java/util/AbstractCollection -/
def k6 : Class := { plain "java/util/AbstractCollection" (some 0) with
  accessFlags := 1057
  interfaces := #[5]
  cf := some (fileOf pool6 8 #[] #[{ accessFlags := 4, nameIndex := 5, descriptorIndex := 6, attributes := #[] }] 1057 2 #[77] #[])
  fields := #[]
  methods := #[k6m0]
  instanceTypes := #[]
  staticTypes := #[]
  resolved := Array.replicate 160 none
  statics := none }

def pool7 : Array CpInfo := pool [(8, .class_ 10), (1, u "java/util/SequencedCollection"), (15, .class_ 27), (0, u "java/lang/Object"), (0, .class_ 29), (0, u "java/util/Collection")] 27

/-- java/util/SequencedCollection -/
def k7 : Class := { plain "java/util/SequencedCollection" (some 0) with
  accessFlags := 1537
  interfaces := #[5]
  cf := some (fileOf pool7 8 #[] #[] 1537 26 #[28] #[])
  fields := #[]
  methods := #[]
  instanceTypes := #[]
  staticTypes := #[]
  resolved := Array.replicate 57 none
  statics := none }

def pool8 : Array CpInfo := pool [(8, .class_ 10), (1, u "java/util/List"), (20, u "(Ljava/lang/Object;)V"), (16, u "<init>"), (26, u "get"), (0, u "(I)Ljava/lang/Object;"), (11, u "of"), (2, .class_ 93), (1, u "java/util/ImmutableCollections"), (2, .class_ 97), (0, u "java/util/ImmutableCollections$List12"), (0, .methodref 96 99), (0, .nameAndType 48 31), (0, .methodref 96 101), (0, .nameAndType 48 102), (0, u "(Ljava/lang/Object;Ljava/lang/Object;)V"), (0, .class_ 104), (0, u "java/lang/Object"), (3, u "([Ljava/lang/Object;)Ljava/util/List;"), (0, .methodref 91 110), (0, .nameAndType 111 108), (0, u "listFromArray"), (0, .methodref 91 113), (0, .nameAndType 114 115), (0, u "listCopy"), (0, u "(Ljava/util/Collection;)Ljava/util/List;"), (4, .class_ 121), (0, u "java/util/SequencedCollection"), (112, u "copyOf")] 16

def k8m0 : Method := { name := "get", desc := "(I)Ljava/lang/Object;", sig := { parameters := [.int], returnType := some (.object "java/lang/Object") }, accessFlags := 1025, code := none }
def k8c1 : Code := { maxStack := 5, maxLocals := 2, code := jdk_40_method_47_code, exceptionTable := #[], attributes := #[] }
def k8m1 : Method := { name := "of", desc := "([Ljava/lang/Object;)Ljava/util/List;", sig := { parameters := [(.array (.object "java/lang/Object"))], returnType := some (.object "java/util/List") }, accessFlags := 137, code := some k8c1 }
def k8c2 : Code := { maxStack := 1, maxLocals := 1, code := jdk_40_method_48_code, exceptionTable := #[], attributes := #[] }
def k8m2 : Method := { name := "copyOf", desc := "(Ljava/util/Collection;)Ljava/util/List;", sig := { parameters := [(.object "java/util/Collection")], returnType := some (.object "java/util/List") }, accessFlags := 9, code := some k8c2 }
/-- java/util/List -/
def k8 : Class := { plain "java/util/List" (some 0) with
  accessFlags := 1537
  interfaces := #[7]
  cf := some (fileOf pool8 8 #[] #[{ accessFlags := 1025, nameIndex := 75, descriptorIndex := 76, attributes := #[] }, { accessFlags := 137, nameIndex := 88, descriptorIndex := 108, attributes := #[] }, { accessFlags := 9, nameIndex := 234, descriptorIndex := 115, attributes := #[] }] 1537 103 #[120] #[])
  fields := #[]
  methods := #[k8m0, k8m1, k8m2]
  instanceTypes := #[]
  staticTypes := #[]
  resolved := Array.replicate 251 none
  statics := none }

def pool9 : Array CpInfo := pool [(1, .methodref 2 3), (0, .class_ 4), (0, .nameAndType 5 6), (0, u "java/util/AbstractCollection"), (0, u "<init>"), (0, u "()V"), (0, .fieldref 8 9), (0, .class_ 10), (0, .nameAndType 11 12), (0, u "java/util/AbstractList"), (0, u "modCount"), (0, u "I"), (64, .class_ 78), (0, u "java/util/AbstractList$Itr"), (3, .class_ 83), (0, u "java/util/AbstractList$ListItr"), (9, .class_ 94), (0, u "java/util/AbstractList$RandomAccessSubList"), (3, .class_ 99), (0, u "java/util/AbstractList$SubList"), (33, .class_ 134), (0, u "java/util/List"), (73, .class_ 209), (0, u "java/util/AbstractList$SubList$1"), (0, .class_ 211), (0, u "java/util/AbstractList$RandomAccessSpliterator")] 6

def k9c0 : Code := { maxStack := 2, maxLocals := 1, code := jdk_39_method_1_code, exceptionTable := #[], attributes := #[] }
def k9m0 : Method := { name := "<init>", desc := "()V", sig := { parameters := [], returnType := none }, accessFlags := 4, code := some k9c0 }
/-- java/util/AbstractList -/
def k9 : Class := { plain "java/util/AbstractList" (some 6) with
  accessFlags := 1057
  interfaces := #[8]
  cf := some (fileOf pool9 8 #[.nestMembers #[93, 98, 208, 210, 82, 77]] #[{ accessFlags := 4, nameIndex := 5, descriptorIndex := 6, attributes := #[] }] 1057 2 #[133] #[{ accessFlags := 132, nameIndex := 11, descriptorIndex := 12, attributes := #[] }])
  fields := #[{ name := "modCount", type := .int, accessFlags := 132, slot := 0, constantValue := 0 }]
  methods := #[k9m0]
  instanceTypes := #[.int]
  staticTypes := #[]
  resolved := Array.replicate 218 none
  statics := none }

def pool10 : Array CpInfo := pool [(1, .class_ 2), (0, u "java/util/RandomAccess"), (0, .class_ 4), (0, u "java/lang/Object")] 2

/-- java/util/RandomAccess -/
def k10 : Class := { plain "java/util/RandomAccess" (some 0) with
  accessFlags := 1537
  interfaces := #[]
  cf := some (fileOf pool10 1 #[] #[] 1537 3 #[] #[])
  fields := #[]
  methods := #[]
  instanceTypes := #[]
  staticTypes := #[]
  resolved := Array.replicate 7 none
  statics := none }

def pool11 : Array CpInfo := pool [(1, .class_ 2), (0, u "java/lang/Cloneable"), (0, .class_ 4), (0, u "java/lang/Object")] 2

/-- java/lang/Cloneable -/
def k11 : Class := { plain "java/lang/Cloneable" (some 0) with
  accessFlags := 1537
  interfaces := #[]
  cf := some (fileOf pool11 1 #[] #[] 1537 3 #[] #[])
  fields := #[]
  methods := #[]
  instanceTypes := #[]
  staticTypes := #[]
  resolved := Array.replicate 7 none
  statics := none }

def pool12 : Array CpInfo := pool [(1, .class_ 2), (0, u "java/io/Serializable"), (0, .class_ 4), (0, u "java/lang/Object")] 2

/-- java/io/Serializable -/
def k12 : Class := { plain "java/io/Serializable" (some 0) with
  accessFlags := 1537
  interfaces := #[]
  cf := some (fileOf pool12 1 #[] #[] 1537 3 #[] #[])
  fields := #[]
  methods := #[]
  instanceTypes := #[]
  staticTypes := #[]
  resolved := Array.replicate 7 none
  statics := none }

def pool13 : Array CpInfo := pool [(1, .methodref 2 3), (0, .class_ 4), (0, .nameAndType 5 6), (0, u "java/util/AbstractList"), (0, u "<init>"), (0, u "()V"), (0, .class_ 8), (0, u "java/lang/Object"), (0, .fieldref 10 11), (0, .class_ 12), (0, .nameAndType 13 14), (0, u "java/util/ArrayList"), (0, u "elementData"), (0, u "[Ljava/lang/Object;"), (2, u "EMPTY_ELEMENTDATA"), (21, .fieldref 10 40), (0, .nameAndType 41 14), (0, u "DEFAULTCAPACITY_EMPTY_ELEMENTDATA"), (4, u "toArray"), (0, u "()[Ljava/lang/Object;"), (0, .fieldref 10 49), (0, .nameAndType 50 51), (0, u "size"), (0, u "I"), (6, .class_ 60), (1, u "java/util/Arrays"), (0, u "copyOf"), (1, .fieldref 10 64), (0, .nameAndType 65 51), (0, u "modCount"), (0, .methodref 58 67), (0, .nameAndType 61 68), (0, u "([Ljava/lang/Object;I)[Ljava/lang/Object;"), (0, .methodref 10 70), (0, .nameAndType 71 72), (0, u "grow"), (0, u "(I)[Ljava/lang/Object;"), (6, .methodref 80 81), (0, .class_ 82), (0, .nameAndType 83 84), (0, u "java/lang/Math"), (0, u "max"), (0, u "(II)I"), (11, u "(Ljava/lang/Object;)Z"), (32, .methodref 10 130), (0, .nameAndType 71 47), (0, .methodref 10 132), (0, .nameAndType 133 134), (0, u "add"), (0, u "(Ljava/lang/Object;[Ljava/lang/Object;I)V"), (13, .class_ 149), (0, u "java/util/List"), (23, u "()Z"), (88, .class_ 263), (0, u "java/util/ArrayList$ListItr"), (3, .class_ 268), (0, u "java/util/ArrayList$Itr"), (7, .class_ 277), (0, u "java/util/ArrayList$SubList"), (12, .class_ 291), (0, u "java/util/ArrayList$ArrayListSpliterator"), (37, .class_ 330), (0, u "java/util/RandomAccess"), (0, .class_ 332), (0, u "java/lang/Cloneable"), (0, .class_ 334), (0, u "java/io/Serializable"), (0, u "serialVersionUID"), (0, u "J"), (3, u "DEFAULT_CAPACITY"), (22, u "isEmpty"), (136, .class_ 501), (0, u "java/util/ArrayList$SubList$2"), (0, .class_ 503), (0, u "java/util/ArrayList$SubList$1")] 5

def k13c0 : Code := { maxStack := 2, maxLocals := 1, code := jdk_38_method_2_code, exceptionTable := #[], attributes := #[] }
def k13m0 : Method := { name := "<init>", desc := "()V", sig := { parameters := [], returnType := none }, accessFlags := 1, code := some k13c0 }
def k13c1 : Code := { maxStack := 4, maxLocals := 4, code := jdk_38_method_6_code, exceptionTable := #[], attributes := #[] }
def k13m1 : Method := { name := "grow", desc := "(I)[Ljava/lang/Object;", sig := { parameters := [.int], returnType := some (.array (.object "java/lang/Object")) }, accessFlags := 2, code := some k13c1 }
def k13c2 : Code := { maxStack := 3, maxLocals := 1, code := jdk_38_method_7_code, exceptionTable := #[], attributes := #[] }
def k13m2 : Method := { name := "grow", desc := "()[Ljava/lang/Object;", sig := { parameters := [], returnType := some (.array (.object "java/lang/Object")) }, accessFlags := 2, code := some k13c2 }
def k13c3 : Code := { maxStack := 1, maxLocals := 1, code := jdk_38_method_9_code, exceptionTable := #[], attributes := #[] }
def k13m3 : Method := { name := "isEmpty", desc := "()Z", sig := { parameters := [], returnType := some .boolean }, accessFlags := 1, code := some k13c3 }
def k13c4 : Code := { maxStack := 2, maxLocals := 1, code := jdk_38_method_16_code, exceptionTable := #[], attributes := #[] }
def k13m4 : Method := { name := "toArray", desc := "()[Ljava/lang/Object;", sig := { parameters := [], returnType := some (.array (.object "java/lang/Object")) }, accessFlags := 1, code := some k13c4 }
def k13c5 : Code := { maxStack := 3, maxLocals := 4, code := jdk_38_method_24_code, exceptionTable := #[], attributes := #[] }
def k13m5 : Method := { name := "add", desc := "(Ljava/lang/Object;[Ljava/lang/Object;I)V", sig := { parameters := [(.object "java/lang/Object"), (.array (.object "java/lang/Object")), .int], returnType := none }, accessFlags := 2, code := some k13c5 }
def k13c6 : Code := { maxStack := 4, maxLocals := 2, code := jdk_38_method_25_code, exceptionTable := #[], attributes := #[] }
def k13m6 : Method := { name := "add", desc := "(Ljava/lang/Object;)Z", sig := { parameters := [(.object "java/lang/Object")], returnType := some .boolean }, accessFlags := 1, code := some k13c6 }
/-- java/util/ArrayList -/
def k13 : Class := { plain "java/util/ArrayList" (some 9) with
  accessFlags := 33
  interfaces := #[8, 10, 11, 12]
  cf := some (fileOf pool13 10 #[.nestMembers #[290, 276, 500, 502, 262, 267]] #[{ accessFlags := 1, nameIndex := 5, descriptorIndex := 6, attributes := #[] }, { accessFlags := 2, nameIndex := 71, descriptorIndex := 72, attributes := #[] }, { accessFlags := 2, nameIndex := 71, descriptorIndex := 47, attributes := #[] }, { accessFlags := 1, nameIndex := 363, descriptorIndex := 173, attributes := #[] }, { accessFlags := 1, nameIndex := 46, descriptorIndex := 47, attributes := #[] }, { accessFlags := 2, nameIndex := 133, descriptorIndex := 134, attributes := #[] }, { accessFlags := 1, nameIndex := 133, descriptorIndex := 96, attributes := #[] }] 33 2 #[148, 329, 331, 333] #[{ accessFlags := 26, nameIndex := 335, descriptorIndex := 336, attributes := #[] }, { accessFlags := 26, nameIndex := 340, descriptorIndex := 51, attributes := #[] }, { accessFlags := 26, nameIndex := 17, descriptorIndex := 14, attributes := #[] }, { accessFlags := 26, nameIndex := 41, descriptorIndex := 14, attributes := #[] }, { accessFlags := 128, nameIndex := 13, descriptorIndex := 14, attributes := #[] }, { accessFlags := 2, nameIndex := 50, descriptorIndex := 51, attributes := #[] }])
  fields := #[{ name := "serialVersionUID", type := .long, accessFlags := 26, slot := 0, constantValue := 0 }, { name := "DEFAULT_CAPACITY", type := .int, accessFlags := 26, slot := 1, constantValue := 0 }, { name := "EMPTY_ELEMENTDATA", type := (.array (.object "java/lang/Object")), accessFlags := 26, slot := 2, constantValue := 0 }, { name := "DEFAULTCAPACITY_EMPTY_ELEMENTDATA", type := (.array (.object "java/lang/Object")), accessFlags := 26, slot := 3, constantValue := 0 }, { name := "elementData", type := (.array (.object "java/lang/Object")), accessFlags := 128, slot := 1, constantValue := 0 }, { name := "size", type := .int, accessFlags := 2, slot := 2, constantValue := 0 }]
  methods := #[k13m0, k13m1, k13m2, k13m3, k13m4, k13m5, k13m6]
  instanceTypes := #[.int, (.array (.object "java/lang/Object")), .int]
  staticTypes := #[.long, .int, (.array (.object "java/lang/Object")), (.array (.object "java/lang/Object"))]
  resolved := Array.replicate 509 none
  statics := some 0 }

def pool14 : Array CpInfo := pool [(1, .class_ 2), (0, u "java/lang/Comparable"), (0, .class_ 4), (0, u "java/lang/Object")] 7

/-- java/lang/Comparable -/
def k14 : Class := { plain "java/lang/Comparable" (some 0) with
  accessFlags := 1537
  interfaces := #[]
  cf := some (fileOf pool14 1 #[] #[] 1537 3 #[] #[])
  fields := #[]
  methods := #[]
  instanceTypes := #[]
  staticTypes := #[]
  resolved := Array.replicate 12 none
  statics := none }

def pool15 : Array CpInfo := pool [(2, .class_ 4), (1, u "java/lang/CharSequence"), (42, .class_ 48), (0, u "java/lang/CharSequence$1CodePointIterator"), (10, .class_ 60), (0, u "java/lang/CharSequence$1CharIterator"), (5, .class_ 67), (0, u "java/lang/Object")] 63

/-- java/lang/CharSequence -/
def k15 : Class := { plain "java/lang/CharSequence" (some 0) with
  accessFlags := 1537
  interfaces := #[]
  cf := some (fileOf pool15 2 #[.nestMembers #[47, 59]] #[] 1537 66 #[] #[])
  fields := #[]
  methods := #[]
  instanceTypes := #[]
  staticTypes := #[]
  resolved := Array.replicate 131 none
  statics := none }

def pool16 : Array CpInfo := pool [(1, .class_ 2), (0, u "java/lang/constant/Constable"), (0, .class_ 4), (0, u "java/lang/Object")] 6

/-- java/lang/constant/Constable -/
def k16 : Class := { plain "java/lang/constant/Constable" (some 0) with
  accessFlags := 1537
  interfaces := #[]
  cf := some (fileOf pool16 1 #[] #[] 1537 3 #[] #[])
  fields := #[]
  methods := #[]
  instanceTypes := #[]
  staticTypes := #[]
  resolved := Array.replicate 11 none
  statics := none }

def pool17 : Array CpInfo := pool [(1, .class_ 2), (0, u "java/lang/constant/ConstantDesc"), (0, .class_ 4), (0, u "java/lang/Object")] 32

/-- java/lang/constant/ConstantDesc -/
def k17 : Class := { plain "java/lang/constant/ConstantDesc" (some 0) with
  accessFlags := 1537
  interfaces := #[]
  cf := some (fileOf pool17 1 #[] #[] 1537 3 #[] #[])
  fields := #[]
  methods := #[]
  instanceTypes := #[]
  staticTypes := #[]
  resolved := Array.replicate 37 none
  statics := none }

def pool18 : Array CpInfo := pool [(1, .methodref 2 3), (0, .class_ 4), (0, .nameAndType 5 6), (0, u "java/lang/Object"), (0, u "<init>"), (0, u "()V"), (2, .fieldref 10 11), (0, .class_ 12), (0, .nameAndType 13 14), (0, u "java/lang/String"), (0, u "value"), (0, u "[B"), (0, .fieldref 10 16), (0, .nameAndType 17 18), (0, u "coder"), (0, u "B"), (2, u "hash"), (0, u "I"), (2, u "hashIsZero"), (0, u "Z"), (0, .methodref 10 28), (0, .nameAndType 5 29), (0, u "([CIILjava/lang/Void;)V"), (8, .fieldref 10 39), (0, .nameAndType 40 26), (0, u "COMPACT_STRINGS"), (1, .class_ 44), (1, u "java/lang/StringUTF16"), (0, u "compress"), (1, .methodref 42 48), (0, .nameAndType 49 50), (0, u "coderFromArrayLen"), (0, u "([BI)B"), (2, u "toBytes"), (53, .class_ 109), (1, u "java/lang/StringLatin1"), (67, .methodref 42 178), (0, .nameAndType 45 179), (0, u "([CII)[B"), (29, .methodref 10 210), (0, .nameAndType 5 211), (0, u "([BB)V"), (157, u "(C)Z"), (171, .methodref 107 542), (0, .nameAndType 543 544), (0, u "equals"), (0, u "([B[B)Z"), (28, u "(Ljava/lang/Object;)Z"), (1, .class_ 576), (0, u "java/lang/CharSequence"), (22, u "CASE_INSENSITIVE_ORDER"), (0, u "Ljava/util/Comparator;"), (181, u "valueOf"), (0, u "(C)Ljava/lang/String;"), (226, u "([C)V"), (4, .methodref 107 1016), (0, .nameAndType 1017 369), (0, u "canEncode"), (0, .methodref 107 1019), (0, .nameAndType 53 1020), (0, u "(C)[B"), (80, u "serialPersistentFields"), (0, u "[Ljava/io/ObjectStreamField;"), (0, .class_ 1104), (0, u "java/lang/String$CaseInsensitiveComparator"), (1, .class_ 1107), (0, u "java/io/Serializable"), (0, .class_ 1109), (0, u "java/lang/Comparable"), (0, .class_ 1111), (0, u "java/lang/constant/Constable"), (0, .class_ 1113), (0, u "java/lang/constant/ConstantDesc"), (2, u "serialVersionUID"), (0, u "J"), (3, u "REPL"), (0, u "C"), (2, u "LATIN1"), (1, u "UTF16")] 323

def k18m0 : Method := { name := "<init>", desc := "()V", sig := { parameters := [], returnType := none }, accessFlags := 1, code := none }
def k18c1 : Code := { maxStack := 5, maxLocals := 2, code := jdk_42_method_3_code, exceptionTable := #[], attributes := #[] }
def k18m1 : Method := { name := "<init>", desc := "([C)V", sig := { parameters := [(.array .char)], returnType := none }, accessFlags := 1, code := some k18c1 }
def k18c2 : Code := { maxStack := 2, maxLocals := 3, code := jdk_42_method_66_code, exceptionTable := #[], attributes := #[] }
def k18m2 : Method := { name := "equals", desc := "(Ljava/lang/Object;)Z", sig := { parameters := [(.object "java/lang/Object")], returnType := some .boolean }, accessFlags := 1, code := some k18c2 }
def k18c3 : Code := { maxStack := 4, maxLocals := 1, code := jdk_42_method_139_code, exceptionTable := #[], attributes := #[] }
def k18m3 : Method := { name := "valueOf", desc := "(C)Ljava/lang/String;", sig := { parameters := [.char], returnType := some (.object "java/lang/String") }, accessFlags := 9, code := some k18c3 }
def k18c4 : Code := { maxStack := 4, maxLocals := 6, code := jdk_42_method_149_code, exceptionTable := #[], attributes := #[] }
def k18m4 : Method := { name := "<init>", desc := "([CIILjava/lang/Void;)V", sig := { parameters := [(.array .char), .int, .int, (.object "java/lang/Void")], returnType := none }, accessFlags := 2, code := some k18c4 }
def k18c5 : Code := { maxStack := 2, maxLocals := 3, code := jdk_42_method_151_code, exceptionTable := #[], attributes := #[] }
def k18m5 : Method := { name := "<init>", desc := "([BB)V", sig := { parameters := [(.array .byte), .byte], returnType := none }, accessFlags := 0, code := some k18c5 }
/-- java/lang/String -/
def k18 : Class := { plain "java/lang/String" (some 0) with
  accessFlags := 49
  interfaces := #[12, 14, 15, 16, 17]
  cf := some (fileOf pool18 10 #[.nestMembers #[1103]] #[{ accessFlags := 1, nameIndex := 5, descriptorIndex := 6, attributes := #[] }, { accessFlags := 1, nameIndex := 5, descriptorIndex := 1010, attributes := #[] }, { accessFlags := 1, nameIndex := 543, descriptorIndex := 573, attributes := #[] }, { accessFlags := 9, nameIndex := 782, descriptorIndex := 783, attributes := #[] }, { accessFlags := 2, nameIndex := 5, descriptorIndex := 29, attributes := #[] }, { accessFlags := 0, nameIndex := 5, descriptorIndex := 211, attributes := #[] }] 49 2 #[1106, 1108, 575, 1110, 1112] #[{ accessFlags := 18, nameIndex := 13, descriptorIndex := 14, attributes := #[] }, { accessFlags := 18, nameIndex := 17, descriptorIndex := 18, attributes := #[] }, { accessFlags := 2, nameIndex := 21, descriptorIndex := 22, attributes := #[] }, { accessFlags := 2, nameIndex := 25, descriptorIndex := 26, attributes := #[] }, { accessFlags := 26, nameIndex := 1116, descriptorIndex := 1117, attributes := #[] }, { accessFlags := 24, nameIndex := 40, descriptorIndex := 26, attributes := #[] }, { accessFlags := 26, nameIndex := 1101, descriptorIndex := 1102, attributes := #[] }, { accessFlags := 26, nameIndex := 1121, descriptorIndex := 1122, attributes := #[] }, { accessFlags := 25, nameIndex := 599, descriptorIndex := 600, attributes := #[] }, { accessFlags := 24, nameIndex := 1125, descriptorIndex := 18, attributes := #[] }, { accessFlags := 24, nameIndex := 1127, descriptorIndex := 18, attributes := #[] }])
  fields := #[{ name := "value", type := (.array .byte), accessFlags := 18, slot := 0, constantValue := 0 }, { name := "coder", type := .byte, accessFlags := 18, slot := 1, constantValue := 0 }, { name := "hash", type := .int, accessFlags := 2, slot := 2, constantValue := 0 }, { name := "hashIsZero", type := .boolean, accessFlags := 2, slot := 3, constantValue := 0 }, { name := "serialVersionUID", type := .long, accessFlags := 26, slot := 0, constantValue := 0 }, { name := "COMPACT_STRINGS", type := .boolean, accessFlags := 24, slot := 1, constantValue := 0 }, { name := "serialPersistentFields", type := (.array (.object "java/io/ObjectStreamField")), accessFlags := 26, slot := 2, constantValue := 0 }, { name := "REPL", type := .char, accessFlags := 26, slot := 3, constantValue := 0 }, { name := "CASE_INSENSITIVE_ORDER", type := (.object "java/util/Comparator"), accessFlags := 25, slot := 4, constantValue := 0 }, { name := "LATIN1", type := .byte, accessFlags := 24, slot := 5, constantValue := 0 }, { name := "UTF16", type := .byte, accessFlags := 24, slot := 6, constantValue := 0 }]
  methods := #[k18m0, k18m1, k18m2, k18m3, k18m4, k18m5]
  instanceTypes := #[(.array .byte), .byte, .int, .boolean]
  staticTypes := #[.long, .boolean, (.array (.object "java/io/ObjectStreamField")), .char, (.object "java/util/Comparator"), .byte, .byte]
  resolved := Array.replicate 1451 none
  statics := some 1 }

def pool19 : Array CpInfo := pool [(6, .class_ 8), (1, u "java/lang/Object"), (0, u "<init>"), (0, u "()V"), (1, .class_ 14), (1, u "java/lang/StringUTF16"), (31, u "$assertionsDisabled"), (0, u "Z"), (13, u "HI_BYTE_SHIFT"), (0, u "I"), (2, u "LO_BYTE_SHIFT"), (49, .methodref 12 116), (0, .nameAndType 117 118), (0, u "compress"), (0, u "([CI[BII)I"), (3, u "([CII)[B"), (138, u "coderFromArrayLen"), (0, u "([BI)B"), (106, .class_ 371), (1, u "java/lang/StringUTF16$LinesSpliterator"), (58, u "MAX_LENGTH"), (196, .class_ 628), (0, u "java/lang/StringUTF16$CodePointsSpliterator"), (0, .class_ 630), (0, u "java/lang/StringUTF16$CharsSpliterator")] 4

def k19m0 : Method := { name := "<init>", desc := "()V", sig := { parameters := [], returnType := none }, accessFlags := 0, code := none }
def k19c1 : Code := { maxStack := 2, maxLocals := 2, code := jdk_52_method_15_code, exceptionTable := #[], attributes := #[] }
def k19m1 : Method := { name := "coderFromArrayLen", desc := "([BI)B", sig := { parameters := [(.array .byte), .int], returnType := some .byte }, accessFlags := 8, code := some k19c1 }
def k19c2 : Code := { maxStack := 5, maxLocals := 6, code := jdk_52_method_16_code, exceptionTable := #[], attributes := #[] }
def k19m2 : Method := { name := "compress", desc := "([CII)[B", sig := { parameters := [(.array .char), .int, .int], returnType := some (.array .byte) }, accessFlags := 9, code := some k19c2 }
def k19c3 : Code := { maxStack := 3, maxLocals := 7, code := jdk_52_method_21_code, exceptionTable := #[], attributes := #[] }
def k19m3 : Method := { name := "compress", desc := "([CI[BII)I", sig := { parameters := [(.array .char), .int, (.array .byte), .int, .int], returnType := some .int }, accessFlags := 9, code := some k19c3 }
/-- java/lang/StringUTF16 -/
def k19 : Class := { plain "java/lang/StringUTF16" (some 0) with
  accessFlags := 48
  interfaces := #[]
  cf := some (fileOf pool19 12 #[.nestMembers #[627, 629, 369]] #[{ accessFlags := 0, nameIndex := 9, descriptorIndex := 10, attributes := #[] }, { accessFlags := 8, nameIndex := 261, descriptorIndex := 262, attributes := #[] }, { accessFlags := 9, nameIndex := 117, descriptorIndex := 122, attributes := #[] }, { accessFlags := 9, nameIndex := 117, descriptorIndex := 118, attributes := #[] }] 48 6 #[] #[{ accessFlags := 26, nameIndex := 61, descriptorIndex := 62, attributes := #[] }, { accessFlags := 26, nameIndex := 65, descriptorIndex := 62, attributes := #[] }, { accessFlags := 24, nameIndex := 430, descriptorIndex := 62, attributes := #[] }, { accessFlags := 4120, nameIndex := 46, descriptorIndex := 47, attributes := #[] }])
  fields := #[{ name := "HI_BYTE_SHIFT", type := .int, accessFlags := 26, slot := 0, constantValue := 0 }, { name := "LO_BYTE_SHIFT", type := .int, accessFlags := 26, slot := 1, constantValue := 0 }, { name := "MAX_LENGTH", type := .int, accessFlags := 24, slot := 2, constantValue := 0 }, { name := "$assertionsDisabled", type := .boolean, accessFlags := 4120, slot := 3, constantValue := 0 }]
  methods := #[k19m0, k19m1, k19m2, k19m3]
  instanceTypes := #[]
  staticTypes := #[.int, .int, .int, .boolean]
  resolved := Array.replicate 635 none
  statics := none }

def pool20 : Array CpInfo := pool [(1, .class_ 2), (0, u "java/lang/Math"), (1, .class_ 6), (1, u "java/lang/Object"), (0, u "<init>"), (0, u "()V"), (89, .class_ 100), (1, u "java/lang/Math$RandomNumberGeneratorHolder"), (71, u "negativeZeroFloatBits"), (0, u "J"), (2, u "negativeZeroDoubleBits"), (21, u "max"), (2, u "min"), (43, u "$assertionsDisabled"), (0, u "Z"), (88, u "(II)I"), (2, u "twoToTheDoubleScaleDown"), (0, u "D"), (4, u "twoToTheDoubleScaleUp"), (9, u "E"), (3, u "PI"), (2, u "TAU"), (2, u "DEGREES_TO_RADIANS"), (0, u "RADIANS_TO_DEGREES")] 94

def k20m0 : Method := { name := "<init>", desc := "()V", sig := { parameters := [], returnType := none }, accessFlags := 2, code := none }
def k20c1 : Code := { maxStack := 2, maxLocals := 2, code := jdk_29_method_65_code, exceptionTable := #[], attributes := #[] }
def k20m1 : Method := { name := "max", desc := "(II)I", sig := { parameters := [.int, .int], returnType := some .int }, accessFlags := 9, code := some k20c1 }
def k20c2 : Code := { maxStack := 2, maxLocals := 2, code := jdk_29_method_69_code, exceptionTable := #[], attributes := #[] }
def k20m2 : Method := { name := "min", desc := "(II)I", sig := { parameters := [.int, .int], returnType := some .int }, accessFlags := 9, code := some k20c2 }
/-- java/lang/Math -/
def k20 : Class := { plain "java/lang/Math" (some 0) with
  accessFlags := 49
  interfaces := #[]
  cf := some (fileOf pool20 1 #[.nestMembers #[98]] #[{ accessFlags := 2, nameIndex := 7, descriptorIndex := 8, attributes := #[] }, { accessFlags := 9, nameIndex := 198, descriptorIndex := 335, attributes := #[] }, { accessFlags := 9, nameIndex := 201, descriptorIndex := 335, attributes := #[] }] 49 4 #[] #[{ accessFlags := 25, nameIndex := 354, descriptorIndex := 339, attributes := #[] }, { accessFlags := 25, nameIndex := 358, descriptorIndex := 339, attributes := #[] }, { accessFlags := 25, nameIndex := 361, descriptorIndex := 339, attributes := #[] }, { accessFlags := 26, nameIndex := 364, descriptorIndex := 339, attributes := #[] }, { accessFlags := 26, nameIndex := 365, descriptorIndex := 339, attributes := #[] }, { accessFlags := 26, nameIndex := 172, descriptorIndex := 173, attributes := #[] }, { accessFlags := 26, nameIndex := 176, descriptorIndex := 173, attributes := #[] }, { accessFlags := 8, nameIndex := 344, descriptorIndex := 339, attributes := #[] }, { accessFlags := 8, nameIndex := 338, descriptorIndex := 339, attributes := #[] }, { accessFlags := 4120, nameIndex := 245, descriptorIndex := 246, attributes := #[] }])
  fields := #[{ name := "E", type := .double, accessFlags := 25, slot := 0, constantValue := 0 }, { name := "PI", type := .double, accessFlags := 25, slot := 1, constantValue := 0 }, { name := "TAU", type := .double, accessFlags := 25, slot := 2, constantValue := 0 }, { name := "DEGREES_TO_RADIANS", type := .double, accessFlags := 26, slot := 3, constantValue := 0 }, { name := "RADIANS_TO_DEGREES", type := .double, accessFlags := 26, slot := 4, constantValue := 0 }, { name := "negativeZeroFloatBits", type := .long, accessFlags := 26, slot := 5, constantValue := 0 }, { name := "negativeZeroDoubleBits", type := .long, accessFlags := 26, slot := 6, constantValue := 0 }, { name := "twoToTheDoubleScaleUp", type := .double, accessFlags := 8, slot := 7, constantValue := 0 }, { name := "twoToTheDoubleScaleDown", type := .double, accessFlags := 8, slot := 8, constantValue := 0 }, { name := "$assertionsDisabled", type := .boolean, accessFlags := 4120, slot := 9, constantValue := 0 }]
  methods := #[k20m0, k20m1, k20m2]
  instanceTypes := #[]
  staticTypes := #[.double, .double, .double, .double, .double, .long, .long, .double, .double, .boolean]
  resolved := Array.replicate 460 none
  statics := none }

def pool21 : Array CpInfo := pool [(2, .class_ 4), (1, u "java/lang/Object"), (0, u "<init>"), (0, u "()V"), (3, .class_ 11), (0, u "java/util/ImmutableCollections$List12"), (0, .class_ 13), (0, u "java/util/ImmutableCollections$ListN"), (3, u "Z"), (0, .class_ 19), (0, u "java/util/List"), (0, .interfaceMethodref 21 22), (0, .class_ 23), (0, .nameAndType 24 25), (0, u "java/util/Collection"), (0, u "isEmpty"), (0, u "()Z"), (2, u "of"), (1, .interfaceMethodref 21 31), (0, .nameAndType 32 33), (0, u "toArray"), (0, u "()[Ljava/lang/Object;"), (0, .interfaceMethodref 18 35), (0, .nameAndType 28 36), (0, u "([Ljava/lang/Object;)Ljava/util/List;"), (0, .methodref 38 39), (0, .class_ 40), (0, .nameAndType 41 42), (0, u "java/util/Objects"), (0, u "requireNonNull"), (0, u "(Ljava/lang/Object;)Ljava/lang/Object;"), (0, .methodref 12 44), (0, .nameAndType 5 45), (0, u "([Ljava/lang/Object;Z)V"), (1, .class_ 49), (1, u "java/util/ImmutableCollections"), (0, u "$assertionsDisabled"), (5, u "[Ljava/lang/Object;"), (5, u "EMPTY_LIST"), (0, u "Ljava/util/ImmutableCollections$ListN;"), (8, u "EMPTY_LIST_NULLS"), (22, u "SALT32L"), (0, u "J"), (2, u "REVERSE"), (6, u "archivedObjects"), (2, u "EMPTY"), (0, u "Ljava/lang/Object;"), (0, .class_ 112), (0, u "java/util/ImmutableCollections$SetN"), (5, u "EMPTY_SET"), (0, u "Ljava/util/ImmutableCollections$SetN;"), (0, .class_ 121), (0, u "java/util/ImmutableCollections$MapN"), (3, u "EMPTY_MAP"), (0, u "Ljava/util/ImmutableCollections$MapN;"), (4, u "EXPAND_FACTOR"), (0, u "I"), (9, u "listCopy"), (0, u "(Ljava/util/Collection;)Ljava/util/List;"), (7, u "listFromArray"), (17, .class_ 170), (0, u "java/util/ImmutableCollections$MapN$MapNIterator"), (0, .class_ 172), (0, u "java/util/ImmutableCollections$MapN$1"), (0, .class_ 174), (0, u "java/util/ImmutableCollections$Map1"), (0, .class_ 176), (0, u "java/util/ImmutableCollections$AbstractImmutableMap"), (0, .class_ 178), (0, u "java/util/ImmutableCollections$SetN$SetNIterator"), (0, .class_ 180), (0, u "java/util/ImmutableCollections$Set12"), (0, .class_ 182), (0, u "java/util/ImmutableCollections$Set12$1"), (0, .class_ 184), (0, u "java/util/ImmutableCollections$AbstractImmutableSet"), (0, .class_ 186), (0, u "java/util/ImmutableCollections$SubList"), (0, .class_ 188), (0, u "java/util/ImmutableCollections$ListItr"), (0, .class_ 190), (0, u "java/util/ImmutableCollections$AbstractImmutableList"), (0, .class_ 192), (0, u "java/util/ImmutableCollections$AbstractImmutableCollection"), (0, .class_ 194), (0, u "java/util/ImmutableCollections$Access"), (0, .class_ 196), (0, u "java/util/ImmutableCollections$Access$1")] 16

def k21m0 : Method := { name := "<init>", desc := "()V", sig := { parameters := [], returnType := none }, accessFlags := 2, code := none }
def k21c1 : Code := { maxStack := 1, maxLocals := 2, code := jdk_56_method_3_code, exceptionTable := #[], attributes := #[] }
def k21m1 : Method := { name := "listCopy", desc := "(Ljava/util/Collection;)Ljava/util/List;", sig := { parameters := [(.object "java/util/Collection")], returnType := some (.object "java/util/List") }, accessFlags := 8, code := some k21c1 }
def k21c2 : Code := { maxStack := 4, maxLocals := 3, code := jdk_56_method_4_code, exceptionTable := #[], attributes := #[] }
def k21m2 : Method := { name := "listFromArray", desc := "([Ljava/lang/Object;)Ljava/util/List;", sig := { parameters := [(.array (.object "java/lang/Object"))], returnType := some (.object "java/util/List") }, accessFlags := 136, code := some k21c2 }
/-- java/util/ImmutableCollections -/
def k21 : Class := { plain "java/util/ImmutableCollections" (some 0) with
  accessFlags := 32
  interfaces := #[]
  cf := some (fileOf pool21 47 #[.nestMembers #[120, 169, 171, 173, 175, 111, 177, 179, 181, 183, 12, 10, 185, 187, 189, 191, 193, 195]] #[{ accessFlags := 2, nameIndex := 5, descriptorIndex := 6, attributes := #[] }, { accessFlags := 8, nameIndex := 142, descriptorIndex := 143, attributes := #[] }, { accessFlags := 136, nameIndex := 151, descriptorIndex := 36, attributes := #[] }] 32 2 #[] #[{ accessFlags := 26, nameIndex := 95, descriptorIndex := 96, attributes := #[] }, { accessFlags := 26, nameIndex := 99, descriptorIndex := 17, attributes := #[] }, { accessFlags := 10, nameIndex := 106, descriptorIndex := 56, attributes := #[] }, { accessFlags := 26, nameIndex := 109, descriptorIndex := 110, attributes := #[] }, { accessFlags := 24, nameIndex := 62, descriptorIndex := 63, attributes := #[] }, { accessFlags := 24, nameIndex := 72, descriptorIndex := 63, attributes := #[] }, { accessFlags := 24, nameIndex := 118, descriptorIndex := 119, attributes := #[] }, { accessFlags := 24, nameIndex := 125, descriptorIndex := 126, attributes := #[] }, { accessFlags := 24, nameIndex := 131, descriptorIndex := 132, attributes := #[] }, { accessFlags := 4120, nameIndex := 50, descriptorIndex := 17, attributes := #[] }])
  fields := #[{ name := "SALT32L", type := .long, accessFlags := 26, slot := 0, constantValue := 0 }, { name := "REVERSE", type := .boolean, accessFlags := 26, slot := 1, constantValue := 0 }, { name := "archivedObjects", type := (.array (.object "java/lang/Object")), accessFlags := 10, slot := 2, constantValue := 0 }, { name := "EMPTY", type := (.object "java/lang/Object"), accessFlags := 26, slot := 3, constantValue := 0 }, { name := "EMPTY_LIST", type := (.object "java/util/ImmutableCollections$ListN"), accessFlags := 24, slot := 4, constantValue := 0 }, { name := "EMPTY_LIST_NULLS", type := (.object "java/util/ImmutableCollections$ListN"), accessFlags := 24, slot := 5, constantValue := 0 }, { name := "EMPTY_SET", type := (.object "java/util/ImmutableCollections$SetN"), accessFlags := 24, slot := 6, constantValue := 0 }, { name := "EMPTY_MAP", type := (.object "java/util/ImmutableCollections$MapN"), accessFlags := 24, slot := 7, constantValue := 0 }, { name := "EXPAND_FACTOR", type := .int, accessFlags := 24, slot := 8, constantValue := 0 }, { name := "$assertionsDisabled", type := .boolean, accessFlags := 4120, slot := 9, constantValue := 0 }]
  methods := #[k21m0, k21m1, k21m2]
  instanceTypes := #[]
  staticTypes := #[.long, .boolean, (.array (.object "java/lang/Object")), (.object "java/lang/Object"), (.object "java/util/ImmutableCollections$ListN"), (.object "java/util/ImmutableCollections$ListN"), (.object "java/util/ImmutableCollections$SetN"), (.object "java/util/ImmutableCollections$MapN"), .int, .boolean]
  resolved := Array.replicate 213 none
  statics := some 2 }

def pool22 : Array CpInfo := pool [(1, .methodref 2 3), (0, .class_ 4), (0, .nameAndType 5 6), (0, u "java/util/AbstractCollection"), (0, u "<init>"), (0, u "()V"), (1, .class_ 10), (1, u "java/util/ImmutableCollections"), (2, .class_ 14), (0, u "java/util/ImmutableCollections$AbstractImmutableCollection")] 41

def k22c0 : Code := { maxStack := 1, maxLocals := 1, code := jdk_47_method_1_code, exceptionTable := #[], attributes := #[] }
def k22m0 : Method := { name := "<init>", desc := "()V", sig := { parameters := [], returnType := none }, accessFlags := 0, code := some k22c0 }
/-- java/util/ImmutableCollections$AbstractImmutableCollection -/
def k22 : Class := { plain "java/util/ImmutableCollections$AbstractImmutableCollection" (some 6) with
  accessFlags := 1056
  interfaces := #[]
  cf := some (fileOf pool22 13 #[.nestHost 8] #[{ accessFlags := 0, nameIndex := 5, descriptorIndex := 6, attributes := #[] }] 1056 2 #[] #[])
  fields := #[]
  methods := #[k22m0]
  instanceTypes := #[]
  staticTypes := #[]
  resolved := Array.replicate 56 none
  statics := none }

def pool23 : Array CpInfo := pool [(1, .methodref 2 3), (0, .class_ 4), (0, .nameAndType 5 6), (0, u "java/util/ImmutableCollections$AbstractImmutableCollection"), (0, u "<init>"), (0, u "()V"), (1, .class_ 10), (1, u "java/util/ImmutableCollections"), (3, .class_ 16), (1, u "java/util/ImmutableCollections$AbstractImmutableList"), (60, .class_ 78), (0, u "java/util/List"), (45, .class_ 125), (0, u "java/util/RandomAccess")] 70

def k23c0 : Code := { maxStack := 1, maxLocals := 1, code := jdk_46_method_1_code, exceptionTable := #[], attributes := #[] }
def k23m0 : Method := { name := "<init>", desc := "()V", sig := { parameters := [], returnType := none }, accessFlags := 0, code := some k23c0 }
/-- java/util/ImmutableCollections$AbstractImmutableList -/
def k23 : Class := { plain "java/util/ImmutableCollections$AbstractImmutableList" (some 22) with
  accessFlags := 1056
  interfaces := #[8, 10]
  cf := some (fileOf pool23 14 #[.nestHost 8] #[{ accessFlags := 0, nameIndex := 5, descriptorIndex := 6, attributes := #[] }] 1056 2 #[77, 124] #[])
  fields := #[]
  methods := #[k23m0]
  instanceTypes := #[]
  staticTypes := #[]
  resolved := Array.replicate 196 none
  statics := none }

def pool24 : Array CpInfo := pool [(1, .methodref 2 3), (0, .class_ 4), (0, .nameAndType 5 6), (0, u "java/util/ImmutableCollections$AbstractImmutableList"), (0, u "<init>"), (0, u "()V"), (0, .methodref 8 9), (0, .class_ 10), (0, .nameAndType 11 12), (0, u "java/util/Objects"), (0, u "requireNonNull"), (0, u "(Ljava/lang/Object;)Ljava/lang/Object;"), (0, .fieldref 14 15), (0, .class_ 16), (0, .nameAndType 17 18), (0, u "java/util/ImmutableCollections$List12"), (0, u "e0"), (0, u "Ljava/lang/Object;"), (0, .fieldref 20 21), (0, .class_ 22), (0, .nameAndType 23 18), (0, u "java/util/ImmutableCollections"), (0, u "EMPTY"), (0, .fieldref 14 25), (0, .nameAndType 26 18), (0, u "e1"), (43, .class_ 71), (0, u "java/io/Serializable"), (4, u "(Ljava/lang/Object;)V"), (8, u "(Ljava/lang/Object;Ljava/lang/Object;)V"), (4, u "get"), (0, u "(I)Ljava/lang/Object;")] 33

def k24c0 : Code := { maxStack := 2, maxLocals := 2, code := jdk_44_method_1_code, exceptionTable := #[], attributes := #[] }
def k24m0 : Method := { name := "<init>", desc := "(Ljava/lang/Object;)V", sig := { parameters := [(.object "java/lang/Object")], returnType := none }, accessFlags := 0, code := some k24c0 }
def k24c1 : Code := { maxStack := 2, maxLocals := 3, code := jdk_44_method_2_code, exceptionTable := #[], attributes := #[] }
def k24m1 : Method := { name := "<init>", desc := "(Ljava/lang/Object;Ljava/lang/Object;)V", sig := { parameters := [(.object "java/lang/Object"), (.object "java/lang/Object")], returnType := none }, accessFlags := 0, code := some k24c1 }
def k24c2 : Code := { maxStack := 2, maxLocals := 2, code := jdk_44_method_5_code, exceptionTable := #[], attributes := #[] }
def k24m2 : Method := { name := "get", desc := "(I)Ljava/lang/Object;", sig := { parameters := [.int], returnType := some (.object "java/lang/Object") }, accessFlags := 1, code := some k24c2 }
/-- java/util/ImmutableCollections$List12 -/
def k24 : Class := { plain "java/util/ImmutableCollections$List12" (some 23) with
  accessFlags := 48
  interfaces := #[12]
  cf := some (fileOf pool24 14 #[.nestHost 20] #[{ accessFlags := 0, nameIndex := 5, descriptorIndex := 76, attributes := #[] }, { accessFlags := 0, nameIndex := 5, descriptorIndex := 85, attributes := #[] }, { accessFlags := 1, nameIndex := 90, descriptorIndex := 91, attributes := #[] }] 48 2 #[70] #[{ accessFlags := 18, nameIndex := 17, descriptorIndex := 18, attributes := #[] }, { accessFlags := 18, nameIndex := 26, descriptorIndex := 18, attributes := #[] }])
  fields := #[{ name := "e0", type := (.object "java/lang/Object"), accessFlags := 18, slot := 0, constantValue := 0 }, { name := "e1", type := (.object "java/lang/Object"), accessFlags := 18, slot := 1, constantValue := 0 }]
  methods := #[k24m0, k24m1, k24m2]
  instanceTypes := #[(.object "java/lang/Object"), (.object "java/lang/Object")]
  staticTypes := #[]
  resolved := Array.replicate 125 none
  statics := none }

def pool25 : Array CpInfo := pool [(1, .methodref 2 3), (0, .class_ 4), (0, .nameAndType 5 6), (0, u "java/util/ImmutableCollections$AbstractImmutableList"), (0, u "<init>"), (0, u "()V"), (0, .fieldref 8 9), (0, .class_ 10), (0, .nameAndType 11 12), (0, u "java/util/ImmutableCollections$ListN"), (0, u "elements"), (0, u "[Ljava/lang/Object;"), (0, .fieldref 8 14), (0, .nameAndType 15 16), (0, u "allowNulls"), (0, u "Z"), (42, .class_ 60), (0, u "java/io/Serializable"), (4, u "([Ljava/lang/Object;Z)V"), (13, u "get"), (0, u "(I)Ljava/lang/Object;"), (33, .class_ 115), (0, u "java/util/ImmutableCollections")] 3

def k25c0 : Code := { maxStack := 2, maxLocals := 3, code := jdk_45_method_1_code, exceptionTable := #[], attributes := #[] }
def k25m0 : Method := { name := "<init>", desc := "([Ljava/lang/Object;Z)V", sig := { parameters := [(.array (.object "java/lang/Object")), .boolean], returnType := none }, accessFlags := 2, code := some k25c0 }
def k25c1 : Code := { maxStack := 2, maxLocals := 2, code := jdk_45_method_4_code, exceptionTable := #[], attributes := #[] }
def k25m1 : Method := { name := "get", desc := "(I)Ljava/lang/Object;", sig := { parameters := [.int], returnType := some (.object "java/lang/Object") }, accessFlags := 1, code := some k25c1 }
/-- java/util/ImmutableCollections$ListN -/
def k25 : Class := { plain "java/util/ImmutableCollections$ListN" (some 23) with
  accessFlags := 48
  interfaces := #[12]
  cf := some (fileOf pool25 8 #[.nestHost 114] #[{ accessFlags := 2, nameIndex := 5, descriptorIndex := 65, attributes := #[] }, { accessFlags := 1, nameIndex := 79, descriptorIndex := 80, attributes := #[] }] 48 2 #[59] #[{ accessFlags := 18, nameIndex := 11, descriptorIndex := 12, attributes := #[] }, { accessFlags := 18, nameIndex := 15, descriptorIndex := 16, attributes := #[] }])
  fields := #[{ name := "elements", type := (.array (.object "java/lang/Object")), accessFlags := 18, slot := 0, constantValue := 0 }, { name := "allowNulls", type := .boolean, accessFlags := 18, slot := 1, constantValue := 0 }]
  methods := #[k25m0, k25m1]
  instanceTypes := #[(.array (.object "java/lang/Object")), .boolean]
  staticTypes := #[]
  resolved := Array.replicate 119 none
  statics := none }

def pool26 : Array CpInfo := pool [(2, .class_ 4), (1, u "java/lang/Object"), (0, u "<init>"), (0, u "()V"), (7, .class_ 16), (1, u "java/util/Arrays"), (57, .class_ 76), (1, u "java/util/Arrays$NaturalOrder"), (9, .methodref 2 87), (0, .nameAndType 88 89), (0, u "getClass"), (0, u "()Ljava/lang/Class;"), (20, .class_ 111), (0, u "[Ljava/lang/Object;"), (1, .class_ 115), (1, u "java/util/Arrays$LegacyMergeSort"), (1, u "Z"), (32, .methodref 151 152), (0, .class_ 153), (0, .nameAndType 154 155), (0, u "java/lang/System"), (0, u "arraycopy"), (0, u "(Ljava/lang/Object;ILjava/lang/Object;II)V"), (144, .methodref 14 301), (0, .nameAndType 302 303), (0, u "copyOf"), (0, u "([Ljava/lang/Object;ILjava/lang/Class;)[Ljava/lang/Object;"), (0, .methodref 305 306), (0, .class_ 307), (0, .nameAndType 308 309), (0, u "java/lang/Math"), (0, u "min"), (0, u "(II)I"), (65, .class_ 376), (0, u "java/util/Arrays$ArrayList"), (68, u "$assertionsDisabled"), (269, u "MIN_ARRAY_SORT_GRAN"), (0, u "I"), (2, u "INSERTIONSORT_THRESHOLD"), (140, u "([Ljava/lang/Object;I)[Ljava/lang/Object;"), (114, .class_ 976), (0, u "java/util/Arrays$ArrayItr")] 52

def k26m0 : Method := { name := "<init>", desc := "()V", sig := { parameters := [], returnType := none }, accessFlags := 2, code := none }
def k26c1 : Code := { maxStack := 3, maxLocals := 2, code := jdk_65_method_119_code, exceptionTable := #[], attributes := #[] }
def k26m1 : Method := { name := "copyOf", desc := "([Ljava/lang/Object;I)[Ljava/lang/Object;", sig := { parameters := [(.array (.object "java/lang/Object")), .int], returnType := some (.array (.object "java/lang/Object")) }, accessFlags := 9, code := some k26c1 }
def k26c2 : Code := { maxStack := 6, maxLocals := 4, code := jdk_65_method_120_code, exceptionTable := #[], attributes := #[] }
def k26m2 : Method := { name := "copyOf", desc := "([Ljava/lang/Object;ILjava/lang/Class;)[Ljava/lang/Object;", sig := { parameters := [(.array (.object "java/lang/Object")), .int, (.object "java/lang/Class")], returnType := some (.array (.object "java/lang/Object")) }, accessFlags := 9, code := some k26c2 }
/-- java/util/Arrays -/
def k26 : Class := { plain "java/util/Arrays" (some 0) with
  accessFlags := 49
  interfaces := #[]
  cf := some (fileOf pool26 14 #[.nestMembers #[975, 375, 113, 74]] #[{ accessFlags := 2, nameIndex := 5, descriptorIndex := 6, attributes := #[] }, { accessFlags := 9, nameIndex := 302, descriptorIndex := 860, attributes := #[] }, { accessFlags := 9, nameIndex := 302, descriptorIndex := 303, attributes := #[] }] 49 2 #[] #[{ accessFlags := 26, nameIndex := 715, descriptorIndex := 716, attributes := #[] }, { accessFlags := 26, nameIndex := 719, descriptorIndex := 716, attributes := #[] }, { accessFlags := 4120, nameIndex := 445, descriptorIndex := 117, attributes := #[] }])
  fields := #[{ name := "MIN_ARRAY_SORT_GRAN", type := .int, accessFlags := 26, slot := 0, constantValue := 0 }, { name := "INSERTIONSORT_THRESHOLD", type := .int, accessFlags := 26, slot := 1, constantValue := 0 }, { name := "$assertionsDisabled", type := .boolean, accessFlags := 4120, slot := 2, constantValue := 0 }]
  methods := #[k26m0, k26m1, k26m2]
  instanceTypes := #[]
  staticTypes := #[.int, .int, .boolean]
  resolved := Array.replicate 1029 none
  statics := none }

def pool27 : Array CpInfo := pool [(2, .class_ 4), (1, u "java/lang/Object"), (0, u "<init>"), (0, u "()V"), (1, .class_ 10), (1, u "java/lang/System"), (0, u "allowSecurityManager"), (0, u "I"), (16, u "cons"), (0, u "Ljava/io/Console;"), (77, .class_ 110), (1, u "java/lang/System$CallersHolder"), (43, u "initialErrStream"), (0, u "Ljava/io/PrintStream;"), (19, u "security"), (0, u "Ljava/lang/SecurityManager;"), (31, .class_ 209), (0, u "java/lang/System$1"), (7, u "props"), (0, u "Ljava/util/Properties;"), (2, u "lineSeparator"), (0, u "Ljava/lang/String;"), (96, .class_ 321), (1, u "java/lang/System$LoggerFinder"), (5, .class_ 328), (0, u "java/lang/System$Logger"), (67, u "err"), (2, u "out"), (91, u "notSupportedJnuEncoding"), (15, u "in"), (17, u "initialIn"), (0, u "Ljava/io/InputStream;"), (35, u "bootLayer"), (0, u "Ljava/lang/ModuleLayer;"), (99, .class_ 664), (0, u "java/lang/System$2"), (9, u "NEVER"), (2, u "MAYBE"), (49, u "arraycopy"), (0, u "(Ljava/lang/Object;ILjava/lang/Object;II)V"), (72, .class_ 802), (0, u "java/lang/System$Logger$Level")] 31

def k27m0 : Method := { name := "<init>", desc := "()V", sig := { parameters := [], returnType := none }, accessFlags := 2, code := none }
def k27m1 : Method := { name := "arraycopy", desc := "(Ljava/lang/Object;ILjava/lang/Object;II)V", sig := { parameters := [(.object "java/lang/Object"), .int, (.object "java/lang/Object"), .int, .int], returnType := none }, accessFlags := 265, code := none }
/-- java/lang/System -/
def k27 : Class := { plain "java/lang/System" (some 0) with
  accessFlags := 49
  interfaces := #[]
  cf := some (fileOf pool27 8 #[.nestMembers #[319, 327, 801, 108, 663, 208]] #[{ accessFlags := 2, nameIndex := 5, descriptorIndex := 6, attributes := #[] }, { accessFlags := 265, nameIndex := 727, descriptorIndex := 728, attributes := #[] }] 49 2 #[] #[{ accessFlags := 25, nameIndex := 507, descriptorIndex := 526, attributes := #[] }, { accessFlags := 25, nameIndex := 399, descriptorIndex := 155, attributes := #[] }, { accessFlags := 25, nameIndex := 396, descriptorIndex := 155, attributes := #[] }, { accessFlags := 10, nameIndex := 525, descriptorIndex := 526, attributes := #[] }, { accessFlags := 26, nameIndex := 674, descriptorIndex := 12, attributes := #[] }, { accessFlags := 26, nameIndex := 677, descriptorIndex := 12, attributes := #[] }, { accessFlags := 10, nameIndex := 11, descriptorIndex := 12, attributes := #[] }, { accessFlags := 74, nameIndex := 175, descriptorIndex := 176, attributes := #[] }, { accessFlags := 10, nameIndex := 491, descriptorIndex := 222, attributes := #[] }, { accessFlags := 74, nameIndex := 29, descriptorIndex := 30, attributes := #[] }, { accessFlags := 74, nameIndex := 154, descriptorIndex := 155, attributes := #[] }, { accessFlags := 10, nameIndex := 217, descriptorIndex := 218, attributes := #[] }, { accessFlags := 10, nameIndex := 221, descriptorIndex := 222, attributes := #[] }, { accessFlags := 8, nameIndex := 562, descriptorIndex := 563, attributes := #[] }])
  fields := #[{ name := "in", type := (.object "java/io/InputStream"), accessFlags := 25, slot := 0, constantValue := 0 }, { name := "out", type := (.object "java/io/PrintStream"), accessFlags := 25, slot := 1, constantValue := 0 }, { name := "err", type := (.object "java/io/PrintStream"), accessFlags := 25, slot := 2, constantValue := 0 }, { name := "initialIn", type := (.object "java/io/InputStream"), accessFlags := 10, slot := 3, constantValue := 0 }, { name := "NEVER", type := .int, accessFlags := 26, slot := 4, constantValue := 0 }, { name := "MAYBE", type := .int, accessFlags := 26, slot := 5, constantValue := 0 }, { name := "allowSecurityManager", type := .int, accessFlags := 10, slot := 6, constantValue := 0 }, { name := "security", type := (.object "java/lang/SecurityManager"), accessFlags := 74, slot := 7, constantValue := 0 }, { name := "notSupportedJnuEncoding", type := (.object "java/lang/String"), accessFlags := 10, slot := 8, constantValue := 0 }, { name := "cons", type := (.object "java/io/Console"), accessFlags := 74, slot := 9, constantValue := 0 }, { name := "initialErrStream", type := (.object "java/io/PrintStream"), accessFlags := 74, slot := 10, constantValue := 0 }, { name := "props", type := (.object "java/util/Properties"), accessFlags := 10, slot := 11, constantValue := 0 }, { name := "lineSeparator", type := (.object "java/lang/String"), accessFlags := 10, slot := 12, constantValue := 0 }, { name := "bootLayer", type := (.object "java/lang/ModuleLayer"), accessFlags := 8, slot := 13, constantValue := 0 }]
  methods := #[k27m0, k27m1]
  instanceTypes := #[]
  staticTypes := #[(.object "java/io/InputStream"), (.object "java/io/PrintStream"), (.object "java/io/PrintStream"), (.object "java/io/InputStream"), .int, .int, .int, (.object "java/lang/SecurityManager"), (.object "java/lang/String"), (.object "java/io/Console"), (.object "java/io/PrintStream"), (.object "java/util/Properties"), (.object "java/lang/String"), (.object "java/lang/ModuleLayer")]
  resolved := Array.replicate 834 none
  statics := none }

def pool28 : Array CpInfo := pool [(2, .class_ 4), (1, u "java/lang/Object"), (0, u "<init>"), (0, u "()V"), (35, .class_ 44), (1, u "java/util/Objects"), (0, u "requireNonNull"), (0, u "(Ljava/lang/Object;)Ljava/lang/Object;")] 137

def k28m0 : Method := { name := "<init>", desc := "()V", sig := { parameters := [], returnType := none }, accessFlags := 2, code := none }
def k28c1 : Code := { maxStack := 2, maxLocals := 1, code := jdk_31_method_10_code, exceptionTable := #[], attributes := #[] }
def k28m1 : Method := { name := "requireNonNull", desc := "(Ljava/lang/Object;)Ljava/lang/Object;", sig := { parameters := [(.object "java/lang/Object")], returnType := some (.object "java/lang/Object") }, accessFlags := 9, code := some k28c1 }
/-- java/util/Objects -/
def k28 : Class := { plain "java/util/Objects" (some 0) with
  accessFlags := 49
  interfaces := #[]
  cf := some (fileOf pool28 42 #[] #[{ accessFlags := 2, nameIndex := 5, descriptorIndex := 6, attributes := #[] }, { accessFlags := 9, nameIndex := 45, descriptorIndex := 46, attributes := #[] }] 49 2 #[] #[])
  fields := #[]
  methods := #[k28m0, k28m1]
  instanceTypes := #[]
  staticTypes := #[]
  resolved := Array.replicate 184 none
  statics := none }

def pool29 : Array CpInfo := pool [(1, .methodref 2 3), (0, .class_ 4), (0, .nameAndType 5 6), (0, u "java/lang/Record"), (0, u "<init>"), (0, u "()V"), (0, .fieldref 8 9), (0, .class_ 10), (0, .nameAndType 11 12), (0, u "com/example/latticube/latticube/spacefile/DimensionTable$Column"), (0, u "file"), (0, u "Ljava/lang/String;"), (0, .fieldref 8 14), (0, .nameAndType 15 16), (0, u "index"), (0, u "I"), (0, .fieldref 8 18), (0, .nameAndType 19 20), (0, u "inJoined"), (0, u "Z"), (12, u "(Ljava/lang/String;IZ)V"), (4, u "()I"), (1, u "()Z"), (3, .class_ 45), (0, u "com/example/latticube/latticube/spacefile/DimensionTable")] 21

def k29c0 : Code := { maxStack := 2, maxLocals := 4, code := prog_68_method_1_code, exceptionTable := #[], attributes := #[] }
def k29m0 : Method := { name := "<init>", desc := "(Ljava/lang/String;IZ)V", sig := { parameters := [(.object "java/lang/String"), .int, .boolean], returnType := none }, accessFlags := 0, code := some k29c0 }
def k29c1 : Code := { maxStack := 1, maxLocals := 1, code := prog_68_method_6_code, exceptionTable := #[], attributes := #[] }
def k29m1 : Method := { name := "index", desc := "()I", sig := { parameters := [], returnType := some .int }, accessFlags := 1, code := some k29c1 }
def k29c2 : Code := { maxStack := 1, maxLocals := 1, code := prog_68_method_7_code, exceptionTable := #[], attributes := #[] }
def k29m2 : Method := { name := "inJoined", desc := "()Z", sig := { parameters := [], returnType := some .boolean }, accessFlags := 1, code := some k29c2 }
/-- com/example/latticube/latticube/spacefile/DimensionTable$Column -/
def k29 : Class := { plain "com/example/latticube/latticube/spacefile/DimensionTable$Column" (some 2) with
  accessFlags := 48
  interfaces := #[]
  cf := some (fileOf pool29 8 #[.nestHost 44] #[{ accessFlags := 0, nameIndex := 5, descriptorIndex := 33, attributes := #[] }, { accessFlags := 1, nameIndex := 15, descriptorIndex := 38, attributes := #[] }, { accessFlags := 1, nameIndex := 19, descriptorIndex := 40, attributes := #[] }] 48 2 #[] #[{ accessFlags := 18, nameIndex := 11, descriptorIndex := 12, attributes := #[] }, { accessFlags := 18, nameIndex := 15, descriptorIndex := 16, attributes := #[] }, { accessFlags := 18, nameIndex := 19, descriptorIndex := 20, attributes := #[] }])
  fields := #[{ name := "file", type := (.object "java/lang/String"), accessFlags := 18, slot := 0, constantValue := 0 }, { name := "index", type := .int, accessFlags := 18, slot := 1, constantValue := 0 }, { name := "inJoined", type := .boolean, accessFlags := 18, slot := 2, constantValue := 0 }]
  methods := #[k29m0, k29m1, k29m2]
  instanceTypes := #[(.object "java/lang/String"), .int, .boolean]
  staticTypes := #[]
  resolved := Array.replicate 67 none
  statics := none }

def pool30 : Array CpInfo := pool [(4, .class_ 6), (1, u "java/lang/Object"), (0, u "<init>"), (0, u "()V"), (5, .class_ 16), (1, u "java/lang/StringLatin1"), (73, u "canEncode"), (14, u "(C)Z"), (15, u "$assertionsDisabled"), (0, u "Z"), (98, .class_ 223), (1, u "java/lang/StringLatin1$LinesSpliterator"), (57, u "equals"), (0, u "([B[B)Z"), (97, u "toBytes"), (1, u "(C)[B"), (7, .class_ 391), (0, u "java/lang/StringLatin1$CharsSpliterator")] 3

def k30m0 : Method := { name := "<init>", desc := "()V", sig := { parameters := [], returnType := none }, accessFlags := 0, code := none }
def k30c1 : Code := { maxStack := 2, maxLocals := 1, code := jdk_43_method_3_code, exceptionTable := #[], attributes := #[] }
def k30m1 : Method := { name := "canEncode", desc := "(C)Z", sig := { parameters := [.char], returnType := some .boolean }, accessFlags := 9, code := some k30c1 }
def k30c2 : Code := { maxStack := 3, maxLocals := 3, code := jdk_43_method_13_code, exceptionTable := #[], attributes := #[] }
def k30m2 : Method := { name := "equals", desc := "([B[B)Z", sig := { parameters := [(.array .byte), (.array .byte)], returnType := some .boolean }, accessFlags := 9, code := some k30c2 }
def k30c3 : Code := { maxStack := 4, maxLocals := 1, code := jdk_43_method_46_code, exceptionTable := #[], attributes := #[] }
def k30m3 : Method := { name := "toBytes", desc := "(C)[B", sig := { parameters := [.char], returnType := some (.array .byte) }, accessFlags := 9, code := some k30c3 }
/-- java/lang/StringLatin1 -/
def k30 : Class := { plain "java/lang/StringLatin1" (some 0) with
  accessFlags := 48
  interfaces := #[]
  cf := some (fileOf pool30 14 #[.nestMembers #[390, 221]] #[{ accessFlags := 0, nameIndex := 7, descriptorIndex := 8, attributes := #[] }, { accessFlags := 9, nameIndex := 90, descriptorIndex := 105, attributes := #[] }, { accessFlags := 9, nameIndex := 281, descriptorIndex := 282, attributes := #[] }, { accessFlags := 9, nameIndex := 380, descriptorIndex := 382, attributes := #[] }] 48 4 #[] #[{ accessFlags := 4120, nameIndex := 121, descriptorIndex := 122, attributes := #[] }])
  fields := #[{ name := "$assertionsDisabled", type := .boolean, accessFlags := 4120, slot := 0, constantValue := 0 }]
  methods := #[k30m0, k30m1, k30m2, k30m3]
  instanceTypes := #[]
  staticTypes := #[.boolean]
  resolved := Array.replicate 395 none
  statics := none }

def pool31 : Array CpInfo := pool [(1, .methodref 2 3), (0, .class_ 4), (0, .nameAndType 5 6), (0, u "java/lang/Record"), (0, u "<init>"), (0, u "()V"), (0, .fieldref 8 9), (0, .class_ 10), (0, .nameAndType 11 12), (0, u "com/example/latticube/latticube/spacefile/DimensionTable$Row"), (0, u "row"), (0, u "Lcom/example/latticube/latticube/csv/CsvTable$Row;"), (0, .fieldref 8 14), (0, .nameAndType 15 12), (0, u "match"), (0, .methodref 8 17), (0, .nameAndType 18 19), (0, u "source"), (0, u "(Lcom/example/latticube/latticube/spacefile/DimensionTable$Column;)Lcom/example/latticube/latticube/csv/CsvTable$Row;"), (0, .methodref 21 22), (0, .class_ 23), (0, .nameAndType 24 25), (0, u "com/example/latticube/latticube/csv/CsvTable$Row"), (0, u "fields"), (0, u "()Ljava/util/List;"), (0, .methodref 27 28), (0, .class_ 29), (0, .nameAndType 30 31), (0, u "com/example/latticube/latticube/spacefile/DimensionTable$Column"), (0, u "index"), (0, u "()I"), (0, .interfaceMethodref 33 34), (0, .class_ 35), (0, .nameAndType 36 37), (0, u "java/util/List"), (0, u "get"), (0, u "(I)Ljava/lang/Object;"), (0, .class_ 39), (0, u "java/lang/String"), (0, .methodref 27 41), (0, .nameAndType 42 43), (0, u "inJoined"), (0, u "()Z"), (12, u "(Lcom/example/latticube/latticube/csv/CsvTable$Row;Lcom/example/latticube/latticube/csv/CsvTable$Row;)V"), (3, u "value"), (0, u "(Lcom/example/latticube/latticube/spacefile/DimensionTable$Column;)Ljava/lang/String;"), (7, .class_ 70), (0, u "com/example/latticube/latticube/spacefile/DimensionTable")] 23

def k31c0 : Code := { maxStack := 2, maxLocals := 3, code := prog_70_method_1_code, exceptionTable := #[], attributes := #[] }
def k31m0 : Method := { name := "<init>", desc := "(Lcom/example/latticube/latticube/csv/CsvTable$Row;Lcom/example/latticube/latticube/csv/CsvTable$Row;)V", sig := { parameters := [(.object "com/example/latticube/latticube/csv/CsvTable$Row"), (.object "com/example/latticube/latticube/csv/CsvTable$Row")], returnType := none }, accessFlags := 0, code := some k31c0 }
def k31c1 : Code := { maxStack := 2, maxLocals := 2, code := prog_70_method_2_code, exceptionTable := #[], attributes := #[] }
def k31m1 : Method := { name := "value", desc := "(Lcom/example/latticube/latticube/spacefile/DimensionTable$Column;)Ljava/lang/String;", sig := { parameters := [(.object "com/example/latticube/latticube/spacefile/DimensionTable$Column")], returnType := some (.object "java/lang/String") }, accessFlags := 0, code := some k31c1 }
def k31c2 : Code := { maxStack := 1, maxLocals := 2, code := prog_70_method_3_code, exceptionTable := #[], attributes := #[] }
def k31m2 : Method := { name := "source", desc := "(Lcom/example/latticube/latticube/spacefile/DimensionTable$Column;)Lcom/example/latticube/latticube/csv/CsvTable$Row;", sig := { parameters := [(.object "com/example/latticube/latticube/spacefile/DimensionTable$Column")], returnType := some (.object "com/example/latticube/latticube/csv/CsvTable$Row") }, accessFlags := 0, code := some k31c2 }
/-- com/example/latticube/latticube/spacefile/DimensionTable$Row -/
def k31 : Class := { plain "com/example/latticube/latticube/spacefile/DimensionTable$Row" (some 2) with
  accessFlags := 48
  interfaces := #[]
  cf := some (fileOf pool31 8 #[.nestHost 69] #[{ accessFlags := 0, nameIndex := 5, descriptorIndex := 56, attributes := #[] }, { accessFlags := 0, nameIndex := 60, descriptorIndex := 61, attributes := #[] }, { accessFlags := 0, nameIndex := 18, descriptorIndex := 19, attributes := #[] }] 48 2 #[] #[{ accessFlags := 18, nameIndex := 11, descriptorIndex := 12, attributes := #[] }, { accessFlags := 18, nameIndex := 15, descriptorIndex := 12, attributes := #[] }])
  fields := #[{ name := "row", type := (.object "com/example/latticube/latticube/csv/CsvTable$Row"), accessFlags := 18, slot := 0, constantValue := 0 }, { name := "match", type := (.object "com/example/latticube/latticube/csv/CsvTable$Row"), accessFlags := 18, slot := 1, constantValue := 0 }]
  methods := #[k31m0, k31m1, k31m2]
  instanceTypes := #[(.object "com/example/latticube/latticube/csv/CsvTable$Row"), (.object "com/example/latticube/latticube/csv/CsvTable$Row")]
  staticTypes := #[]
  resolved := Array.replicate 94 none
  statics := none }

def pool32 : Array CpInfo := pool [(2, .class_ 4), (1, u "java/lang/Object"), (0, u "<init>"), (0, u "()V"), (17, .class_ 26), (1, u "jdk/internal/util/Preconditions"), (28, .class_ 56), (0, u "jdk/internal/util/Preconditions$4"), (57, .class_ 115), (0, u "jdk/internal/util/Preconditions$1"), (7, u "SIOOBE_FORMATTER"), (0, u "Ljava/util/function/BiFunction;"), (0, .class_ 126), (0, u "jdk/internal/util/Preconditions$2"), (3, u "AIOOBE_FORMATTER"), (0, .class_ 132), (0, u "jdk/internal/util/Preconditions$3"), (3, u "IOOBE_FORMATTER")] 57

def k32m0 : Method := { name := "<init>", desc := "()V", sig := { parameters := [], returnType := none }, accessFlags := 1, code := none }
/-- jdk/internal/util/Preconditions -/
def k32 : Class := { plain "jdk/internal/util/Preconditions" (some 0) with
  accessFlags := 33
  interfaces := #[]
  cf := some (fileOf pool32 24 #[.nestMembers #[55, 131, 125, 114]] #[{ accessFlags := 1, nameIndex := 5, descriptorIndex := 6, attributes := #[] }] 33 2 #[] #[{ accessFlags := 25, nameIndex := 123, descriptorIndex := 124, attributes := #[] }, { accessFlags := 25, nameIndex := 130, descriptorIndex := 124, attributes := #[] }, { accessFlags := 25, nameIndex := 136, descriptorIndex := 124, attributes := #[] }])
  fields := #[{ name := "SIOOBE_FORMATTER", type := (.object "java/util/function/BiFunction"), accessFlags := 25, slot := 0, constantValue := 0 }, { name := "AIOOBE_FORMATTER", type := (.object "java/util/function/BiFunction"), accessFlags := 25, slot := 1, constantValue := 0 }, { name := "IOOBE_FORMATTER", type := (.object "java/util/function/BiFunction"), accessFlags := 25, slot := 2, constantValue := 0 }]
  methods := #[k32m0]
  instanceTypes := #[]
  staticTypes := #[(.object "java/util/function/BiFunction"), (.object "java/util/function/BiFunction"), (.object "java/util/function/BiFunction")]
  resolved := Array.replicate 194 none
  statics := some 3 }

def pool33 : Array CpInfo := pool [(9, u "<init>"), (6, .class_ 18), (1, u "java/lang/Object"), (0, u "()V"), (1, .class_ 23), (1, u "jdk/internal/util/ArraysSupport"), (0, u "LOG2_ARRAY_LONG_INDEX_SCALE"), (0, u "I"), (2, u "U"), (0, u "Ljdk/internal/misc/Unsafe;"), (8, u "BIG_ENDIAN"), (0, u "Z"), (8, u "LOG2_BYTE_BIT_SIZE"), (4, u "LOG2_ARRAY_INT_INDEX_SCALE"), (54, u "JLA"), (0, u "Ljdk/internal/access/JavaLangAccess;"), (11, u "LOG2_ARRAY_BOOLEAN_INDEX_SCALE"), (9, u "LOG2_ARRAY_BYTE_INDEX_SCALE"), (5, u "LOG2_ARRAY_CHAR_INDEX_SCALE"), (5, u "LOG2_ARRAY_SHORT_INDEX_SCALE"), (18, u "LOG2_ARRAY_FLOAT_INDEX_SCALE"), (24, u "LOG2_ARRAY_DOUBLE_INDEX_SCALE"), (89, u "T_BOOLEAN"), (2, u "T_CHAR"), (1, u "T_FLOAT"), (1, u "T_DOUBLE"), (1, u "T_BYTE"), (1, u "T_SHORT"), (1, u "T_INT"), (1, u "T_LONG"), (1, u "SOFT_MAX_ARRAY_LENGTH")] 83

def k33m0 : Method := { name := "<init>", desc := "()V", sig := { parameters := [], returnType := none }, accessFlags := 2, code := none }
/-- jdk/internal/util/ArraysSupport -/
def k33 : Class := { plain "jdk/internal/util/ArraysSupport" (some 0) with
  accessFlags := 33
  interfaces := #[]
  cf := some (fileOf pool33 21 #[] #[{ accessFlags := 2, nameIndex := 9, descriptorIndex := 19, attributes := #[] }] 33 16 #[] #[{ accessFlags := 24, nameIndex := 28, descriptorIndex := 29, attributes := #[] }, { accessFlags := 26, nameIndex := 38, descriptorIndex := 39, attributes := #[] }, { accessFlags := 25, nameIndex := 121, descriptorIndex := 25, attributes := #[] }, { accessFlags := 25, nameIndex := 131, descriptorIndex := 25, attributes := #[] }, { accessFlags := 25, nameIndex := 137, descriptorIndex := 25, attributes := #[] }, { accessFlags := 25, nameIndex := 143, descriptorIndex := 25, attributes := #[] }, { accessFlags := 25, nameIndex := 53, descriptorIndex := 25, attributes := #[] }, { accessFlags := 25, nameIndex := 24, descriptorIndex := 25, attributes := #[] }, { accessFlags := 25, nameIndex := 162, descriptorIndex := 25, attributes := #[] }, { accessFlags := 25, nameIndex := 187, descriptorIndex := 25, attributes := #[] }, { accessFlags := 26, nameIndex := 48, descriptorIndex := 25, attributes := #[] }, { accessFlags := 25, nameIndex := 277, descriptorIndex := 25, attributes := #[] }, { accessFlags := 25, nameIndex := 280, descriptorIndex := 25, attributes := #[] }, { accessFlags := 25, nameIndex := 282, descriptorIndex := 25, attributes := #[] }, { accessFlags := 25, nameIndex := 284, descriptorIndex := 25, attributes := #[] }, { accessFlags := 25, nameIndex := 286, descriptorIndex := 25, attributes := #[] }, { accessFlags := 25, nameIndex := 288, descriptorIndex := 25, attributes := #[] }, { accessFlags := 25, nameIndex := 290, descriptorIndex := 25, attributes := #[] }, { accessFlags := 25, nameIndex := 292, descriptorIndex := 25, attributes := #[] }, { accessFlags := 26, nameIndex := 108, descriptorIndex := 109, attributes := #[] }, { accessFlags := 25, nameIndex := 294, descriptorIndex := 25, attributes := #[] }])
  fields := #[{ name := "U", type := (.object "jdk/internal/misc/Unsafe"), accessFlags := 24, slot := 0, constantValue := 0 }, { name := "BIG_ENDIAN", type := .boolean, accessFlags := 26, slot := 1, constantValue := 0 }, { name := "LOG2_ARRAY_BOOLEAN_INDEX_SCALE", type := .int, accessFlags := 25, slot := 2, constantValue := 0 }, { name := "LOG2_ARRAY_BYTE_INDEX_SCALE", type := .int, accessFlags := 25, slot := 3, constantValue := 0 }, { name := "LOG2_ARRAY_CHAR_INDEX_SCALE", type := .int, accessFlags := 25, slot := 4, constantValue := 0 }, { name := "LOG2_ARRAY_SHORT_INDEX_SCALE", type := .int, accessFlags := 25, slot := 5, constantValue := 0 }, { name := "LOG2_ARRAY_INT_INDEX_SCALE", type := .int, accessFlags := 25, slot := 6, constantValue := 0 }, { name := "LOG2_ARRAY_LONG_INDEX_SCALE", type := .int, accessFlags := 25, slot := 7, constantValue := 0 }, { name := "LOG2_ARRAY_FLOAT_INDEX_SCALE", type := .int, accessFlags := 25, slot := 8, constantValue := 0 }, { name := "LOG2_ARRAY_DOUBLE_INDEX_SCALE", type := .int, accessFlags := 25, slot := 9, constantValue := 0 }, { name := "LOG2_BYTE_BIT_SIZE", type := .int, accessFlags := 26, slot := 10, constantValue := 0 }, { name := "T_BOOLEAN", type := .int, accessFlags := 25, slot := 11, constantValue := 0 }, { name := "T_CHAR", type := .int, accessFlags := 25, slot := 12, constantValue := 0 }, { name := "T_FLOAT", type := .int, accessFlags := 25, slot := 13, constantValue := 0 }, { name := "T_DOUBLE", type := .int, accessFlags := 25, slot := 14, constantValue := 0 }, { name := "T_BYTE", type := .int, accessFlags := 25, slot := 15, constantValue := 0 }, { name := "T_SHORT", type := .int, accessFlags := 25, slot := 16, constantValue := 0 }, { name := "T_INT", type := .int, accessFlags := 25, slot := 17, constantValue := 0 }, { name := "T_LONG", type := .int, accessFlags := 25, slot := 18, constantValue := 0 }, { name := "JLA", type := (.object "jdk/internal/access/JavaLangAccess"), accessFlags := 26, slot := 19, constantValue := 0 }, { name := "SOFT_MAX_ARRAY_LENGTH", type := .int, accessFlags := 25, slot := 20, constantValue := 0 }]
  methods := #[k33m0]
  instanceTypes := #[]
  staticTypes := #[(.object "jdk/internal/misc/Unsafe"), .boolean, .int, .int, .int, .int, .int, .int, .int, .int, .int, .int, .int, .int, .int, .int, .int, .int, .int, (.object "jdk/internal/access/JavaLangAccess"), .int]
  resolved := Array.replicate 378 none
  statics := none }

def pool34 : Array CpInfo := pool [(1, .class_ 2), (0, u "java/lang/Class"), (0, .class_ 4), (0, u "java/lang/Object")] 0

/-- java/lang/Class -/
def k34 : Class := { plain "java/lang/Class" (some 0) with
  accessFlags := 49
  interfaces := #[]
  cf := some (fileOf pool34 1 #[] #[] 49 3 #[] #[])
  fields := #[]
  methods := #[]
  instanceTypes := #[]
  staticTypes := #[]
  resolved := Array.replicate 5 none
  statics := none }

/-- the primitive byte -/
def k35 : Class := { plain "byte" none with kind := .primitive 'B', accessFlags := 0x411 }
/-- [B -/
def k36 : Class := { plain "[B" (some 0) with kind := .array 35 .byte, interfaces := #[11, 12], accessFlags := 1041 }

/-- the primitive char -/
def k37 : Class := { plain "char" none with kind := .primitive 'C', accessFlags := 0x411 }
/-- [C -/
def k38 : Class := { plain "[C" (some 0) with kind := .array 37 .char, interfaces := #[11, 12], accessFlags := 1041 }

/-- the primitive int -/
def k39 : Class := { plain "int" none with kind := .primitive 'I', accessFlags := 0x411 }
/-- [I -/
def k40 : Class := { plain "[I" (some 0) with kind := .array 39 .int, interfaces := #[11, 12], accessFlags := 1041 }

/-- [Ljava/lang/Object; -/
def k41 : Class := { plain "[Ljava/lang/Object;" (some 0) with kind := .array 0 (.object "java/lang/Object"), interfaces := #[11, 12], accessFlags := 1041, mirror := some 4 }

def heap : Heap := #[{ cls := 13, slots := #[.long 0, .int 0, .ref 5, .ref 6], vm := .statics 13 },
  { cls := 18, slots := #[.long 0, .int 1, .null, .int 0, .null, .int 0, .int 0], vm := .statics 18 },
  { cls := 21, slots := #[.long 0, .int 0, .null, .ref 7, .ref 8, .null, .null, .null, .int 0, .int 1], vm := .statics 21 },
  { cls := 32, slots := #[.null, .null, .null], vm := .statics 32 },
  { cls := 34, slots := #[], vm := .mirror 41 },
  { cls := 41, slots := #[], vm := .none },
  { cls := 41, slots := #[], vm := .none },
  { cls := 0, slots := #[], vm := .none },
  { cls := 25, slots := #[.null, .int 0], vm := .none }]
def classes : Array Class := #[k0, k1, k2, k3, k4, k5, k6, k7, k8, k9, k10, k11, k12, k13, k14, k15, k16, k17, k18, k19, k20, k21, k22, k23, k24, k25, k26, k27, k28, k29, k30, k31, k32, k33, k34, k35, k36, k37, k38, k39, k40, k41]
def interned : List (Array UInt16 × Addr) := []
def slotsUsed : Nat := 26
def theMethod : MethodId := ⟨1, 3⟩
def args0 : Array Value := #[.int 5, .int 1, .int 3, .long 2, .int 4, .int 7]
def aboutOver (below : List Frame) : State where
  vm := { classes := classes, interned := interned.toArray }
  heap := heap
  slotsUsed := slotsUsed
  threads := #[{ frames := .invoking theMethod args0 :: below }]
def below0 : List Frame := [.native { method := ⟨0, 0⟩, args := #[] }]
def about1 : State := aboutOver below0
def p0 : Program := .bare "" "" ""
def e0 : Env := launch0.env 0 0 0
theorem w_frames : about1.frames = Frame.invoking theMethod args0 :: below0 := rfl
set_option maxRecDepth 65536 in
theorem w_args : argsFit about1.vm theMethod args0 = true := by decide +kernel
set_option maxRecDepth 65536 in
theorem w_heap : heapFits about1 = true := by decide +kernel
set_option maxRecDepth 65536 in
theorem w_runnable : about1.curStatus? = some .runnable := by decide +kernel
set_option maxRecDepth 65536 in
theorem w_alone : about1.alone = true := by decide +kernel
set_option maxRecDepth 65536 in
theorem w_named : about1.methodNamed? x = some theMethod := by decide +kernel
set_option maxRecDepth 65536 in
theorem w_hears : about1.hears theMethod below0 = true := by decide +kernel
set_option maxRecDepth 65536 in
theorem w_ripe : about1.ripe theMethod args0 below0 = true := by decide +kernel
theorem w_running : about1.status = .running := rfl
set_option maxRecDepth 65536 in
theorem w_room : about1.hasRoom e0.platform room_1 = true :=
  launch0.hasRoom_least _ room_1 (by decide +kernel) (by decide +kernel) (by decide +kernel) (by decide +kernel) (by decide +kernel) (by decide +kernel)
theorem allAtoms_all (ts : List Jvm.Cond) (a : Array Jvm.Value) (st : Jvm.State) : (allAtoms ts).before a st = ts.all (fun c => c.before a st) := by
  induction ts with
  | nil => rfl
  | cons c t ih =>
    show (Jvm.Cond.and c (allAtoms t)).before a st = _
    rw [Jvm.Cond.before_and, ih, List.all_cons]
def words1 : List Jvm.Cond := Jvm.Cond.code x code maxLocals ret :: tables_1
/-- a 'code' word, met by the world's own term for the bytes: nothing is compared byte by byte -/
theorem code_word {y : MethodName} {bytes : ByteArray} {mx : Nat} {rt : Option FieldType} {a : Array Value} {s : State} {m : MethodId} {meth : Method} {c : Code} (h1 : s.methodNamed? y = some m) (h2 : s.vm.method? m = some meth) (h3 : meth.code = some c) (h4 : c.code = bytes)
    (h5 : (c.maxLocals == mx && c.exceptionTable.isEmpty && decide (c.maxStack ≤ mostOperands) && decide (meth.sig.returnType = rt) && !meth.locks && decide (parseMethodDescriptor y.desc = some meth.sig)) = true) : (Jvm.Cond.code y bytes mx rt).before a s = true := by
  simp only [Bool.and_eq_true, beq_iff_eq, Bool.not_eq_true', decide_eq_true_eq] at h5
  obtain ⟨⟨⟨⟨⟨g1, g2⟩, g3⟩, g4⟩, g5⟩, g6⟩ := h5
  simp [Cond.before, Cond.holds, Cond.value, h1, h2, h3, h4, g1, g2, g3, g4, g5, g6]
def isCode : Jvm.Cond → Bool
  | .code _ _ _ _ => true
  | _ => false
theorem all_split {L : List Jvm.Cond} {P : Jvm.Cond → Bool} (h1 : L.all (fun c => isCode c || P c) = true) (h2 : ∀ c ∈ L.filter isCode, P c = true) : L.all P = true := by
  refine List.all_eq_true.mpr fun c hc => ?_
  have h := List.all_eq_true.mp h1 c hc
  rcases Bool.eq_false_or_eq_true (isCode c) with hi | hi
  · exact h2 c (List.mem_filter.mpr ⟨hc, hi⟩)
  · simpa [hi] using h
set_option maxRecDepth 65536 in
theorem w_c0 : (Jvm.Cond.code x code maxLocals ret).before args0 about1 = true := code_word (m := ⟨1, 3⟩) (meth := k1m3) (c := k1c3) (by decide +kernel) rfl rfl rfl (by decide +kernel)
set_option maxRecDepth 65536 in
theorem w_c1 : (Jvm.Cond.code ({ cls := "com/example/latticube/latticube/spacefile/RowValuePinLaw", name := "fields", desc := "(CIJI)Ljava/util/ArrayList;" } : Jvm.MethodName) method_3_code (6 : Nat) (Option.some (Jvm.ClassFile.FieldType.object "java/util/ArrayList"))).before args0 about1 = true := code_word (m := ⟨1, 2⟩) (meth := k1m2) (c := k1c2) (by decide +kernel) rfl rfl rfl (by decide +kernel)
set_option maxRecDepth 65536 in
theorem w_c2 : (Jvm.Cond.code ({ cls := "java/util/ArrayList", name := "<init>", desc := "()V" } : Jvm.MethodName) jdk_38_method_2_code (1 : Nat) (Option.none : Option Jvm.ClassFile.FieldType)).before args0 about1 = true := code_word (m := ⟨13, 0⟩) (meth := k13m0) (c := k13c0) (by decide +kernel) rfl rfl rfl (by decide +kernel)
set_option maxRecDepth 65536 in
theorem w_c3 : (Jvm.Cond.code ({ cls := "java/util/AbstractList", name := "<init>", desc := "()V" } : Jvm.MethodName) jdk_39_method_1_code (1 : Nat) (Option.none : Option Jvm.ClassFile.FieldType)).before args0 about1 = true := code_word (m := ⟨9, 0⟩) (meth := k9m0) (c := k9c0) (by decide +kernel) rfl rfl rfl (by decide +kernel)
set_option maxRecDepth 65536 in
theorem w_c4 : (Jvm.Cond.code ({ cls := "java/util/AbstractCollection", name := "<init>", desc := "()V" } : Jvm.MethodName) jdk_22_method_1_code (1 : Nat) (Option.none : Option Jvm.ClassFile.FieldType)).before args0 about1 = true := code_word (m := ⟨6, 0⟩) (meth := k6m0) (c := k6c0) (by decide +kernel) rfl rfl rfl (by decide +kernel)
set_option maxRecDepth 65536 in
theorem w_c5 : (Jvm.Cond.code ({ cls := "java/lang/Object", name := "<init>", desc := "()V" } : Jvm.MethodName) object_method_1_code (1 : Nat) (Option.none : Option Jvm.ClassFile.FieldType)).before args0 about1 = true := code_word (m := ⟨0, 0⟩) (meth := k0m0) (c := k0c0) (by decide +kernel) rfl rfl rfl (by decide +kernel)
set_option maxRecDepth 65536 in
theorem w_c6 : (Jvm.Cond.code ({ cls := "com/example/latticube/latticube/spacefile/RowValuePinLaw", name := "field", desc := "(CJI)Ljava/lang/String;" } : Jvm.MethodName) method_2_code (4 : Nat) (Option.some (Jvm.ClassFile.FieldType.object "java/lang/String"))).before args0 about1 = true := code_word (m := ⟨1, 1⟩) (meth := k1m1) (c := k1c1) (by decide +kernel) rfl rfl rfl (by decide +kernel)
set_option maxRecDepth 65536 in
theorem w_c7 : (Jvm.Cond.code ({ cls := "java/lang/String", name := "<init>", desc := "([C)V" } : Jvm.MethodName) jdk_42_method_3_code (2 : Nat) (Option.none : Option Jvm.ClassFile.FieldType)).before args0 about1 = true := code_word (m := ⟨18, 1⟩) (meth := k18m1) (c := k18c1) (by decide +kernel) rfl rfl rfl (by decide +kernel)
set_option maxRecDepth 65536 in
theorem w_c8 : (Jvm.Cond.code ({ cls := "java/lang/String", name := "<init>", desc := "([CIILjava/lang/Void;)V" } : Jvm.MethodName) jdk_42_method_149_code (6 : Nat) (Option.none : Option Jvm.ClassFile.FieldType)).before args0 about1 = true := code_word (m := ⟨18, 4⟩) (meth := k18m4) (c := k18c4) (by decide +kernel) rfl rfl rfl (by decide +kernel)
set_option maxRecDepth 65536 in
theorem w_c9 : (Jvm.Cond.code ({ cls := "java/lang/StringUTF16", name := "compress", desc := "([CII)[B" } : Jvm.MethodName) jdk_52_method_16_code (6 : Nat) (Option.some (Jvm.ClassFile.FieldType.array Jvm.ClassFile.FieldType.byte))).before args0 about1 = true := code_word (m := ⟨19, 2⟩) (meth := k19m2) (c := k19c2) (by decide +kernel) rfl rfl rfl (by decide +kernel)
set_option maxRecDepth 65536 in
theorem w_c10 : (Jvm.Cond.code ({ cls := "java/lang/StringUTF16", name := "compress", desc := "([CI[BII)I" } : Jvm.MethodName) jdk_52_method_21_code (7 : Nat) (Option.some Jvm.ClassFile.FieldType.int)).before args0 about1 = true := code_word (m := ⟨19, 3⟩) (meth := k19m3) (c := k19c3) (by decide +kernel) rfl rfl rfl (by decide +kernel)
set_option maxRecDepth 65536 in
theorem w_c11 : (Jvm.Cond.code ({ cls := "java/lang/StringUTF16", name := "coderFromArrayLen", desc := "([BI)B" } : Jvm.MethodName) jdk_52_method_15_code (2 : Nat) (Option.some Jvm.ClassFile.FieldType.byte)).before args0 about1 = true := code_word (m := ⟨19, 1⟩) (meth := k19m1) (c := k19c1) (by decide +kernel) rfl rfl rfl (by decide +kernel)
set_option maxRecDepth 65536 in
theorem w_c12 : (Jvm.Cond.code ({ cls := "java/util/ArrayList", name := "add", desc := "(Ljava/lang/Object;)Z" } : Jvm.MethodName) jdk_38_method_25_code (2 : Nat) (Option.some Jvm.ClassFile.FieldType.boolean)).before args0 about1 = true := code_word (m := ⟨13, 6⟩) (meth := k13m6) (c := k13c6) (by decide +kernel) rfl rfl rfl (by decide +kernel)
set_option maxRecDepth 65536 in
theorem w_c13 : (Jvm.Cond.code ({ cls := "java/util/ArrayList", name := "add", desc := "(Ljava/lang/Object;[Ljava/lang/Object;I)V" } : Jvm.MethodName) jdk_38_method_24_code (4 : Nat) (Option.none : Option Jvm.ClassFile.FieldType)).before args0 about1 = true := code_word (m := ⟨13, 5⟩) (meth := k13m5) (c := k13c5) (by decide +kernel) rfl rfl rfl (by decide +kernel)
set_option maxRecDepth 65536 in
theorem w_c14 : (Jvm.Cond.code ({ cls := "java/util/ArrayList", name := "grow", desc := "()[Ljava/lang/Object;" } : Jvm.MethodName) jdk_38_method_7_code (1 : Nat) (Option.some (Jvm.ClassFile.FieldType.array (Jvm.ClassFile.FieldType.object "java/lang/Object")))).before args0 about1 = true := code_word (m := ⟨13, 2⟩) (meth := k13m2) (c := k13c2) (by decide +kernel) rfl rfl rfl (by decide +kernel)
set_option maxRecDepth 65536 in
theorem w_c15 : (Jvm.Cond.code ({ cls := "java/util/ArrayList", name := "grow", desc := "(I)[Ljava/lang/Object;" } : Jvm.MethodName) jdk_38_method_6_code (4 : Nat) (Option.some (Jvm.ClassFile.FieldType.array (Jvm.ClassFile.FieldType.object "java/lang/Object")))).before args0 about1 = true := code_word (m := ⟨13, 1⟩) (meth := k13m1) (c := k13c1) (by decide +kernel) rfl rfl rfl (by decide +kernel)
set_option maxRecDepth 65536 in
theorem w_c16 : (Jvm.Cond.code ({ cls := "java/lang/Math", name := "max", desc := "(II)I" } : Jvm.MethodName) jdk_29_method_65_code (2 : Nat) (Option.some Jvm.ClassFile.FieldType.int)).before args0 about1 = true := code_word (m := ⟨20, 1⟩) (meth := k20m1) (c := k20c1) (by decide +kernel) rfl rfl rfl (by decide +kernel)
set_option maxRecDepth 65536 in
theorem w_c17 : (Jvm.Cond.code ({ cls := "com/example/latticube/latticube/csv/CsvTable$Row", name := "<init>", desc := "(ILjava/util/List;)V" } : Jvm.MethodName) prog_28_method_1_code (3 : Nat) (Option.none : Option Jvm.ClassFile.FieldType)).before args0 about1 = true := code_word (m := ⟨3, 0⟩) (meth := k3m0) (c := k3c0) (by decide +kernel) rfl rfl rfl (by decide +kernel)
set_option maxRecDepth 65536 in
theorem w_c18 : (Jvm.Cond.code ({ cls := "java/lang/Record", name := "<init>", desc := "()V" } : Jvm.MethodName) jdk_30_method_1_code (1 : Nat) (Option.none : Option Jvm.ClassFile.FieldType)).before args0 about1 = true := code_word (m := ⟨2, 0⟩) (meth := k2m0) (c := k2c0) (by decide +kernel) rfl rfl rfl (by decide +kernel)
set_option maxRecDepth 65536 in
theorem w_c19 : (Jvm.Cond.code ({ cls := "java/util/List", name := "copyOf", desc := "(Ljava/util/Collection;)Ljava/util/List;" } : Jvm.MethodName) jdk_40_method_48_code (1 : Nat) (Option.some (Jvm.ClassFile.FieldType.object "java/util/List"))).before args0 about1 = true := code_word (m := ⟨8, 2⟩) (meth := k8m2) (c := k8c2) (by decide +kernel) rfl rfl rfl (by decide +kernel)
set_option maxRecDepth 65536 in
theorem w_c20 : (Jvm.Cond.code ({ cls := "java/util/ImmutableCollections", name := "listCopy", desc := "(Ljava/util/Collection;)Ljava/util/List;" } : Jvm.MethodName) jdk_56_method_3_code (2 : Nat) (Option.some (Jvm.ClassFile.FieldType.object "java/util/List"))).before args0 about1 = true := code_word (m := ⟨21, 1⟩) (meth := k21m1) (c := k21c1) (by decide +kernel) rfl rfl rfl (by decide +kernel)
set_option maxRecDepth 65536 in
theorem w_c21 : (Jvm.Cond.code ({ cls := "java/util/ArrayList", name := "isEmpty", desc := "()Z" } : Jvm.MethodName) jdk_38_method_9_code (1 : Nat) (Option.some Jvm.ClassFile.FieldType.boolean)).before args0 about1 = true := code_word (m := ⟨13, 3⟩) (meth := k13m3) (c := k13c3) (by decide +kernel) rfl rfl rfl (by decide +kernel)
set_option maxRecDepth 65536 in
theorem w_c22 : (Jvm.Cond.code ({ cls := "java/util/ArrayList", name := "toArray", desc := "()[Ljava/lang/Object;" } : Jvm.MethodName) jdk_38_method_16_code (1 : Nat) (Option.some (Jvm.ClassFile.FieldType.array (Jvm.ClassFile.FieldType.object "java/lang/Object")))).before args0 about1 = true := code_word (m := ⟨13, 4⟩) (meth := k13m4) (c := k13c4) (by decide +kernel) rfl rfl rfl (by decide +kernel)
set_option maxRecDepth 65536 in
theorem w_c23 : (Jvm.Cond.code ({ cls := "java/util/Arrays", name := "copyOf", desc := "([Ljava/lang/Object;I)[Ljava/lang/Object;" } : Jvm.MethodName) jdk_65_method_119_code (2 : Nat) (Option.some (Jvm.ClassFile.FieldType.array (Jvm.ClassFile.FieldType.object "java/lang/Object")))).before args0 about1 = true := code_word (m := ⟨26, 1⟩) (meth := k26m1) (c := k26c1) (by decide +kernel) rfl rfl rfl (by decide +kernel)
set_option maxRecDepth 65536 in
theorem w_c24 : (Jvm.Cond.code ({ cls := "java/util/Arrays", name := "copyOf", desc := "([Ljava/lang/Object;ILjava/lang/Class;)[Ljava/lang/Object;" } : Jvm.MethodName) jdk_65_method_120_code (4 : Nat) (Option.some (Jvm.ClassFile.FieldType.array (Jvm.ClassFile.FieldType.object "java/lang/Object")))).before args0 about1 = true := code_word (m := ⟨26, 2⟩) (meth := k26m2) (c := k26c2) (by decide +kernel) rfl rfl rfl (by decide +kernel)
set_option maxRecDepth 65536 in
theorem w_c25 : (Jvm.Cond.code ({ cls := "java/lang/Math", name := "min", desc := "(II)I" } : Jvm.MethodName) jdk_29_method_69_code (2 : Nat) (Option.some Jvm.ClassFile.FieldType.int)).before args0 about1 = true := code_word (m := ⟨20, 2⟩) (meth := k20m2) (c := k20c2) (by decide +kernel) rfl rfl rfl (by decide +kernel)
set_option maxRecDepth 65536 in
theorem w_c26 : (Jvm.Cond.code ({ cls := "java/util/List", name := "of", desc := "([Ljava/lang/Object;)Ljava/util/List;" } : Jvm.MethodName) jdk_40_method_47_code (2 : Nat) (Option.some (Jvm.ClassFile.FieldType.object "java/util/List"))).before args0 about1 = true := code_word (m := ⟨8, 1⟩) (meth := k8m1) (c := k8c1) (by decide +kernel) rfl rfl rfl (by decide +kernel)
set_option maxRecDepth 65536 in
theorem w_c27 : (Jvm.Cond.code ({ cls := "java/util/ImmutableCollections$List12", name := "<init>", desc := "(Ljava/lang/Object;)V" } : Jvm.MethodName) jdk_44_method_1_code (2 : Nat) (Option.none : Option Jvm.ClassFile.FieldType)).before args0 about1 = true := code_word (m := ⟨24, 0⟩) (meth := k24m0) (c := k24c0) (by decide +kernel) rfl rfl rfl (by decide +kernel)
set_option maxRecDepth 65536 in
theorem w_c28 : (Jvm.Cond.code ({ cls := "java/util/ImmutableCollections$AbstractImmutableList", name := "<init>", desc := "()V" } : Jvm.MethodName) jdk_46_method_1_code (1 : Nat) (Option.none : Option Jvm.ClassFile.FieldType)).before args0 about1 = true := code_word (m := ⟨23, 0⟩) (meth := k23m0) (c := k23c0) (by decide +kernel) rfl rfl rfl (by decide +kernel)
set_option maxRecDepth 65536 in
theorem w_c29 : (Jvm.Cond.code ({ cls := "java/util/ImmutableCollections$AbstractImmutableCollection", name := "<init>", desc := "()V" } : Jvm.MethodName) jdk_47_method_1_code (1 : Nat) (Option.none : Option Jvm.ClassFile.FieldType)).before args0 about1 = true := code_word (m := ⟨22, 0⟩) (meth := k22m0) (c := k22c0) (by decide +kernel) rfl rfl rfl (by decide +kernel)
set_option maxRecDepth 65536 in
theorem w_c30 : (Jvm.Cond.code ({ cls := "java/util/Objects", name := "requireNonNull", desc := "(Ljava/lang/Object;)Ljava/lang/Object;" } : Jvm.MethodName) jdk_31_method_10_code (1 : Nat) (Option.some (Jvm.ClassFile.FieldType.object "java/lang/Object"))).before args0 about1 = true := code_word (m := ⟨28, 1⟩) (meth := k28m1) (c := k28c1) (by decide +kernel) rfl rfl rfl (by decide +kernel)
set_option maxRecDepth 65536 in
theorem w_c31 : (Jvm.Cond.code ({ cls := "java/lang/String", name := "valueOf", desc := "(C)Ljava/lang/String;" } : Jvm.MethodName) jdk_42_method_139_code (1 : Nat) (Option.some (Jvm.ClassFile.FieldType.object "java/lang/String"))).before args0 about1 = true := code_word (m := ⟨18, 3⟩) (meth := k18m3) (c := k18c3) (by decide +kernel) rfl rfl rfl (by decide +kernel)
set_option maxRecDepth 65536 in
theorem w_c32 : (Jvm.Cond.code ({ cls := "java/lang/StringLatin1", name := "canEncode", desc := "(C)Z" } : Jvm.MethodName) jdk_43_method_3_code (1 : Nat) (Option.some Jvm.ClassFile.FieldType.boolean)).before args0 about1 = true := code_word (m := ⟨30, 1⟩) (meth := k30m1) (c := k30c1) (by decide +kernel) rfl rfl rfl (by decide +kernel)
set_option maxRecDepth 65536 in
theorem w_c33 : (Jvm.Cond.code ({ cls := "java/lang/StringLatin1", name := "toBytes", desc := "(C)[B" } : Jvm.MethodName) jdk_43_method_46_code (1 : Nat) (Option.some (Jvm.ClassFile.FieldType.array Jvm.ClassFile.FieldType.byte))).before args0 about1 = true := code_word (m := ⟨30, 3⟩) (meth := k30m3) (c := k30c3) (by decide +kernel) rfl rfl rfl (by decide +kernel)
set_option maxRecDepth 65536 in
theorem w_c34 : (Jvm.Cond.code ({ cls := "java/lang/String", name := "<init>", desc := "([BB)V" } : Jvm.MethodName) jdk_42_method_151_code (3 : Nat) (Option.none : Option Jvm.ClassFile.FieldType)).before args0 about1 = true := code_word (m := ⟨18, 5⟩) (meth := k18m5) (c := k18c5) (by decide +kernel) rfl rfl rfl (by decide +kernel)
set_option maxRecDepth 65536 in
theorem w_c35 : (Jvm.Cond.code ({ cls := "com/example/latticube/latticube/spacefile/DimensionTable$Column", name := "<init>", desc := "(Ljava/lang/String;IZ)V" } : Jvm.MethodName) prog_68_method_1_code (4 : Nat) (Option.none : Option Jvm.ClassFile.FieldType)).before args0 about1 = true := code_word (m := ⟨29, 0⟩) (meth := k29m0) (c := k29c0) (by decide +kernel) rfl rfl rfl (by decide +kernel)
set_option maxRecDepth 65536 in
theorem w_c36 : (Jvm.Cond.code ({ cls := "com/example/latticube/latticube/spacefile/DimensionTable$Row", name := "<init>", desc := "(Lcom/example/latticube/latticube/csv/CsvTable$Row;Lcom/example/latticube/latticube/csv/CsvTable$Row;)V" } : Jvm.MethodName) prog_70_method_1_code (3 : Nat) (Option.none : Option Jvm.ClassFile.FieldType)).before args0 about1 = true := code_word (m := ⟨31, 0⟩) (meth := k31m0) (c := k31c0) (by decide +kernel) rfl rfl rfl (by decide +kernel)
set_option maxRecDepth 65536 in
theorem w_c37 : (Jvm.Cond.code ({ cls := "com/example/latticube/latticube/spacefile/DimensionTable$Row", name := "value", desc := "(Lcom/example/latticube/latticube/spacefile/DimensionTable$Column;)Ljava/lang/String;" } : Jvm.MethodName) prog_70_method_2_code (2 : Nat) (Option.some (Jvm.ClassFile.FieldType.object "java/lang/String"))).before args0 about1 = true := code_word (m := ⟨31, 1⟩) (meth := k31m1) (c := k31c1) (by decide +kernel) rfl rfl rfl (by decide +kernel)
set_option maxRecDepth 65536 in
theorem w_c38 : (Jvm.Cond.code ({ cls := "com/example/latticube/latticube/spacefile/DimensionTable$Row", name := "source", desc := "(Lcom/example/latticube/latticube/spacefile/DimensionTable$Column;)Lcom/example/latticube/latticube/csv/CsvTable$Row;" } : Jvm.MethodName) prog_70_method_3_code (2 : Nat) (Option.some (Jvm.ClassFile.FieldType.object "com/example/latticube/latticube/csv/CsvTable$Row"))).before args0 about1 = true := code_word (m := ⟨31, 2⟩) (meth := k31m2) (c := k31c2) (by decide +kernel) rfl rfl rfl (by decide +kernel)
set_option maxRecDepth 65536 in
theorem w_c39 : (Jvm.Cond.code ({ cls := "com/example/latticube/latticube/spacefile/DimensionTable$Column", name := "inJoined", desc := "()Z" } : Jvm.MethodName) prog_68_method_7_code (1 : Nat) (Option.some Jvm.ClassFile.FieldType.boolean)).before args0 about1 = true := code_word (m := ⟨29, 2⟩) (meth := k29m2) (c := k29c2) (by decide +kernel) rfl rfl rfl (by decide +kernel)
set_option maxRecDepth 65536 in
theorem w_c40 : (Jvm.Cond.code ({ cls := "com/example/latticube/latticube/csv/CsvTable$Row", name := "fields", desc := "()Ljava/util/List;" } : Jvm.MethodName) prog_28_method_6_code (1 : Nat) (Option.some (Jvm.ClassFile.FieldType.object "java/util/List"))).before args0 about1 = true := code_word (m := ⟨3, 1⟩) (meth := k3m1) (c := k3c1) (by decide +kernel) rfl rfl rfl (by decide +kernel)
set_option maxRecDepth 65536 in
theorem w_c41 : (Jvm.Cond.code ({ cls := "com/example/latticube/latticube/spacefile/DimensionTable$Column", name := "index", desc := "()I" } : Jvm.MethodName) prog_68_method_6_code (1 : Nat) (Option.some Jvm.ClassFile.FieldType.int)).before args0 about1 = true := code_word (m := ⟨29, 1⟩) (meth := k29m1) (c := k29c1) (by decide +kernel) rfl rfl rfl (by decide +kernel)
set_option maxRecDepth 65536 in
theorem w_c42 : (Jvm.Cond.code ({ cls := "java/util/ImmutableCollections$List12", name := "get", desc := "(I)Ljava/lang/Object;" } : Jvm.MethodName) jdk_44_method_5_code (2 : Nat) (Option.some (Jvm.ClassFile.FieldType.object "java/lang/Object"))).before args0 about1 = true := code_word (m := ⟨24, 2⟩) (meth := k24m2) (c := k24c2) (by decide +kernel) rfl rfl rfl (by decide +kernel)
set_option maxRecDepth 65536 in
theorem w_c43 : (Jvm.Cond.code ({ cls := "java/lang/String", name := "equals", desc := "(Ljava/lang/Object;)Z" } : Jvm.MethodName) jdk_42_method_66_code (3 : Nat) (Option.some Jvm.ClassFile.FieldType.boolean)).before args0 about1 = true := code_word (m := ⟨18, 2⟩) (meth := k18m2) (c := k18c2) (by decide +kernel) rfl rfl rfl (by decide +kernel)
set_option maxRecDepth 65536 in
theorem w_c44 : (Jvm.Cond.code ({ cls := "java/lang/StringLatin1", name := "equals", desc := "([B[B)Z" } : Jvm.MethodName) jdk_43_method_13_code (3 : Nat) (Option.some Jvm.ClassFile.FieldType.boolean)).before args0 about1 = true := code_word (m := ⟨30, 2⟩) (meth := k30m2) (c := k30c2) (by decide +kernel) rfl rfl rfl (by decide +kernel)
set_option maxRecDepth 65536 in
theorem w_c45 : (Jvm.Cond.code ({ cls := "java/util/ImmutableCollections$List12", name := "<init>", desc := "(Ljava/lang/Object;Ljava/lang/Object;)V" } : Jvm.MethodName) jdk_44_method_2_code (3 : Nat) (Option.none : Option Jvm.ClassFile.FieldType)).before args0 about1 = true := code_word (m := ⟨24, 1⟩) (meth := k24m1) (c := k24c1) (by decide +kernel) rfl rfl rfl (by decide +kernel)
set_option maxRecDepth 65536 in
theorem w_c46 : (Jvm.Cond.code ({ cls := "java/util/ImmutableCollections", name := "listFromArray", desc := "([Ljava/lang/Object;)Ljava/util/List;" } : Jvm.MethodName) jdk_56_method_4_code (3 : Nat) (Option.some (Jvm.ClassFile.FieldType.object "java/util/List"))).before args0 about1 = true := code_word (m := ⟨21, 2⟩) (meth := k21m2) (c := k21c2) (by decide +kernel) rfl rfl rfl (by decide +kernel)
set_option maxRecDepth 65536 in
theorem w_c47 : (Jvm.Cond.code ({ cls := "java/util/ImmutableCollections$ListN", name := "<init>", desc := "([Ljava/lang/Object;Z)V" } : Jvm.MethodName) jdk_45_method_1_code (3 : Nat) (Option.none : Option Jvm.ClassFile.FieldType)).before args0 about1 = true := code_word (m := ⟨25, 0⟩) (meth := k25m0) (c := k25c0) (by decide +kernel) rfl rfl rfl (by decide +kernel)
set_option maxRecDepth 65536 in
theorem w_c48 : (Jvm.Cond.code ({ cls := "java/util/ImmutableCollections$ListN", name := "get", desc := "(I)Ljava/lang/Object;" } : Jvm.MethodName) jdk_45_method_4_code (2 : Nat) (Option.some (Jvm.ClassFile.FieldType.object "java/lang/Object"))).before args0 about1 = true := code_word (m := ⟨25, 1⟩) (meth := k25m1) (c := k25c1) (by decide +kernel) rfl rfl rfl (by decide +kernel)
def codes1 : List Jvm.Cond := [Jvm.Cond.code x code maxLocals ret, Jvm.Cond.code ({ cls := "com/example/latticube/latticube/spacefile/RowValuePinLaw", name := "fields", desc := "(CIJI)Ljava/util/ArrayList;" } : Jvm.MethodName) method_3_code (6 : Nat) (Option.some (Jvm.ClassFile.FieldType.object "java/util/ArrayList")), Jvm.Cond.code ({ cls := "java/util/ArrayList", name := "<init>", desc := "()V" } : Jvm.MethodName) jdk_38_method_2_code (1 : Nat) (Option.none : Option Jvm.ClassFile.FieldType), Jvm.Cond.code ({ cls := "java/util/AbstractList", name := "<init>", desc := "()V" } : Jvm.MethodName) jdk_39_method_1_code (1 : Nat) (Option.none : Option Jvm.ClassFile.FieldType), Jvm.Cond.code ({ cls := "java/util/AbstractCollection", name := "<init>", desc := "()V" } : Jvm.MethodName) jdk_22_method_1_code (1 : Nat) (Option.none : Option Jvm.ClassFile.FieldType), Jvm.Cond.code ({ cls := "java/lang/Object", name := "<init>", desc := "()V" } : Jvm.MethodName) object_method_1_code (1 : Nat) (Option.none : Option Jvm.ClassFile.FieldType), Jvm.Cond.code ({ cls := "com/example/latticube/latticube/spacefile/RowValuePinLaw", name := "field", desc := "(CJI)Ljava/lang/String;" } : Jvm.MethodName) method_2_code (4 : Nat) (Option.some (Jvm.ClassFile.FieldType.object "java/lang/String")), Jvm.Cond.code ({ cls := "java/lang/String", name := "<init>", desc := "([C)V" } : Jvm.MethodName) jdk_42_method_3_code (2 : Nat) (Option.none : Option Jvm.ClassFile.FieldType), Jvm.Cond.code ({ cls := "java/lang/String", name := "<init>", desc := "([CIILjava/lang/Void;)V" } : Jvm.MethodName) jdk_42_method_149_code (6 : Nat) (Option.none : Option Jvm.ClassFile.FieldType), Jvm.Cond.code ({ cls := "java/lang/StringUTF16", name := "compress", desc := "([CII)[B" } : Jvm.MethodName) jdk_52_method_16_code (6 : Nat) (Option.some (Jvm.ClassFile.FieldType.array Jvm.ClassFile.FieldType.byte)), Jvm.Cond.code ({ cls := "java/lang/StringUTF16", name := "compress", desc := "([CI[BII)I" } : Jvm.MethodName) jdk_52_method_21_code (7 : Nat) (Option.some Jvm.ClassFile.FieldType.int), Jvm.Cond.code ({ cls := "java/lang/StringUTF16", name := "coderFromArrayLen", desc := "([BI)B" } : Jvm.MethodName) jdk_52_method_15_code (2 : Nat) (Option.some Jvm.ClassFile.FieldType.byte), Jvm.Cond.code ({ cls := "java/util/ArrayList", name := "add", desc := "(Ljava/lang/Object;)Z" } : Jvm.MethodName) jdk_38_method_25_code (2 : Nat) (Option.some Jvm.ClassFile.FieldType.boolean), Jvm.Cond.code ({ cls := "java/util/ArrayList", name := "add", desc := "(Ljava/lang/Object;[Ljava/lang/Object;I)V" } : Jvm.MethodName) jdk_38_method_24_code (4 : Nat) (Option.none : Option Jvm.ClassFile.FieldType), Jvm.Cond.code ({ cls := "java/util/ArrayList", name := "grow", desc := "()[Ljava/lang/Object;" } : Jvm.MethodName) jdk_38_method_7_code (1 : Nat) (Option.some (Jvm.ClassFile.FieldType.array (Jvm.ClassFile.FieldType.object "java/lang/Object"))), Jvm.Cond.code ({ cls := "java/util/ArrayList", name := "grow", desc := "(I)[Ljava/lang/Object;" } : Jvm.MethodName) jdk_38_method_6_code (4 : Nat) (Option.some (Jvm.ClassFile.FieldType.array (Jvm.ClassFile.FieldType.object "java/lang/Object"))), Jvm.Cond.code ({ cls := "java/lang/Math", name := "max", desc := "(II)I" } : Jvm.MethodName) jdk_29_method_65_code (2 : Nat) (Option.some Jvm.ClassFile.FieldType.int), Jvm.Cond.code ({ cls := "com/example/latticube/latticube/csv/CsvTable$Row", name := "<init>", desc := "(ILjava/util/List;)V" } : Jvm.MethodName) prog_28_method_1_code (3 : Nat) (Option.none : Option Jvm.ClassFile.FieldType), Jvm.Cond.code ({ cls := "java/lang/Record", name := "<init>", desc := "()V" } : Jvm.MethodName) jdk_30_method_1_code (1 : Nat) (Option.none : Option Jvm.ClassFile.FieldType), Jvm.Cond.code ({ cls := "java/util/List", name := "copyOf", desc := "(Ljava/util/Collection;)Ljava/util/List;" } : Jvm.MethodName) jdk_40_method_48_code (1 : Nat) (Option.some (Jvm.ClassFile.FieldType.object "java/util/List")), Jvm.Cond.code ({ cls := "java/util/ImmutableCollections", name := "listCopy", desc := "(Ljava/util/Collection;)Ljava/util/List;" } : Jvm.MethodName) jdk_56_method_3_code (2 : Nat) (Option.some (Jvm.ClassFile.FieldType.object "java/util/List")), Jvm.Cond.code ({ cls := "java/util/ArrayList", name := "isEmpty", desc := "()Z" } : Jvm.MethodName) jdk_38_method_9_code (1 : Nat) (Option.some Jvm.ClassFile.FieldType.boolean), Jvm.Cond.code ({ cls := "java/util/ArrayList", name := "toArray", desc := "()[Ljava/lang/Object;" } : Jvm.MethodName) jdk_38_method_16_code (1 : Nat) (Option.some (Jvm.ClassFile.FieldType.array (Jvm.ClassFile.FieldType.object "java/lang/Object"))), Jvm.Cond.code ({ cls := "java/util/Arrays", name := "copyOf", desc := "([Ljava/lang/Object;I)[Ljava/lang/Object;" } : Jvm.MethodName) jdk_65_method_119_code (2 : Nat) (Option.some (Jvm.ClassFile.FieldType.array (Jvm.ClassFile.FieldType.object "java/lang/Object"))), Jvm.Cond.code ({ cls := "java/util/Arrays", name := "copyOf", desc := "([Ljava/lang/Object;ILjava/lang/Class;)[Ljava/lang/Object;" } : Jvm.MethodName) jdk_65_method_120_code (4 : Nat) (Option.some (Jvm.ClassFile.FieldType.array (Jvm.ClassFile.FieldType.object "java/lang/Object"))), Jvm.Cond.code ({ cls := "java/lang/Math", name := "min", desc := "(II)I" } : Jvm.MethodName) jdk_29_method_69_code (2 : Nat) (Option.some Jvm.ClassFile.FieldType.int), Jvm.Cond.code ({ cls := "java/util/List", name := "of", desc := "([Ljava/lang/Object;)Ljava/util/List;" } : Jvm.MethodName) jdk_40_method_47_code (2 : Nat) (Option.some (Jvm.ClassFile.FieldType.object "java/util/List")), Jvm.Cond.code ({ cls := "java/util/ImmutableCollections$List12", name := "<init>", desc := "(Ljava/lang/Object;)V" } : Jvm.MethodName) jdk_44_method_1_code (2 : Nat) (Option.none : Option Jvm.ClassFile.FieldType), Jvm.Cond.code ({ cls := "java/util/ImmutableCollections$AbstractImmutableList", name := "<init>", desc := "()V" } : Jvm.MethodName) jdk_46_method_1_code (1 : Nat) (Option.none : Option Jvm.ClassFile.FieldType), Jvm.Cond.code ({ cls := "java/util/ImmutableCollections$AbstractImmutableCollection", name := "<init>", desc := "()V" } : Jvm.MethodName) jdk_47_method_1_code (1 : Nat) (Option.none : Option Jvm.ClassFile.FieldType), Jvm.Cond.code ({ cls := "java/util/Objects", name := "requireNonNull", desc := "(Ljava/lang/Object;)Ljava/lang/Object;" } : Jvm.MethodName) jdk_31_method_10_code (1 : Nat) (Option.some (Jvm.ClassFile.FieldType.object "java/lang/Object")), Jvm.Cond.code ({ cls := "java/lang/String", name := "valueOf", desc := "(C)Ljava/lang/String;" } : Jvm.MethodName) jdk_42_method_139_code (1 : Nat) (Option.some (Jvm.ClassFile.FieldType.object "java/lang/String")), Jvm.Cond.code ({ cls := "java/lang/StringLatin1", name := "canEncode", desc := "(C)Z" } : Jvm.MethodName) jdk_43_method_3_code (1 : Nat) (Option.some Jvm.ClassFile.FieldType.boolean), Jvm.Cond.code ({ cls := "java/lang/StringLatin1", name := "toBytes", desc := "(C)[B" } : Jvm.MethodName) jdk_43_method_46_code (1 : Nat) (Option.some (Jvm.ClassFile.FieldType.array Jvm.ClassFile.FieldType.byte)), Jvm.Cond.code ({ cls := "java/lang/String", name := "<init>", desc := "([BB)V" } : Jvm.MethodName) jdk_42_method_151_code (3 : Nat) (Option.none : Option Jvm.ClassFile.FieldType), Jvm.Cond.code ({ cls := "com/example/latticube/latticube/spacefile/DimensionTable$Column", name := "<init>", desc := "(Ljava/lang/String;IZ)V" } : Jvm.MethodName) prog_68_method_1_code (4 : Nat) (Option.none : Option Jvm.ClassFile.FieldType), Jvm.Cond.code ({ cls := "com/example/latticube/latticube/spacefile/DimensionTable$Row", name := "<init>", desc := "(Lcom/example/latticube/latticube/csv/CsvTable$Row;Lcom/example/latticube/latticube/csv/CsvTable$Row;)V" } : Jvm.MethodName) prog_70_method_1_code (3 : Nat) (Option.none : Option Jvm.ClassFile.FieldType), Jvm.Cond.code ({ cls := "com/example/latticube/latticube/spacefile/DimensionTable$Row", name := "value", desc := "(Lcom/example/latticube/latticube/spacefile/DimensionTable$Column;)Ljava/lang/String;" } : Jvm.MethodName) prog_70_method_2_code (2 : Nat) (Option.some (Jvm.ClassFile.FieldType.object "java/lang/String")), Jvm.Cond.code ({ cls := "com/example/latticube/latticube/spacefile/DimensionTable$Row", name := "source", desc := "(Lcom/example/latticube/latticube/spacefile/DimensionTable$Column;)Lcom/example/latticube/latticube/csv/CsvTable$Row;" } : Jvm.MethodName) prog_70_method_3_code (2 : Nat) (Option.some (Jvm.ClassFile.FieldType.object "com/example/latticube/latticube/csv/CsvTable$Row")), Jvm.Cond.code ({ cls := "com/example/latticube/latticube/spacefile/DimensionTable$Column", name := "inJoined", desc := "()Z" } : Jvm.MethodName) prog_68_method_7_code (1 : Nat) (Option.some Jvm.ClassFile.FieldType.boolean), Jvm.Cond.code ({ cls := "com/example/latticube/latticube/csv/CsvTable$Row", name := "fields", desc := "()Ljava/util/List;" } : Jvm.MethodName) prog_28_method_6_code (1 : Nat) (Option.some (Jvm.ClassFile.FieldType.object "java/util/List")), Jvm.Cond.code ({ cls := "com/example/latticube/latticube/spacefile/DimensionTable$Column", name := "index", desc := "()I" } : Jvm.MethodName) prog_68_method_6_code (1 : Nat) (Option.some Jvm.ClassFile.FieldType.int), Jvm.Cond.code ({ cls := "java/util/ImmutableCollections$List12", name := "get", desc := "(I)Ljava/lang/Object;" } : Jvm.MethodName) jdk_44_method_5_code (2 : Nat) (Option.some (Jvm.ClassFile.FieldType.object "java/lang/Object")), Jvm.Cond.code ({ cls := "java/lang/String", name := "equals", desc := "(Ljava/lang/Object;)Z" } : Jvm.MethodName) jdk_42_method_66_code (3 : Nat) (Option.some Jvm.ClassFile.FieldType.boolean), Jvm.Cond.code ({ cls := "java/lang/StringLatin1", name := "equals", desc := "([B[B)Z" } : Jvm.MethodName) jdk_43_method_13_code (3 : Nat) (Option.some Jvm.ClassFile.FieldType.boolean), Jvm.Cond.code ({ cls := "java/util/ImmutableCollections$List12", name := "<init>", desc := "(Ljava/lang/Object;Ljava/lang/Object;)V" } : Jvm.MethodName) jdk_44_method_2_code (3 : Nat) (Option.none : Option Jvm.ClassFile.FieldType), Jvm.Cond.code ({ cls := "java/util/ImmutableCollections", name := "listFromArray", desc := "([Ljava/lang/Object;)Ljava/util/List;" } : Jvm.MethodName) jdk_56_method_4_code (3 : Nat) (Option.some (Jvm.ClassFile.FieldType.object "java/util/List")), Jvm.Cond.code ({ cls := "java/util/ImmutableCollections$ListN", name := "<init>", desc := "([Ljava/lang/Object;Z)V" } : Jvm.MethodName) jdk_45_method_1_code (3 : Nat) (Option.none : Option Jvm.ClassFile.FieldType), Jvm.Cond.code ({ cls := "java/util/ImmutableCollections$ListN", name := "get", desc := "(I)Ljava/lang/Object;" } : Jvm.MethodName) jdk_45_method_4_code (2 : Nat) (Option.some (Jvm.ClassFile.FieldType.object "java/lang/Object"))]
set_option maxRecDepth 65536 in
theorem codes_eq : words1.filter isCode = codes1 := rfl
theorem w_codes : ∀ c ∈ words1.filter isCode, c.before args0 about1 = true := by
  rw [codes_eq]
  intro c hc
  simp only [codes1, List.mem_cons, List.not_mem_nil, or_false] at hc
  rcases hc with rfl | rfl | rfl | rfl | rfl | rfl | rfl | rfl | rfl | rfl | rfl | rfl | rfl | rfl | rfl | rfl | rfl | rfl | rfl | rfl | rfl | rfl | rfl | rfl | rfl | rfl | rfl | rfl | rfl | rfl | rfl | rfl | rfl | rfl | rfl | rfl | rfl | rfl | rfl | rfl | rfl | rfl | rfl | rfl | rfl | rfl | rfl | rfl | rfl
  · exact w_c0
  · exact w_c1
  · exact w_c2
  · exact w_c3
  · exact w_c4
  · exact w_c5
  · exact w_c6
  · exact w_c7
  · exact w_c8
  · exact w_c9
  · exact w_c10
  · exact w_c11
  · exact w_c12
  · exact w_c13
  · exact w_c14
  · exact w_c15
  · exact w_c16
  · exact w_c17
  · exact w_c18
  · exact w_c19
  · exact w_c20
  · exact w_c21
  · exact w_c22
  · exact w_c23
  · exact w_c24
  · exact w_c25
  · exact w_c26
  · exact w_c27
  · exact w_c28
  · exact w_c29
  · exact w_c30
  · exact w_c31
  · exact w_c32
  · exact w_c33
  · exact w_c34
  · exact w_c35
  · exact w_c36
  · exact w_c37
  · exact w_c38
  · exact w_c39
  · exact w_c40
  · exact w_c41
  · exact w_c42
  · exact w_c43
  · exact w_c44
  · exact w_c45
  · exact w_c46
  · exact w_c47
  · exact w_c48
set_option maxRecDepth 65536 in
theorem w_t1 : (words1.take 24).all (fun c => isCode c || c.before args0 about1) = true := by decide +kernel
set_option maxRecDepth 65536 in
theorem w_t2 : ((words1.drop 24).take 24).all (fun c => isCode c || c.before args0 about1) = true := by decide +kernel
set_option maxRecDepth 65536 in
theorem w_t3 : (((words1.drop 24).drop 24).take 24).all (fun c => isCode c || c.before args0 about1) = true := by decide +kernel
set_option maxRecDepth 65536 in
theorem w_t4 : ((((words1.drop 24).drop 24).drop 24).take 24).all (fun c => isCode c || c.before args0 about1) = true := by decide +kernel
set_option maxRecDepth 65536 in
theorem w_t5 : (((((words1.drop 24).drop 24).drop 24).drop 24).take 24).all (fun c => isCode c || c.before args0 about1) = true := by decide +kernel
set_option maxRecDepth 65536 in
theorem w_t6 : ((((((words1.drop 24).drop 24).drop 24).drop 24).drop 24).take 24).all (fun c => isCode c || c.before args0 about1) = true := by decide +kernel
set_option maxRecDepth 65536 in
theorem w_t7 : (((((((words1.drop 24).drop 24).drop 24).drop 24).drop 24).drop 24).take 24).all (fun c => isCode c || c.before args0 about1) = true := by decide +kernel
set_option maxRecDepth 65536 in
theorem w_t8 : ((((((((words1.drop 24).drop 24).drop 24).drop 24).drop 24).drop 24).drop 24).take 24).all (fun c => isCode c || c.before args0 about1) = true := by decide +kernel
set_option maxRecDepth 65536 in
theorem w_t9 : (((((((((words1.drop 24).drop 24).drop 24).drop 24).drop 24).drop 24).drop 24).drop 24).take 24).all (fun c => isCode c || c.before args0 about1) = true := by decide +kernel
set_option maxRecDepth 65536 in
theorem w_t10 : ((((((((((words1.drop 24).drop 24).drop 24).drop 24).drop 24).drop 24).drop 24).drop 24).drop 24).take 24).all (fun c => isCode c || c.before args0 about1) = true := by decide +kernel
set_option maxRecDepth 65536 in
theorem w_t11 : (((((((((((words1.drop 24).drop 24).drop 24).drop 24).drop 24).drop 24).drop 24).drop 24).drop 24).drop 24).take 24).all (fun c => isCode c || c.before args0 about1) = true := by decide +kernel
set_option maxRecDepth 65536 in
theorem w_t12 : ((((((((((((words1.drop 24).drop 24).drop 24).drop 24).drop 24).drop 24).drop 24).drop 24).drop 24).drop 24).drop 24).take 24).all (fun c => isCode c || c.before args0 about1) = true := by decide +kernel
set_option maxRecDepth 65536 in
theorem w_t13 : ((((((((((((words1.drop 24).drop 24).drop 24).drop 24).drop 24).drop 24).drop 24).drop 24).drop 24).drop 24).drop 24).drop 24).all (fun c => isCode c || c.before args0 about1) = true := by decide +kernel
theorem w_tables : (allAtoms (Jvm.Cond.code x code maxLocals ret :: tables_1)).before args0 about1 = true := by
  rw [allAtoms_all]
  show words1.all (fun c => c.before args0 about1) = true
  refine all_split ?_ w_codes
  rw [← List.take_append_drop 24 words1, List.all_append, w_t1, ← List.take_append_drop 24 (words1.drop 24), List.all_append, w_t2, ← List.take_append_drop 24 ((words1.drop 24).drop 24), List.all_append, w_t3, ← List.take_append_drop 24 (((words1.drop 24).drop 24).drop 24), List.all_append, w_t4, ← List.take_append_drop 24 ((((words1.drop 24).drop 24).drop 24).drop 24), List.all_append, w_t5, ← List.take_append_drop 24 (((((words1.drop 24).drop 24).drop 24).drop 24).drop 24), List.all_append, w_t6, ← List.take_append_drop 24 ((((((words1.drop 24).drop 24).drop 24).drop 24).drop 24).drop 24), List.all_append, w_t7, ← List.take_append_drop 24 (((((((words1.drop 24).drop 24).drop 24).drop 24).drop 24).drop 24).drop 24), List.all_append, w_t8, ← List.take_append_drop 24 ((((((((words1.drop 24).drop 24).drop 24).drop 24).drop 24).drop 24).drop 24).drop 24), List.all_append, w_t9, ← List.take_append_drop 24 (((((((((words1.drop 24).drop 24).drop 24).drop 24).drop 24).drop 24).drop 24).drop 24).drop 24), List.all_append, w_t10, ← List.take_append_drop 24 ((((((((((words1.drop 24).drop 24).drop 24).drop 24).drop 24).drop 24).drop 24).drop 24).drop 24).drop 24), List.all_append, w_t11, ← List.take_append_drop 24 (((((((((((words1.drop 24).drop 24).drop 24).drop 24).drop 24).drop 24).drop 24).drop 24).drop 24).drop 24).drop 24), List.all_append, w_t12, w_t13]
  rfl
set_option maxRecDepth 65536 in
theorem w_rest : rest_1_c.before args0 about1 = true := by decide +kernel
set_option maxRecDepth 65536 in
theorem w_case : (Jvm.Cond.and given_1 narrow_1).before args0 about1 = true := by decide +kernel
theorem w_applies : (headSpec (Jvm.Cond.code x code maxLocals ret :: tables_1) room_1).applies x e0.platform about1 = true :=
  (Spec.applies_iff w_frames).mpr ⟨w_running, w_runnable, w_alone, w_named, w_hears, w_ripe, w_room, w_tables⟩
theorem atStart : AtStart classFile x code maxLocals ret World_1 tables_1 room_1 Calls_1 rest_1 Pre_1 launch0 p0 e0 about1 theMethod args0 below0 :=
  ⟨lists_1, trivial, launch0.admits_env _ _ _, launch0.least_env, fairChoices_fair.cas, fairChoices_fair.clock, w_frames, w_args, w_heap, w_applies, ⟨⟨41, k41, 4, by decide +kernel, rfl, rfl, _, rfl, rfl⟩, trivial⟩, w_rest, w_case⟩
end start1
theorem witness_1 : WitnessClaimed_1 := ⟨start1.p0, start1.e0, start1.about1, start1.theMethod, start1.args0, start1.below0, start1.atStart⟩
end Jvm.Pilot.@@N@@
