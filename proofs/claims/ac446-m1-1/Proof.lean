import JvmDerived
import JvmDerived.Pilot.@@N@@Statement
import JvmDerived.Pilot.@@N@@Code
set_option linter.unusedVariables false
set_option linter.unusedSimpArgs false
namespace Jvm.Pilot.@@N@@
open Jvm Jvm.ClassFile Sem Op Lib Jvm.Free Jvm.Stand Jvm.LawKit Jvm.RoadKit Bundle Jvm.Pilot.@@N@@.Jvm.D
/-! the setting of a body's walk, a point of it, and 'it comes to its end' -/
def oCtx (p : Program) (s : State) (m : MethodId) (meth : Method) (c : Code) (Z : State) (own : String) (cb : ByteArray) (ml : Nat) (nm : String) (rt : Option FieldType) (yy : MethodName) : Prop :=
  p.tables.exec = Jvm.exec ∧ Z.Warmed39 s.vm ∧ c.code = cb ∧ c.maxLocals = ml ∧ s.vm.findClass own = some m.cls ∧ meth.name = nm ∧ meth.sig.returnType = rt ∧ meth.locks = false ∧ s.methodNamed? yy = some m
def oSt (p : Program) (l : Launch) (e : Env) (R : Room) (s : State) (m : MethodId) (args : Array Value) (below : List Frame) (meth : Method) (c : Code) (Z T : State) (h : Heap) (cells slots : Nat) : Prop :=
  ∃ locs, Stand p l e R s m args below meth c T locs cells slots ∧ T.heap = h ∧ Fr Z.heap.size locs ∧ Ext Z.heap h
def oGoes (p : Program) (e : Env) (below : List Frame) (s Z T : State) (f : JFrame) (Q : Option Value → Heap → Prop) (cl sl : Nat) : Prop :=
  ∃ t o, Steps p.tables e below (T.setTop f) t ∧ t.status = .running ∧ Ended t below o ∧ ∃ v L, o = .returned v ∧ Q v t.heap ∧ Fr Z.heap.size L ∧ Ext Z.heap t.heap ∧ FrameEnd s o t L cl sl
/-- a body's contract: called with 'as' at the heap h0 it returns, and Q says what it leaves -/
def oMet (l : Launch) (Z : State) (y : MethodName) (cb : ByteArray) (ml : Nat) (rt : Option FieldType) (rm : Room) (ws : List Jvm.Cond) (as : Array Value) (h0 : Heap) (Q : Option Value → Heap → Prop) : Prop :=
  Ext Z.heap h0 → MetFree l y (head1 (Jvm.Cond.code y cb ml rt :: ws) rm) (fun a U => a = as ∧ Z.Warmed39 U.vm ∧ U.heap = h0) (fun _ _ _ _ _ => True)
    (fun _ U o U' => ∃ v L, o = .returned v ∧ (Q v U'.heap ∧ Fr Z.heap.size L ∧ Ext Z.heap U'.heap) ∧ FrameEnd U o U' L rm.cells rm.slots)
section Own
variable {p : Program} {l : Launch} {e : Env} {R : Room} {s : State} {m : MethodId} {args : Array Value} {below : List Frame} {meth : Method} {c : Code} {Z T : State} {h : Heap} {cells slots cl sl : Nat} {own nm : String} {cb : ByteArray} {yy : MethodName} {ml : Nat} {rt : Option FieldType} {Q : Option Value → Heap → Prop} {L L' : Array Slot} {S : List Value} {pc pc' : Nat} {a0 : Array Value}
theorem oGoes.go {T' : State} {f f' : JFrame} (g : oGoes p e below s Z T' f' Q cl sl) (st : ∀ t, Steps p.tables e below (T'.setTop f') t → Steps p.tables e below (T.setTop f) t) : oGoes p e below s Z T f Q cl sl := by
  obtain ⟨t, o, h1, r⟩ := g
  exact ⟨t, o, st t h1, r⟩
theorem oSt.mono (X : oSt p l e R s m args below meth c Z T h cells slots) {c' n' : Nat} (hc : cells ≤ c') (hn : slots ≤ n') : oSt p l e R s m args below meth c Z T h c' n' := by
  obtain ⟨locs, X, r⟩ := X
  exact ⟨locs, ⟨X.admits, X.cas, X.clock, X.frames, X.room, X.hears, X.method, X.code, X.here, X.tail, X.warmed, X.limits, X.bytes, X.same.mono hc hn⟩, r⟩
theorem oSt.ext0 (X : oSt p l e R s m args below meth c Z T h cells slots) : Ext Z.heap h := by obtain ⟨_, _, _, _, E⟩ := X; exact E
theorem oExt_wr {h h' : Heap} {a : Addr} {k : Nat} {v : Value} (E : Ext Z.heap h) (W : Wr h h' a k v) (q : Z.heap.size ≤ a) : Ext Z.heap h' :=
  (Old.wr (n0 := Z.heap.size) ⟨rfl, E⟩ W q).2
theorem oExt_trans {h1 h2 h3 : Heap} (E : Ext h1 h2) (E' : Ext h2 h3) : Ext h1 h3 := ⟨Nat.le_trans E.1 E'.1, fun a c q => E'.2 a c (E.2 a c q)⟩
theorem oEnter {y : MethodName} {ws : List Jvm.Cond} {rm : Room} {as : Array Value} {h0 : Heap} (hx : plainFor y = true) (ho : y.cls = own) (hn : y.name = nm) {L : Array Slot} (hf : ∀ m, entryFrame m as ml = mkF m 0 L [])
    (body : ∀ p e s m below meth c T, oCtx p s m meth c Z own cb ml nm rt y → oSt p l e rm s m as below meth c Z T h0 0 0 → oGoes p e below s Z T (mkF m 0 L []) Q rm.cells rm.slots) : oMet l Z y cb ml rt rm ws as h0 Q := by
  intro E
  subst ho hn
  refine MetFree.of_bodySF hx hisR ?_
  intro p e s m args below meth c s₁ Bd hml0 hP hK
  obtain ⟨rfl, hZ, hh⟩ := hP
  have e0 : s₁.heap = h0 := by rw [← hh, Bd.state]; rfl
  obtain ⟨t, o, h1, h2, h3, v, L', h4, h5, h6, h7, h8⟩ := body p e s m below meth c s₁ ⟨Bd.exec, hZ, Bd.bytes, hml0, findClass_of_methodNamed Bd.named, (name_of_methodNamed Bd.named Bd.method).1, Bd.returns, BodyLoose.notSynchronized Bd, Bd.named⟩ ⟨[], Stand.of_body Bd, e0, Fr.nil _, E⟩
  exact ⟨t, o, castTop (hf m) h1, h2, h3, v, L', h4, ⟨h5, h6, h7⟩, h8⟩
theorem oLeave (X : oSt p l e R s m args below meth c Z T h cells slots) (rv : Option Value) (hv : meth.sig.returnType = none → rv = none) (hlk : meth.locks = false) (hQ : Q rv h) (hc : cells ≤ cl) (hs : slots ≤ sl) {f : JFrame}
    (st : ∀ fs, (∀ (f : JFrame) (acts : List Action), f.method = m → f.locked = none → f.entered = [] → (doReturn e (T.setTop f) acts rv).1 = T.setFrames fs) → Steps p.tables e below (T.setTop f) (T.setFrames fs)) : oGoes p e below s Z T f Q cl sl := by
  obtain ⟨locs, X, eT, N, E⟩ := X
  obtain ⟨fs, hr, hrun, hended, hW, hsame⟩ := X.leave (v := rv) hv hlk
  have e2 : (T.setFrames fs).heap = h := eT
  refine ⟨_, _, st fs hr, hrun, hended, _, locs, rfl, ?_, N, ?_, ⟨_, rfl⟩, hW, hsame.mono hc hs⟩
  · rw [e2]; exact hQ
  · rw [e2]; exact E
theorem o_return (K : oCtx p s m meth c Z own cb ml nm rt yy) (X : oSt p l e R s m args below meth c Z T h cells slots) (hd : decode cb pc = .ok (.return_, 1)) (hrt : rt = none) (hQ : Q none h) (hc : cells ≤ cl) (hs : slots ≤ sl) : oGoes p e below s Z T (mkF m pc L []) Q cl sl := by
  refine oLeave X none (fun _ => rfl) K.2.2.2.2.2.2.2.1 hQ hc hs fun fs hr => ?_
  obtain ⟨locs, X, eT, N, E⟩ := X
  exact X.returnOut K.1 (K.2.2.2.2.2.2.1.trans hrt) (hb K.2.2.1 hd) hr
theorem o_ireturnN (K : oCtx p s m meth c Z own cb ml nm rt yy) (X : oSt p l e R s m args below meth c Z T h cells slots) (t : FieldType) {z z' : Int32} (hd : decode cb pc = .ok (.ireturn, 1)) (hrt : rt = some t) (ht : t = .boolean ∨ t = .byte ∨ t = .char ∨ t = .short) (hz : nar t z = z') (hQ : Q (some (.int z')) h) (hc : cells ≤ cl) (hs : slots ≤ sl) : oGoes p e below s Z T (mkF m pc L (.int z :: S)) Q cl sl := by
  subst hz
  have hr0 : meth.sig.returnType = some t := K.2.2.2.2.2.2.1.trans hrt
  refine oLeave X (some (.int (nar t z))) (fun q => by rw [hr0] at q; cases q) K.2.2.2.2.2.2.2.1 hQ hc hs fun fs hr => ?_
  obtain ⟨locs, X, eT, N, E⟩ := X
  exact retN X K.1 (t := t) hr0 ht (hb K.2.2.1 hd) hr
theorem o_areturn (K : oCtx p s m meth c Z own cb ml nm rt yy) (X : oSt p l e R s m args below meth c Z T h cells slots) {t : FieldType} {v : Value} (hd : decode cb pc = .ok (.areturn, 1)) (hrt : rt = some t) (ht : t.isReference = true) (hv : v.isRef = true) (hQ : Q (some v) h) (hc : cells ≤ cl) (hs : slots ≤ sl) : oGoes p e below s Z T (mkF m pc L (v :: S)) Q cl sl := by
  have hr0 : meth.sig.returnType = some t := K.2.2.2.2.2.2.1.trans hrt
  refine oLeave X (some v) (fun q => by rw [hr0] at q; cases q) K.2.2.2.2.2.2.2.1 hQ hc hs fun fs hl => ?_
  obtain ⟨locs, X, eT, N, E⟩ := X
  have hm' : T.vm.method? m = some meth := X.method'
  have hd' := hb K.2.2.1 hd
  have hx := K.1
  show Steps p.tables e below (T.setTop { method := m, pc := pc, locals := L, stack := _ :: S, locked := none }) _
  jvm_step X.here [X.here.top, hx, hd', hm', hr0, ht, hv]
  first | (intro acts; rw [hl _ acts rfl rfl rfl]) | rw [hl _ _ rfl rfl rfl]
  exact Steps.refl _
theorem o_iloadN (K : oCtx p s m meth c Z own cb ml nm rt yy) (X : oSt p l e R s m args below meth c Z T h cells slots) {k : Fin 4} {v : Int32} (hd : decode cb pc = .ok (.iload_n k, 1)) (hp : pc + 1 = pc') (hl : L[k.val]? = some (.val (.int v))) (g : oGoes p e below s Z T (mkF m pc' L (.int v :: S)) Q cl sl) : oGoes p e below s Z T (mkF m pc L S) Q cl sl := by
  obtain ⟨_, X, -⟩ := X
  subst hp
  exact g.go fun t r => XS.iloadN X.here K.1 rfl (hb K.2.2.1 hd) hl r
theorem o_istoreN (K : oCtx p s m meth c Z own cb ml nm rt yy) (X : oSt p l e R s m args below meth c Z T h cells slots) {k : Fin 4} {v : Int32} (hd : decode cb pc = .ok (.istore_n k, 1)) (hp : pc + 1 = pc') (hl : storeLocals L k.val (.int v) = some L') (g : oGoes p e below s Z T (mkF m pc' L' S) Q cl sl) : oGoes p e below s Z T (mkF m pc L (.int v :: S)) Q cl sl := by
  obtain ⟨_, X, -⟩ := X
  subst hp
  exact g.go fun t r => XS.istoreN X.here K.1 rfl (hb K.2.2.1 hd) rfl hl r
theorem o_lloadN (K : oCtx p s m meth c Z own cb ml nm rt yy) (X : oSt p l e R s m args below meth c Z T h cells slots) {k : Fin 4} {v : Int64} (hd : decode cb pc = .ok (.lload_n k, 1)) (hp : pc + 1 = pc') (hl : L[k.val]? = some (.val (.long v))) (g : oGoes p e below s Z T (mkF m pc' L (.long v :: S)) Q cl sl) : oGoes p e below s Z T (mkF m pc L S) Q cl sl := by
  obtain ⟨_, X, -⟩ := X
  subst hp
  exact g.go fun t r => XS.lloadN X.here K.1 rfl (hb K.2.2.1 hd) hl r
theorem o_aload (K : oCtx p s m meth c Z own cb ml nm rt yy) (X : oSt p l e R s m args below meth c Z T h cells slots) {k : Nat} {v : Value} (hd : decode cb pc = .ok (.aload k, 2)) (hp : pc + 2 = pc') (hl : L[k]? = some (.val v)) (hv : v.isRef = true) (g : oGoes p e below s Z T (mkF m pc' L (v :: S)) Q cl sl) : oGoes p e below s Z T (mkF m pc L S) Q cl sl := by
  obtain ⟨_, X, -⟩ := X
  subst hp
  exact g.go fun t r => XS.aload X.here K.1 rfl (hb K.2.2.1 hd) hl hv r
theorem o_aloadN (K : oCtx p s m meth c Z own cb ml nm rt yy) (X : oSt p l e R s m args below meth c Z T h cells slots) {k : Fin 4} {v : Value} (hd : decode cb pc = .ok (.aload_n k, 1)) (hp : pc + 1 = pc') (hl : L[k.val]? = some (.val v)) (hv : v.isRef = true) (g : oGoes p e below s Z T (mkF m pc' L (v :: S)) Q cl sl) : oGoes p e below s Z T (mkF m pc L S) Q cl sl := by
  obtain ⟨_, X, -⟩ := X
  subst hp
  exact g.go fun t r => XS.aloadN X.here K.1 rfl (hb K.2.2.1 hd) hl hv r
theorem o_astore (K : oCtx p s m meth c Z own cb ml nm rt yy) (X : oSt p l e R s m args below meth c Z T h cells slots) {k : Nat} {v : Value} (hd : decode cb pc = .ok (.astore k, 2)) (hp : pc + 2 = pc') (hv : v.isRef = true) (hl : storeLocals L k v = some L') (g : oGoes p e below s Z T (mkF m pc' L' S) Q cl sl) : oGoes p e below s Z T (mkF m pc L (v :: S)) Q cl sl := by
  obtain ⟨_, X, -⟩ := X
  subst hp
  exact g.go fun t r => XS.astore X.here K.1 rfl (hb K.2.2.1 hd) rfl hv hl r
theorem o_iconst (K : oCtx p s m meth c Z own cb ml nm rt yy) (X : oSt p l e R s m args below meth c Z T h cells slots) {i : Int} {z : Int32} (hd : decode cb pc = .ok (.iconst i, 1)) (hp : pc + 1 = pc') (hz : Int32.ofInt i = z) (g : oGoes p e below s Z T (mkF m pc' L (.int z :: S)) Q cl sl) : oGoes p e below s Z T (mkF m pc L S) Q cl sl := by
  obtain ⟨_, X, -⟩ := X
  subst hp
  exact g.go fun t r => XS.iconst X.here K.1 rfl (hb K.2.2.1 hd) (hz ▸ r)
theorem o_bipush (K : oCtx p s m meth c Z own cb ml nm rt yy) (X : oSt p l e R s m args below meth c Z T h cells slots) {i : Int} {z : Int32} (hd : decode cb pc = .ok (.bipush i, 2)) (hp : pc + 2 = pc') (hz : (Int8.ofInt i).toInt32 = z) (g : oGoes p e below s Z T (mkF m pc' L (.int z :: S)) Q cl sl) : oGoes p e below s Z T (mkF m pc L S) Q cl sl := by
  obtain ⟨_, X, -⟩ := X
  subst hp
  exact g.go fun t r => XS.bipush X.here K.1 rfl (hb K.2.2.1 hd) (hz ▸ r)
theorem o_iand (K : oCtx p s m meth c Z own cb ml nm rt yy) (X : oSt p l e R s m args below meth c Z T h cells slots) {x y z : Int32} (hd : decode cb pc = .ok (.iand, 1)) (hp : pc + 1 = pc') (hz : x &&& y = z) (g : oGoes p e below s Z T (mkF m pc' L (.int z :: S)) Q cl sl) : oGoes p e below s Z T (mkF m pc L (.int y :: .int x :: S)) Q cl sl := by
  obtain ⟨_, X, -⟩ := X
  subst hp
  exact g.go fun t r => XS.iand X.here K.1 rfl (hb K.2.2.1 hd) rfl (hz ▸ r)
theorem o_dup (K : oCtx p s m meth c Z own cb ml nm rt yy) (X : oSt p l e R s m args below meth c Z T h cells slots) {v : Value} (hd : decode cb pc = .ok (.dup, 1)) (hp : pc + 1 = pc') (hc : v.category = 1) (g : oGoes p e below s Z T (mkF m pc' L (v :: v :: S)) Q cl sl) : oGoes p e below s Z T (mkF m pc L (v :: S)) Q cl sl := by
  obtain ⟨_, X, -⟩ := X
  subst hp
  exact g.go fun t r => XS.dup X.here K.1 rfl (hb K.2.2.1 hd) rfl hc r
theorem o_goto (K : oCtx p s m meth c Z own cb ml nm rt yy) (X : oSt p l e R s m args below meth c Z T h cells slots) {o : Int} (hd : decode cb pc = .ok (.goto o, 3)) (ho : 0 ≤ (pc : Int) + o) (hp : ((pc : Int) + o).toNat = pc') (g : oGoes p e below s Z T (mkF m pc' L S) Q cl sl) : oGoes p e below s Z T (mkF m pc L S) Q cl sl := by
  obtain ⟨_, X, -⟩ := X
  exact g.go fun t r => XS.goto X.here K.1 rfl (pc0 := pc) rfl (hb K.2.2.1 hd) ho hp r
theorem o_if_eq_t (K : oCtx p s m meth c Z own cb ml nm rt yy) (X : oSt p l e R s m args below meth c Z T h cells slots) {x : Int32} {o : Int} (hd : decode cb pc = .ok (.ifCond .eq o, 3)) (ho : 0 ≤ (pc : Int) + o) (hp : ((pc : Int) + o).toNat = pc') (hc : x = 0) (g : oGoes p e below s Z T (mkF m pc' L S) Q cl sl) : oGoes p e below s Z T (mkF m pc L (.int x :: S)) Q cl sl := by
  obtain ⟨_, X, -⟩ := X
  exact g.go fun t r => XS.ifYes X.here K.1 rfl (pc0 := pc) rfl (hb K.2.2.1 hd) rfl ((if0 _ _).trans (teq hc).1) ho hp r
theorem o_if_eq_f (K : oCtx p s m meth c Z own cb ml nm rt yy) (X : oSt p l e R s m args below meth c Z T h cells slots) {x : Int32} {o : Int} (hd : decode cb pc = .ok (.ifCond .eq o, 3)) (hp : pc + 3 = pc') (hc : ¬ x = 0) (g : oGoes p e below s Z T (mkF m pc' L S) Q cl sl) : oGoes p e below s Z T (mkF m pc L (.int x :: S)) Q cl sl := by
  obtain ⟨_, X, -⟩ := X
  subst hp
  exact g.go fun t r => XS.ifNo X.here K.1 rfl (hb K.2.2.1 hd) rfl ((if0 _ _).trans (feq hc).1) r
theorem o_icmp_ne_f (K : oCtx p s m meth c Z own cb ml nm rt yy) (X : oSt p l e R s m args below meth c Z T h cells slots) {x y : Int32} {o : Int} (hd : decode cb pc = .ok (.if_icmp .ne o, 3)) (hp : pc + 3 = pc') (hc : x = y) (g : oGoes p e below s Z T (mkF m pc' L S) Q cl sl) : oGoes p e below s Z T (mkF m pc L (.int y :: .int x :: S)) Q cl sl := by
  obtain ⟨_, X, -⟩ := X
  subst hp
  exact g.go fun t r => XS.icmpNo X.here K.1 rfl (hb K.2.2.1 hd) rfl (teq hc).2 r
theorem o_if_ne_f (K : oCtx p s m meth c Z own cb ml nm rt yy) (X : oSt p l e R s m args below meth c Z T h cells slots) {x : Int32} {o : Int} (hd : decode cb pc = .ok (.ifCond .ne o, 3)) (hp : pc + 3 = pc') (hc : x = 0) (g : oGoes p e below s Z T (mkF m pc' L S) Q cl sl) : oGoes p e below s Z T (mkF m pc L (.int x :: S)) Q cl sl := by
  obtain ⟨_, X, -⟩ := X
  subst hp
  exact g.go fun t r => XS.ifNo X.here K.1 rfl (hb K.2.2.1 hd) rfl ((if0 _ _).trans (teq hc).2) r
theorem o_ifnonnull_t (K : oCtx p s m meth c Z own cb ml nm rt yy) (X : oSt p l e R s m args below meth c Z T h cells slots) {b : Addr} {o : Int} (hd : decode cb pc = .ok (.ifnonnull o, 3)) (ho : 0 ≤ (pc : Int) + o) (hp : ((pc : Int) + o).toNat = pc') (g : oGoes p e below s Z T (mkF m pc' L S) Q cl sl) : oGoes p e below s Z T (mkF m pc L (.ref b :: S)) Q cl sl := by
  obtain ⟨_, X, -⟩ := X
  exact g.go fun t r => XS.ifnonnullYes X.here K.1 rfl (pc0 := pc) rfl (hb K.2.2.1 hd) rfl ho hp r
theorem o_getfield (K : oCtx p s m meth c Z own cb ml nm rt yy) (X : oSt p l e R s m args below meth c Z T h cells slots) {R0 O n d host : String} {index : Nat} {a : Addr} {v : Value} (w : (Jvm.Cond.fieldLink own index R0 n d).before a0 Z = true ∨ (Jvm.Cond.fieldLinkNest own index R0 n d host).before a0 Z = true) (via : Via Z R0 O n d) (F : Fld Z h a O n d v) (hd : decode cb pc = .ok (.getfield index, 3)) (hp : pc + 3 = pc')
    (g : ∀ T', oSt p l e R s m args below meth c Z T' h cells slots → oGoes p e below s Z T' (mkF m pc' L (v :: S)) Q cl sl) : oGoes p e below s Z T (mkF m pc L (.ref a :: S)) Q cl sl := by
  obtain ⟨locs, X, eT, N, E⟩ := X
  subst hp
  obtain ⟨T', X', e', st⟩ := getF X K.1 K.2.1 K.2.2.2.2.1 w via eT F (g := mkF m pc L (.ref a :: S)) rfl rfl (hb K.2.2.1 hd)
  exact (g T' ⟨locs, X', e', N, E⟩).go st
theorem o_getstatic (K : oCtx p s m meth c Z own cb ml nm rt yy) (X : oSt p l e R s m args below meth c Z T h cells slots) {R0 O n d host : String} {index : Nat} {v : Value} (w : (Jvm.Cond.fieldLink own index R0 n d).before a0 Z = true ∨ (Jvm.Cond.fieldLinkNest own index R0 n d host).before a0 Z = true) (via : Via Z R0 O n d) (F : Sta Z h O n d v) (hd : decode cb pc = .ok (.getstatic index, 3)) (hp : pc + 3 = pc')
    (g : ∀ T', oSt p l e R s m args below meth c Z T' h cells slots → oGoes p e below s Z T' (mkF m pc' L (v :: S)) Q cl sl) : oGoes p e below s Z T (mkF m pc L S) Q cl sl := by
  obtain ⟨locs, X, eT, N, E⟩ := X
  subst hp
  obtain ⟨T', X', e', st⟩ := getS2 X K.1 K.2.1 K.2.2.2.2.1 w via eT F (g := mkF m pc L S) rfl (hb K.2.2.1 hd)
  exact (g T' ⟨locs, X', e', N, E⟩).go st
theorem o_putfield (K : oCtx p s m meth c Z own cb ml nm rt yy) (X : oSt p l e R s m args below meth c Z T h cells slots) {R0 O n d host C : String} {index kk : Nat} {ty : FieldType} {a : Addr} {v old : Value} (w : (Jvm.Cond.fieldLink own index R0 n d).before a0 Z = true ∨ (Jvm.Cond.fieldLinkNest own index R0 n d host).before a0 Z = true) (via : Via Z R0 O n d) (F : Fld Z h a O n d old) (Ex : Exa Z h a C) (Lz : (Jvm.Cond.lays C O n d).before a0 Z = true ∨ ((Jvm.Cond.laysFinal C O n d).before a0 Z = true ∧ own = O ∧ nm = "<init>")) (wi : (Jvm.Cond.instantiable C kk).before a0 Z = true) (hty : parseFieldDescriptor d = some ty) (hn : narrow ty v = v) (hf : fits ty v = true) (hza : Z.heap.size ≤ a) (hd : decode cb pc = .ok (.putfield index, 3)) (hp : pc + 3 = pc')
    (g : ∀ T' h', oSt p l e R s m args below meth c Z T' h' cells slots → Wr h h' a (Jvm.RoadKit.slotOf Z O n d) v → oGoes p e below s Z T' (mkF m pc' L S) Q cl sl) : oGoes p e below s Z T (mkF m pc L (v :: .ref a :: S)) Q cl sl := by
  obtain ⟨locs, X, eT, N, E⟩ := X
  subst hp
  obtain ⟨T', h', X', e', W, st⟩ := putF X K.1 K.2.1 K.2.2.2.2.1 w via eT F Ex (Lz.imp id fun q => ⟨q.1, q.2.1, K.2.2.2.2.2.1.trans q.2.2⟩) wi hty hn hf (g := mkF m pc L (v :: .ref a :: S)) rfl rfl (hb K.2.2.1 hd)
  exact (g T' h' ⟨_, X', e', Fr.snoc X' N hza, oExt_wr E W hza⟩ W).go st
theorem o_putfieldN (K : oCtx p s m meth c Z own cb ml nm rt yy) (X : oSt p l e R s m args below meth c Z T h cells slots) {R0 O n d C : String} {index kk : Nat} {ty : FieldType} {a : Addr} {v v' old : Value} (w : (Jvm.Cond.fieldLink own index R0 n d).before a0 Z = true) (via : Via Z R0 O n d) (F : Fld Z h a O n d old) (Ex : Exa Z h a C) (Lz : (Jvm.Cond.lays C O n d).before a0 Z = true ∨ ((Jvm.Cond.laysFinal C O n d).before a0 Z = true ∧ own = O ∧ nm = "<init>")) (wi : (Jvm.Cond.instantiable C kk).before a0 Z = true) (hty : parseFieldDescriptor d = some ty) (hn : narrow ty v = v') (hf : fits ty v' = true) (hza : Z.heap.size ≤ a) (hd : decode cb pc = .ok (.putfield index, 3)) (hp : pc + 3 = pc')
    (g : ∀ T' h', oSt p l e R s m args below meth c Z T' h' cells slots → Wr h h' a (Jvm.RoadKit.slotOf Z O n d) v' → oGoes p e below s Z T' (mkF m pc' L S) Q cl sl) : oGoes p e below s Z T (mkF m pc L (v :: .ref a :: S)) Q cl sl := by
  obtain ⟨locs, X, eT, N, E⟩ := X
  subst hp
  obtain ⟨T', h', X', e', W, st⟩ := putFN X K.1 K.2.1 K.2.2.2.2.1 w via eT F Ex (Lz.imp id fun q => ⟨q.1, q.2.1, K.2.2.2.2.2.1.trans q.2.2⟩) wi hty hn hf (g := mkF m pc L (v :: .ref a :: S)) rfl rfl (hb K.2.2.1 hd)
  exact (g T' h' ⟨_, X', e', Fr.snoc X' N hza, oExt_wr E W hza⟩ W).go st
theorem o_new (K : oCtx p s m meth c Z own cb ml nm rt yy) (X : oSt p l e R s m args below meth c Z T h cells slots) {C : String} {index n : Nat} (w : (Jvm.Cond.classLink own index C).before a0 Z = true) (wi : (Jvm.Cond.instantiable C n).before a0 Z = true) (wz : (Jvm.Cond.initialized C).before a0 Z = true) (hd : decode cb pc = .ok (.new index, 3)) (hp : pc + 3 = pc') (hc : cells + 1 ≤ R.cells) (hl : slots + n ≤ R.slots)
    (g : ∀ T' h' b, oSt p l e R s m args below meth c Z T' h' (cells + 1) (slots + n) → b = h.size → Ext h h' → Exa Z h' b C → (∀ {O nm d : String} {ty : FieldType}, Laid Z a0 C O nm d → parseFieldDescriptor d = some ty → Fld Z h' b O nm d (defaultValue ty)) → Z.heap.size ≤ b → oGoes p e below s Z T' (mkF m pc' L (.ref b :: S)) Q cl sl) : oGoes p e below s Z T (mkF m pc L S) Q cl sl := by
  obtain ⟨locs, X, eT, N, E⟩ := X
  subst hp
  obtain ⟨T', h', X', e', E', A, D, -, st⟩ := newO X K.1 K.2.1 K.2.2.2.2.1 w wi wz eT (g := mkF m pc L S) rfl (hb K.2.2.1 hd) hc hl
  exact (g T' h' h.size ⟨_, X', e', N, oExt_trans E E'⟩ rfl E' A D E.1).go st
theorem o_initObj (K : oCtx p s m meth c Z own cb ml nm rt yy) (X : oSt p l e R s m args below meth c Z T h cells slots) {index : Nat} {a : Addr} (w1 : (Jvm.Cond.methodLink own index Lib.objectInit).before a0 Z = true) (w2 : (Jvm.Cond.instanceMethod Lib.objectInit).before a0 Z = true) (w3 : (Jvm.Cond.code Lib.objectInit ⟨#[0xb1]⟩ 1 none).before a0 Z = true) (hd : decode cb pc = .ok (.invokespecial index, 3)) (hp : pc + 3 = pc') (hsz : L.size = ml) (hf : 1 ≤ R.frames) {W : Nat} (hW : (S.map fun v => v.category).sum = W) (hl : W + 12 ≤ R.locals)
    (g : ∀ T', oSt p l e R s m args below meth c Z T' h cells slots → oGoes p e below s Z T' (mkF m pc' L S) Q cl sl) : oGoes p e below s Z T (mkF m pc L (.ref a :: S)) Q cl sl := by
  obtain ⟨locs, X, eT, N, E⟩ := X
  subst hp
  obtain ⟨T', X', e', st⟩ := initO X K.1 K.2.1 K.2.2.2.2.1 w1 w2 w3 eT (g := mkF m pc L (.ref a :: S)) rfl (by show L.size = _; rw [K.2.2.2.1]; exact hsz) rfl (hb K.2.2.1 hd) hf (W := W) (by show 2 * 0 + _ ≤ _; omega) hl
  exact (g T' ⟨_, X', e', N, E⟩).go st
theorem o_special (K : oCtx p s m meth c Z own cb ml nm rt yy) (X : oSt p l e R s m args below meth c Z T h cells slots) {index : Nat} {y : MethodName} {a : Addr} {bs : ByteArray} {mx : Nat} {rm : Room} {as : Array Value} {Qc : Option Value → Heap → Prop} (hy1 : y.name = "<init>") (w1 : (Jvm.Cond.methodLink own index y).before a0 Z = true) (w2 : (Jvm.Cond.instanceMethod y).before a0 Z = true) (wz : (Jvm.Cond.initialized y.cls).before a0 Z = true) (wc : (Jvm.Cond.code y bs mx none).before a0 Z = true) (hy : y.cls ≠ "java/lang/invoke/MethodHandle" ∧ y.cls ≠ "java/lang/invoke/VarHandle")
    (hM : oMet l Z y bs mx none rm [] as h Qc) (hf : rm.frames + 1 ≤ R.frames) (hsz : L.size = ml) {argsL : List Value} (has : (Value.ref a :: argsL).toArray = as) (hlen : ∀ sig, parseMethodDescriptor y.desc = some sig → argsL.length = sig.parameters.length) {W : Nat} (hW : (S.map fun v => v.category).sum = W) (hl : W + (mx + 11) + rm.locals ≤ R.locals) (hc : cells + rm.cells ≤ R.cells) (hs : slots + rm.slots ≤ R.slots) (hd : decode cb pc = .ok (.invokespecial index, 3)) (hp : pc + 3 = pc') (g : ∀ v T' h', oSt p l e R s m args below meth c Z T' h' (cells + rm.cells) (slots + rm.slots) → Qc v h' → oGoes p e below s Z T' (mkF m pc' L (v.toList ++ S)) Q cl sl) : oGoes p e below s Z T (mkF m pc L (argsL.reverse ++ .ref a :: S)) Q cl sl := by
  obtain ⟨locs, X, eT, N, E⟩ := X
  subst hp
  obtain ⟨v, _, ⟨T', L1, k1, n1⟩, -, X', ⟨Lc, hQ, l1, y1, z1⟩, st⟩ := X.specialBack K.1 (y := y) hy1 K.2.2.2.2.1 (mvT K.2.1 w1) (mvT K.2.1 w2) (mvT K.2.1 wc) hy (backOf (W := W) (Q := fun v h L => Qc v h ∧ Fr Z.heap.size L ∧ Ext Z.heap h) (hM E) K.2.1 wc wz hf hl) (g := mkF m pc L (argsL.reverse ++ .ref a :: S)) rfl (by show L.size = _; rw [K.2.2.2.1]; exact hsz) (Steps.refl _) (a := a) (argsL := argsL) (rest := S) hlen rfl (by show 2 * 0 + _ ≤ _; omega) (hb K.2.2.1 hd) (fun _ _ => ⟨has, eT, hc, hs⟩)
  dsimp only [Pt.U, Pt.locs, Pt.cells, Pt.slots] at X' l1 y1 z1 st hQ
  subst l1 y1 z1
  exact (g v T' _ ⟨_, X', rfl, Fr.app N hQ.2.1, hQ.2.2⟩ hQ.1).go fun t r => st.trans r
theorem o_virtual (K : oCtx p s m meth c Z own cb ml nm rt yy) (X : oSt p l e R s m args below meth c Z T h cells slots) {index : Nat} {y z : MethodName} {C : String} {a : Addr} {bs : ByteArray} {mx : Nat} {rc : Option FieldType} {rm : Room} {as : Array Value} {Qc : Option Value → Heap → Prop} (w1 : (Jvm.Cond.methodLink own index y).before a0 Z = true) (w2 : (Jvm.Cond.declares y).before a0 Z = true) (hnf : NotFace s y) (w3 : (Jvm.Cond.selects C y z).before a0 Z = true) (w4 : (Jvm.Cond.instanceMethod z).before a0 Z = true) (wz : (Jvm.Cond.initialized z.cls).before a0 Z = true) (wc : (Jvm.Cond.code z bs mx rc).before a0 Z = true) (hy : y.cls ≠ "java/lang/invoke/MethodHandle" ∧ y.cls ≠ "java/lang/invoke/VarHandle") (Ex : Exa Z h a C)
    (hM : oMet l Z z bs mx rc rm [] as h Qc) (hf : rm.frames + 1 ≤ R.frames) (hsz : L.size = ml) {argsL : List Value} (has : (Value.ref a :: argsL).toArray = as) (hlen : ∀ sig, parseMethodDescriptor y.desc = some sig → argsL.length = sig.parameters.length) {W : Nat} (hW : (S.map fun v => v.category).sum = W) (hl : W + (mx + 11) + rm.locals ≤ R.locals) (hc : cells + rm.cells ≤ R.cells) (hs : slots + rm.slots ≤ R.slots) (hd : decode cb pc = .ok (.invokevirtual index, 3)) (hp : pc + 3 = pc') (g : ∀ v T' h', oSt p l e R s m args below meth c Z T' h' (cells + rm.cells) (slots + rm.slots) → Qc v h' → oGoes p e below s Z T' (mkF m pc' L (v.toList ++ S)) Q cl sl) : oGoes p e below s Z T (mkF m pc L (argsL.reverse ++ .ref a :: S)) Q cl sl := by
  obtain ⟨locs, X, eT, N, E⟩ := X
  subst hp
  obtain ⟨cq, kq, qa, qb, qc⟩ := isOf K.2.1 eT Ex
  obtain ⟨v, _, ⟨T', L1, k1, n1⟩, -, X', ⟨Lc, hQ, l1, y1, z1⟩, st⟩ := X.virtualBack K.1 (y := y) (z := z) K.2.2.2.2.1 (mvT K.2.1 w1) (mvT K.2.1 w2) hnf (mvT K.2.1 w3) (mvT K.2.1 w4) hy (backOf (W := W) (Q := fun v h L => Qc v h ∧ Fr Z.heap.size L ∧ Ext Z.heap h) (hM E) K.2.1 wc wz hf hl) qa qc (g := mkF m pc L (argsL.reverse ++ .ref a :: S)) rfl (by show L.size = _; rw [K.2.2.2.1]; exact hsz) (Steps.refl _) (argsL := argsL) (rest := S) hlen rfl (by show 2 * 0 + _ ≤ _; omega) (hb K.2.2.1 hd) (fun _ _ => ⟨has, eT, hc, hs⟩)
  dsimp only [Pt.U, Pt.locs, Pt.cells, Pt.slots] at X' l1 y1 z1 st hQ
  subst l1 y1 z1
  exact (g v T' _ ⟨_, X', rfl, Fr.app N hQ.2.1, hQ.2.2⟩ hQ.1).go fun t r => st.trans r
def oArr (Z : State) (h : Heap) (a : Addr) (k : ClassId) (ty : FieldType) (vs : List Value) : Prop := ∃ c : Cell, Arr Z h a c ty ∧ c.cls = k ∧ c.slots = vs.toArray ∧ (∀ v ∈ vs, fits ty v = true) ∧ vs.length < 2 ^ 31
theorem oArr.ext {h' : Heap} {a : Addr} {k : ClassId} {ty : FieldType} {vs : List Value} (F : oArr Z h a k ty vs) (E : Ext h h') : oArr Z h' a k ty vs := by obtain ⟨c, A, r⟩ := F; exact ⟨c, A.ext E, r⟩
theorem oArr.other {h' : Heap} {a b : Addr} {k : ClassId} {ty : FieldType} {vs : List Value} {sl : Nat} {v : Value} (F : oArr Z h b k ty vs) (W : Wr h h' a sl v) (q : b ≠ a) : oArr Z h' b k ty vs := by obtain ⟨c, A, r⟩ := F; exact ⟨c, A.other W q, r⟩
theorem oInb {vs : List Value} {c : Cell} {j : Int32} (q : c.slots = vs.toArray) (hj : ¬ j < 0) (hlt : j.toNatClampNeg < vs.length) : ¬ (j < 0 ∨ c.slots.size ≤ j.toNatClampNeg) := by
  rw [q]; simp only [List.size_toArray]
  rintro (h1 | h1)
  · exact hj h1
  · omega
theorem o_arraylength (K : oCtx p s m meth c Z own cb ml nm rt yy) (X : oSt p l e R s m args below meth c Z T h cells slots) {a : Addr} {k : ClassId} {ty : FieldType} {vs : List Value} {z : Int32} (F : oArr Z h a k ty vs) (hz : vs.length.toInt32 = z) (hd : decode cb pc = .ok (.arraylength, 1)) (hp : pc + 1 = pc') (g : oGoes p e below s Z T (mkF m pc' L (.int z :: S)) Q cl sl) : oGoes p e below s Z T (mkF m pc L (.ref a :: S)) Q cl sl := by
  obtain ⟨locs, X, eT, N, E⟩ := X
  obtain ⟨cc, A, q1, q2, q3, q4⟩ := F
  subst hp
  refine g.go fun t r => X.arraylength K.1 (by rw [eT]; exact A.1) (State.isArrayOf_alike K.2.1.alike A.2.1) (g := mkF m pc L (.ref a :: S)) rfl rfl (hb K.2.2.1 hd) _ ?_
  have e1 : cc.slots.size.toInt32 = z := by rw [q2]; simpa using hz
  rw [e1]; exact r
theorem o_baload (K : oCtx p s m meth c Z own cb ml nm rt yy) (X : oSt p l e R s m args below meth c Z T h cells slots) {a : Addr} {k : ClassId} {vs : List Value} {j : Int32} {v : Value} (F : oArr Z h a k .byte vs) (hj : ¬ j < 0) (hv : vs[j.toNatClampNeg]? = some v) (hd : decode cb pc = .ok (.baload, 1)) (hp : pc + 1 = pc') (g : oGoes p e below s Z T (mkF m pc' L (v :: S)) Q cl sl) : oGoes p e below s Z T (mkF m pc L (.int j :: .ref a :: S)) Q cl sl := by
  obtain ⟨locs, X, eT, N, E⟩ := X
  obtain ⟨cc, A, q1, q2, q3, q4⟩ := F
  subst hp
  exact g.go fun t r => X.baloadBytes K.1 (by rw [eT]; exact A.1) (State.isArrayOf_alike K.2.1.alike A.2.1) A.2.2 (oInb q2 hj (List.getElem?_eq_some_iff.mp hv).1) (by rw [q2]; simpa using hv) (g := mkF m pc L (.int j :: .ref a :: S)) rfl rfl (hb K.2.2.1 hd) _ r
theorem oFitboolean {x x' : Int32} (q : nar .boolean x = x') : fits .boolean (.int x') = true := q ▸ fits_nar_bool x
theorem oEqInt_v {args : Array Value} {f s : State} {o : Option Outcome} {idx : List Nat} {t : Term} {z : Int32} (q : (Jvm.Cond.eq t (Term.int z)).value args f o s idx = some true) : t.eval args f o idx s = some (.int z) := by
  have e2 : (Term.int z).eval args f o idx s = some (.int z) := rfl
  cases ht : t.eval args f o idx s with
  | none => simp [Jvm.Cond.value, ht] at q
  | some x => cases x <;> simp [Jvm.Cond.value, ht, e2] at q ⊢; exact q
theorem oArr_start {args : Array Value} {s : State} {t : Term} {ty : FieldType} {z : Int32} {n : Nat} (hf : Fit s) {a : Addr} (ht : t.eval args s none [] s = some (.ref a)) (hx : (Jvm.Cond.arrayOf t ty).value args s none s [] = some true) (hl : (Jvm.Cond.eq (Term.length t) (Term.int z)).value args s none s [] = some true) (hz : ¬ z < 0) (hn : z.toNatClampNeg = n) : ∃ k vs, oArr s s.heap a k ty vs ∧ vs.length = n := by
  obtain ⟨c, A⟩ := Arr.start ht hx
  have hA := A.fin (U := s) (Vm.Alike.refl _)
  have q := oEqInt_v hl
  have hs : c.slots.size < 2 ^ 31 ∧ c.slots.size.toInt32 = z := by
    by_cases hb : c.slots.size < 2 ^ 31
    · rw [len_f ht hA hb] at q
      exact ⟨hb, by simpa using q⟩
    · simp [Term.eval, ht, hA, hb] at q
  have hlen : c.slots.size = n := by
    have e1 := len_toInt hs.1
    rw [hs.2] at e1
    have e2 : z.toNatClampNeg = z.toInt.toNat := rfl
    omega
  refine ⟨c.cls, c.slots.toList, ⟨c, A, rfl, by simp, fun v hv => ?_, by simpa using hs.1⟩, by simpa using hlen⟩
  obtain ⟨i, hi, rfl⟩ := List.mem_iff_getElem.mp hv
  have hi' : i < c.slots.size := by simpa using hi
  obtain ⟨v', h1, h2⟩ := elem_fit hf A (j := i.toInt32) (idx_in hi' hs.1)
  have e3 : i.toInt32.toNatClampNeg = i := by
    have q1 : i.toInt32.toInt = i := len_toInt (by omega)
    show i.toInt32.toInt.toNat = i
    omega
  rw [e3, Array.getElem?_eq_getElem hi'] at h1
  cases h1
  simpa using h2
theorem oElem_start {args : Array Value} {s : State} {t : Term} {ty : FieldType} {a : Addr} {k : ClassId} {vs : List Value} {ix : Term} {j w : Int32} {idx : List Nat} (F : oArr s s.heap a k ty vs) (ht : t.eval args s none idx s = some (.ref a)) (hj : ix.eval args s none idx s = some (.int j)) (q : (Jvm.Cond.eq (Term.elem t ix) (Term.int w)).value args s none s idx = some true) : vs[j.toNatClampNeg]? = some (.int w) := by
  obtain ⟨c, A, -, q2, -⟩ := F
  obtain ⟨-, r⟩ := elem_in (oEqInt_v q) ht hj A.1
  rw [q2] at r
  simpa using r
theorem oStaRef {args : Array Value} {s : State} {C n d : String} {ty : FieldType} (q : (Jvm.Cond.arrayOf (Term.static C n d) ty).value args s none s [] = some true) (hi : (Jvm.Cond.initializedFor C n d).before args s = true ∨ ((Jvm.Cond.initialized C).before args s = true ∧ (Jvm.Cond.laysStatic C n d).before args s = true)) : ∃ a, (Term.static C n d).eval args s none [] s = some (.ref a) ∧ Sta s s.heap C n d (.ref a) := by
  obtain ⟨a, ha⟩ := arr_v q
  exact ⟨a, ha, Sta.start ha hi⟩
end Own
def oHw (Z : State) (a0 : Array Value) : Prop := ∀ d ∈ tables_1, d.before a0 Z = true
theorem w0 {Z : State} {a0 : Array Value} (hw : oHw Z a0) : (Jvm.Cond.classLink "com/example/hotshelf/hotshelf/tier/OwedFlagPinLaw" (7 : Nat) "com/example/hotshelf/hotshelf/tier/EpochDebt$Owed").before a0 Z = true := hw _ (List.mem_of_getElem? (i := 0) rfl)
theorem w1 {Z : State} {a0 : Array Value} (hw : oHw Z a0) : (Jvm.Cond.instantiable "com/example/hotshelf/hotshelf/tier/EpochDebt$Owed" (2 : Nat)).before a0 Z = true := hw _ (List.mem_of_getElem? (i := 1) rfl)
theorem w2 {Z : State} {a0 : Array Value} (hw : oHw Z a0) : (Jvm.Cond.initialized "com/example/hotshelf/hotshelf/tier/EpochDebt$Owed").before a0 Z = true := hw _ (List.mem_of_getElem? (i := 2) rfl)
theorem w3 {Z : State} {a0 : Array Value} (hw : oHw Z a0) : (Jvm.Cond.methodLink "com/example/hotshelf/hotshelf/tier/OwedFlagPinLaw" (9 : Nat) ({ cls := "com/example/hotshelf/hotshelf/tier/EpochDebt$Owed", name := "<init>", desc := "(JZ)V" } : Jvm.MethodName)).before a0 Z = true := hw _ (List.mem_of_getElem? (i := 3) rfl)
theorem w4 {Z : State} {a0 : Array Value} (hw : oHw Z a0) : (Jvm.Cond.instanceMethod ({ cls := "com/example/hotshelf/hotshelf/tier/EpochDebt$Owed", name := "<init>", desc := "(JZ)V" } : Jvm.MethodName)).before a0 Z = true := hw _ (List.mem_of_getElem? (i := 4) rfl)
theorem w5 {Z : State} {a0 : Array Value} (hw : oHw Z a0) : (Jvm.Cond.code ({ cls := "com/example/hotshelf/hotshelf/tier/EpochDebt$Owed", name := "<init>", desc := "(JZ)V" } : Jvm.MethodName) prog_22_method_1_code (4 : Nat) (Option.none : Option Jvm.ClassFile.FieldType)).before a0 Z = true := hw _ (List.mem_of_getElem? (i := 5) rfl)
theorem w6 {Z : State} {a0 : Array Value} (hw : oHw Z a0) : (Jvm.Cond.methodLink "com/example/hotshelf/hotshelf/tier/EpochDebt$Owed" (1 : Nat) ({ cls := "java/lang/Record", name := "<init>", desc := "()V" } : Jvm.MethodName)).before a0 Z = true := hw _ (List.mem_of_getElem? (i := 6) rfl)
theorem w7 {Z : State} {a0 : Array Value} (hw : oHw Z a0) : (Jvm.Cond.instanceMethod ({ cls := "java/lang/Record", name := "<init>", desc := "()V" } : Jvm.MethodName)).before a0 Z = true := hw _ (List.mem_of_getElem? (i := 7) rfl)
theorem w9 {Z : State} {a0 : Array Value} (hw : oHw Z a0) : (Jvm.Cond.initialized "java/lang/Record").before a0 Z = true := hw _ (List.mem_of_getElem? (i := 9) rfl)
theorem w10 {Z : State} {a0 : Array Value} (hw : oHw Z a0) : (Jvm.Cond.code ({ cls := "java/lang/Record", name := "<init>", desc := "()V" } : Jvm.MethodName) jdk_30_method_1_code (1 : Nat) (Option.none : Option Jvm.ClassFile.FieldType)).before a0 Z = true := hw _ (List.mem_of_getElem? (i := 10) rfl)
theorem w11 {Z : State} {a0 : Array Value} (hw : oHw Z a0) : (Jvm.Cond.methodLink "java/lang/Record" (1 : Nat) ({ cls := "java/lang/Object", name := "<init>", desc := "()V" } : Jvm.MethodName)).before a0 Z = true := hw _ (List.mem_of_getElem? (i := 11) rfl)
theorem w12 {Z : State} {a0 : Array Value} (hw : oHw Z a0) : (Jvm.Cond.instanceMethod ({ cls := "java/lang/Object", name := "<init>", desc := "()V" } : Jvm.MethodName)).before a0 Z = true := hw _ (List.mem_of_getElem? (i := 12) rfl)
theorem w13 {Z : State} {a0 : Array Value} (hw : oHw Z a0) : (Jvm.Cond.code ({ cls := "java/lang/Object", name := "<init>", desc := "()V" } : Jvm.MethodName) object_method_1_code (1 : Nat) (Option.none : Option Jvm.ClassFile.FieldType)).before a0 Z = true := hw _ (List.mem_of_getElem? (i := 13) rfl)
theorem w14 {Z : State} {a0 : Array Value} (hw : oHw Z a0) : (Jvm.Cond.fieldLink "com/example/hotshelf/hotshelf/tier/EpochDebt$Owed" (7 : Nat) "com/example/hotshelf/hotshelf/tier/EpochDebt$Owed" "missed" "J").before a0 Z = true := hw _ (List.mem_of_getElem? (i := 14) rfl)
theorem w15 {Z : State} {a0 : Array Value} (hw : oHw Z a0) : (Jvm.Cond.laysFinal "com/example/hotshelf/hotshelf/tier/EpochDebt$Owed" "com/example/hotshelf/hotshelf/tier/EpochDebt$Owed" "missed" "J").before a0 Z = true := hw _ (List.mem_of_getElem? (i := 15) rfl)
theorem w16 {Z : State} {a0 : Array Value} (hw : oHw Z a0) : (Jvm.Cond.fieldLink "com/example/hotshelf/hotshelf/tier/EpochDebt$Owed" (13 : Nat) "com/example/hotshelf/hotshelf/tier/EpochDebt$Owed" "bump" "Z").before a0 Z = true := hw _ (List.mem_of_getElem? (i := 16) rfl)
theorem w17 {Z : State} {a0 : Array Value} (hw : oHw Z a0) : (Jvm.Cond.laysFinal "com/example/hotshelf/hotshelf/tier/EpochDebt$Owed" "com/example/hotshelf/hotshelf/tier/EpochDebt$Owed" "bump" "Z").before a0 Z = true := hw _ (List.mem_of_getElem? (i := 17) rfl)
theorem w18 {Z : State} {a0 : Array Value} (hw : oHw Z a0) : (Jvm.Cond.methodLink "com/example/hotshelf/hotshelf/tier/OwedFlagPinLaw" (12 : Nat) ({ cls := "com/example/hotshelf/hotshelf/tier/EpochDebt$Owed", name := "flag", desc := "()[B" } : Jvm.MethodName)).before a0 Z = true := hw _ (List.mem_of_getElem? (i := 18) rfl)
theorem w19 {Z : State} {a0 : Array Value} (hw : oHw Z a0) : (Jvm.Cond.declares ({ cls := "com/example/hotshelf/hotshelf/tier/EpochDebt$Owed", name := "flag", desc := "()[B" } : Jvm.MethodName)).before a0 Z = true := hw _ (List.mem_of_getElem? (i := 19) rfl)
theorem w20 {Z : State} {a0 : Array Value} (hw : oHw Z a0) : (Jvm.Cond.instanceMethod ({ cls := "com/example/hotshelf/hotshelf/tier/EpochDebt$Owed", name := "flag", desc := "()[B" } : Jvm.MethodName)).before a0 Z = true := hw _ (List.mem_of_getElem? (i := 20) rfl)
theorem w21 {Z : State} {a0 : Array Value} (hw : oHw Z a0) : (Jvm.Cond.selects "com/example/hotshelf/hotshelf/tier/EpochDebt$Owed" ({ cls := "com/example/hotshelf/hotshelf/tier/EpochDebt$Owed", name := "flag", desc := "()[B" } : Jvm.MethodName) ({ cls := "com/example/hotshelf/hotshelf/tier/EpochDebt$Owed", name := "flag", desc := "()[B" } : Jvm.MethodName)).before a0 Z = true := hw _ (List.mem_of_getElem? (i := 21) rfl)
theorem w22 {Z : State} {a0 : Array Value} (hw : oHw Z a0) : (Jvm.Cond.code ({ cls := "com/example/hotshelf/hotshelf/tier/EpochDebt$Owed", name := "flag", desc := "()[B" } : Jvm.MethodName) prog_22_method_2_code (1 : Nat) (Option.some (Jvm.ClassFile.FieldType.array Jvm.ClassFile.FieldType.byte))).before a0 Z = true := hw _ (List.mem_of_getElem? (i := 22) rfl)
theorem w23 {Z : State} {a0 : Array Value} (hw : oHw Z a0) : (Jvm.Cond.fieldLink "com/example/hotshelf/hotshelf/tier/EpochDebt$Owed" (21 : Nat) "com/example/hotshelf/hotshelf/tier/EpochDebt$Owed" "NONE" "[B").before a0 Z = true := hw _ (List.mem_of_getElem? (i := 23) rfl)
theorem w24 {Z : State} {a0 : Array Value} (hw : oHw Z a0) : (Jvm.Cond.laysStatic "com/example/hotshelf/hotshelf/tier/EpochDebt$Owed" "NONE" "[B").before a0 Z = true := hw _ (List.mem_of_getElem? (i := 24) rfl)
theorem w25 {Z : State} {a0 : Array Value} (hw : oHw Z a0) : (Jvm.Cond.fieldLink "com/example/hotshelf/hotshelf/tier/EpochDebt$Owed" (17 : Nat) "com/example/hotshelf/hotshelf/tier/EpochDebt$Owed" "YES" "[B").before a0 Z = true := hw _ (List.mem_of_getElem? (i := 25) rfl)
theorem w26 {Z : State} {a0 : Array Value} (hw : oHw Z a0) : (Jvm.Cond.laysStatic "com/example/hotshelf/hotshelf/tier/EpochDebt$Owed" "YES" "[B").before a0 Z = true := hw _ (List.mem_of_getElem? (i := 26) rfl)
theorem d_rec_0 : decode jdk_30_method_1_code 0 = .ok (.aload_n 0, 1) := by decide +kernel
theorem d_rec_1 : decode jdk_30_method_1_code 1 = .ok (.invokespecial 1, 3) := by decide +kernel
theorem d_rec_4 : decode jdk_30_method_1_code 4 = .ok (.return_, 1) := by decide +kernel
def r_rec : Room := { frames := 1, cells := 0, slots := 0, locals := 12 }
def Q_rec (Z : State) (a : Addr) (h0 : Heap) (v : Option Value) (h : Heap) : Prop := v = none ∧ h0 = h
set_option maxRecDepth 65536 in
set_option maxHeartbeats 40000000 in
theorem rm_rec (l : Launch) (Z : State) (a0 : Array Value) (hw : oHw Z a0) (a : Addr) (h0 : Heap) : oMet l Z (⟨"java/lang/Record", "<init>", "()V"⟩ : MethodName) jdk_30_method_1_code 1 none r_rec [] #[(.ref a)] h0 (Q_rec Z a h0) := by
  refine oEnter (plainFor_of_name (by first | (simp [plainName, overriddenIn]; done) | decide +kernel)) (own := "java/lang/Record") (nm := "<init>") rfl rfl (L := #[.val (.ref a)]) (fun m => by first | (simp [entryFrame, mkF, argsToLocals, Value.category]; done) | rfl) ?_
  intro pp ee ss mm bb mt cc T0 K X0
  have E0 := X0.ext0
  refine o_aloadN K X0 d_rec_0 (pc' := 1) rfl rfl rfl ?_
  refine o_initObj K X0 (w11 hw) (w12 hw) (w13 hw) d_rec_1 (pc' := 4) rfl rfl (by decide) (W := 0) rfl (by decide) ?_
  intro T1 X1
  refine o_return K X1 d_rec_4 rfl ?_ (by decide) (by decide)
  exact ⟨rfl, rfl⟩
theorem d_owed_0 : decode prog_22_method_1_code 0 = .ok (.aload_n 0, 1) := by decide +kernel
theorem d_owed_1 : decode prog_22_method_1_code 1 = .ok (.invokespecial 1, 3) := by decide +kernel
theorem d_owed_4 : decode prog_22_method_1_code 4 = .ok (.aload_n 0, 1) := by decide +kernel
theorem d_owed_5 : decode prog_22_method_1_code 5 = .ok (.lload_n 1, 1) := by decide +kernel
theorem d_owed_6 : decode prog_22_method_1_code 6 = .ok (.putfield 7, 3) := by decide +kernel
theorem d_owed_9 : decode prog_22_method_1_code 9 = .ok (.aload_n 0, 1) := by decide +kernel
theorem d_owed_10 : decode prog_22_method_1_code 10 = .ok (.iload_n 3, 1) := by decide +kernel
theorem d_owed_11 : decode prog_22_method_1_code 11 = .ok (.putfield 13, 3) := by decide +kernel
theorem d_owed_14 : decode prog_22_method_1_code 14 = .ok (.return_, 1) := by decide +kernel
theorem pd_owed_0 : parseMethodDescriptor "()V" = some ⟨[], none⟩ := by decide +kernel
def r_owed : Room := { frames := 2, cells := 0, slots := 0, locals := 24 }
def Q_owed (Z : State) (a : Addr) (q : Int64) (p : Int32) (h0 : Heap) (v : Option Value) (h : Heap) : Prop := v = none ∧ Keep h0 h [a] ∧ Exa Z h a "com/example/hotshelf/hotshelf/tier/EpochDebt$Owed" ∧ Fld Z h a "com/example/hotshelf/hotshelf/tier/EpochDebt$Owed" "missed" "J" (.long q) ∧ Fld Z h a "com/example/hotshelf/hotshelf/tier/EpochDebt$Owed" "bump" "Z" (.int p)
set_option maxRecDepth 65536 in
set_option maxHeartbeats 40000000 in
theorem rm_owed (l : Launch) (Z : State) (a0 : Array Value) (hw : oHw Z a0) (a : Addr) (q : Int64) (p : Int32) (h0 : Heap) (q0 : Exa Z h0 a "com/example/hotshelf/hotshelf/tier/EpochDebt$Owed") (q1 : Fld Z h0 a "com/example/hotshelf/hotshelf/tier/EpochDebt$Owed" "missed" "J" (.long (0 : Int64))) (q2 : Fld Z h0 a "com/example/hotshelf/hotshelf/tier/EpochDebt$Owed" "bump" "Z" (.int (0 : Int32))) (q3 : Z.heap.size ≤ a) (q4 : nar .boolean p = p) : oMet l Z (⟨"com/example/hotshelf/hotshelf/tier/EpochDebt$Owed", "<init>", "(JZ)V"⟩ : MethodName) prog_22_method_1_code 4 none r_owed [] #[(.ref a), (.long q), (.int p)] h0 (Q_owed Z a q p h0) := by
  refine oEnter (plainFor_of_name (by first | (simp [plainName, overriddenIn]; done) | decide +kernel)) (own := "com/example/hotshelf/hotshelf/tier/EpochDebt$Owed") (nm := "<init>") rfl rfl (L := #[.val (.ref a), .val (.long q), .second, .val (.int p)]) (fun m => by first | (simp [entryFrame, mkF, argsToLocals, Value.category]; done) | rfl) ?_
  intro pp ee ss mm bb mt cc T0 K X0
  have E0 := X0.ext0
  refine o_aloadN K X0 d_owed_0 (pc' := 1) rfl rfl rfl ?_
  refine o_special K X0 (y := (⟨"java/lang/Record", "<init>", "()V"⟩ : MethodName)) rfl (w6 hw) (w7 hw) (w9 hw) (w10 hw) (by decide) (rm_rec l Z a0 hw a h0) (by decide) rfl (argsL := []) rfl (lenOf pd_owed_0 rfl) (W := 0) rfl (by decide) (by decide) (by decide) d_owed_1 (pc' := 4) rfl ?_
  intro v1 T1 h1 X1 U1
  obtain ⟨rfl, rfl⟩ := U1
  show oGoes pp ee bb ss Z T1 (mkF mm 4 #[.val (.ref a), .val (.long q), .second, .val (.int p)] []) _ _ _
  refine o_aloadN K X1 d_owed_4 (pc' := 5) rfl rfl rfl ?_
  refine o_lloadN K X1 d_owed_5 (pc' := 6) rfl rfl ?_
  refine o_putfield K X1 (host := "") (Or.inl (w14 hw)) Via.refl q1 q0 (Or.inr ⟨(w15 hw), rfl, rfl⟩) (w1 hw) (ty := .long) (by decide) rfl rfl q3 d_owed_6 (pc' := 9) rfl ?_
  intro T2 h2 X2 W2
  have F2 := Fld.same W2 q1
  refine o_aloadN K X2 d_owed_9 (pc' := 10) rfl rfl rfl ?_
  refine o_iloadN K X2 d_owed_10 (pc' := 11) rfl rfl ?_
  refine o_putfieldN K X2 (w16 hw) Via.refl (Fld.other W2 q2 (Or.inr (slot_ne (Or.inr (w17 hw)) (Or.inr (w15 hw)) (by decide) (t := .boolean) (t' := .long) (by decide) (by decide)))) (Exa.wr W2 q0) (Or.inr ⟨(w17 hw), rfl, rfl⟩) (w1 hw) (ty := .boolean) (by decide) (v' := (.int p)) (congrArg Value.int q4) (oFitboolean (x := p) q4) q3 d_owed_11 (pc' := 14) rfl ?_
  intro T3 h3 X3 W3
  have F3 := Fld.same W3 (Fld.other W2 q2 (Or.inr (slot_ne (Or.inr (w17 hw)) (Or.inr (w15 hw)) (by decide) (t := .boolean) (t' := .long) (by decide) (by decide))))
  refine o_return K X3 d_owed_14 rfl ?_ (by decide) (by decide)
  exact ⟨rfl, (((Keep.refl h0 [a]).wr W2 (Or.inl (List.mem_of_getElem? (i := 0) rfl))).wr W3 (Or.inl (List.mem_of_getElem? (i := 0) rfl))), (Exa.wr W3 (Exa.wr W2 q0)), (Fld.other W3 F2 (Or.inr (slot_ne (Or.inr (w15 hw)) (Or.inr (w17 hw)) (by decide) (t := .long) (t' := .boolean) (by decide) (by decide)))), F3⟩
theorem d_flagN_0 : decode prog_22_method_2_code 0 = .ok (.aload_n 0, 1) := by decide +kernel
theorem d_flagN_1 : decode prog_22_method_2_code 1 = .ok (.getfield 13, 3) := by decide +kernel
theorem d_flagN_4 : decode prog_22_method_2_code 4 = .ok (.ifCond .eq 9, 3) := by decide +kernel
theorem d_flagN_13 : decode prog_22_method_2_code 13 = .ok (.getstatic 21, 3) := by decide +kernel
theorem d_flagN_16 : decode prog_22_method_2_code 16 = .ok (.areturn, 1) := by decide +kernel
def r_flagN : Room := { frames := 0, cells := 0, slots := 0, locals := 0 }
def Q_flagN (Z : State) (a : Addr) (nn : Addr) (h0 : Heap) (v : Option Value) (h : Heap) : Prop := v = some (.ref nn) ∧ h0 = h
set_option maxRecDepth 65536 in
set_option maxHeartbeats 40000000 in
theorem rm_flagN (l : Launch) (Z : State) (a0 : Array Value) (hw : oHw Z a0) (a : Addr) (nn : Addr) (h0 : Heap) (q0 : Fld Z h0 a "com/example/hotshelf/hotshelf/tier/EpochDebt$Owed" "bump" "Z" (.int (0 : Int32))) (q1 : Sta Z Z.heap "com/example/hotshelf/hotshelf/tier/EpochDebt$Owed" "NONE" "[B" (.ref nn)) : oMet l Z (⟨"com/example/hotshelf/hotshelf/tier/EpochDebt$Owed", "flag", "()[B"⟩ : MethodName) prog_22_method_2_code 1 (some (.array .byte)) r_flagN [] #[(.ref a)] h0 (Q_flagN Z a nn h0) := by
  refine oEnter (plainFor_of_name (by first | (simp [plainName, overriddenIn]; done) | decide +kernel)) (own := "com/example/hotshelf/hotshelf/tier/EpochDebt$Owed") (nm := "flag") rfl rfl (L := #[.val (.ref a)]) (fun m => by first | (simp [entryFrame, mkF, argsToLocals, Value.category]; done) | rfl) ?_
  intro pp ee ss mm bb mt cc T0 K X0
  have E0 := X0.ext0
  refine o_aloadN K X0 d_flagN_0 (pc' := 1) rfl rfl rfl ?_
  refine o_getfield K X0 (host := "") (Or.inl (w16 hw)) Via.refl q0 d_flagN_1 (pc' := 4) rfl ?_
  intro T1 X1
  refine o_if_eq_t K X1 d_flagN_4 (by decide) (pc' := 13) (by decide) (by decide) ?_
  refine o_getstatic K X1 (host := "") (Or.inl (w23 hw)) Via.refl (q1.ext X1.ext0) d_flagN_13 (pc' := 16) rfl ?_
  intro T2 X2
  refine o_areturn K X2 (t := (.array .byte)) d_flagN_16 rfl rfl rfl ?_ (by decide) (by decide)
  exact ⟨rfl, rfl⟩
theorem d_flagY_0 : decode prog_22_method_2_code 0 = .ok (.aload_n 0, 1) := by decide +kernel
theorem d_flagY_1 : decode prog_22_method_2_code 1 = .ok (.getfield 13, 3) := by decide +kernel
theorem d_flagY_4 : decode prog_22_method_2_code 4 = .ok (.ifCond .eq 9, 3) := by decide +kernel
theorem d_flagY_7 : decode prog_22_method_2_code 7 = .ok (.getstatic 17, 3) := by decide +kernel
theorem d_flagY_10 : decode prog_22_method_2_code 10 = .ok (.goto 6, 3) := by decide +kernel
theorem d_flagY_16 : decode prog_22_method_2_code 16 = .ok (.areturn, 1) := by decide +kernel
def r_flagY : Room := { frames := 0, cells := 0, slots := 0, locals := 0 }
def Q_flagY (Z : State) (a : Addr) (yy : Addr) (h0 : Heap) (v : Option Value) (h : Heap) : Prop := v = some (.ref yy) ∧ h0 = h
set_option maxRecDepth 65536 in
set_option maxHeartbeats 40000000 in
theorem rm_flagY (l : Launch) (Z : State) (a0 : Array Value) (hw : oHw Z a0) (a : Addr) (yy : Addr) (h0 : Heap) (q0 : Fld Z h0 a "com/example/hotshelf/hotshelf/tier/EpochDebt$Owed" "bump" "Z" (.int (1 : Int32))) (q1 : Sta Z Z.heap "com/example/hotshelf/hotshelf/tier/EpochDebt$Owed" "YES" "[B" (.ref yy)) : oMet l Z (⟨"com/example/hotshelf/hotshelf/tier/EpochDebt$Owed", "flag", "()[B"⟩ : MethodName) prog_22_method_2_code 1 (some (.array .byte)) r_flagY [] #[(.ref a)] h0 (Q_flagY Z a yy h0) := by
  refine oEnter (plainFor_of_name (by first | (simp [plainName, overriddenIn]; done) | decide +kernel)) (own := "com/example/hotshelf/hotshelf/tier/EpochDebt$Owed") (nm := "flag") rfl rfl (L := #[.val (.ref a)]) (fun m => by first | (simp [entryFrame, mkF, argsToLocals, Value.category]; done) | rfl) ?_
  intro pp ee ss mm bb mt cc T0 K X0
  have E0 := X0.ext0
  refine o_aloadN K X0 d_flagY_0 (pc' := 1) rfl rfl rfl ?_
  refine o_getfield K X0 (host := "") (Or.inl (w16 hw)) Via.refl q0 d_flagY_1 (pc' := 4) rfl ?_
  intro T1 X1
  refine o_if_eq_f K X1 d_flagY_4 (pc' := 7) rfl (by decide) ?_
  refine o_getstatic K X1 (host := "") (Or.inl (w25 hw)) Via.refl (q1.ext X1.ext0) d_flagY_7 (pc' := 10) rfl ?_
  intro T2 X2
  refine o_goto K X2 d_flagY_10 (by decide) (pc' := 16) (by decide) ?_
  refine o_areturn K X2 (t := (.array .byte)) d_flagY_16 rfl rfl rfl ?_ (by decide) (by decide)
  exact ⟨rfl, rfl⟩
theorem pd_law_0 : parseMethodDescriptor "(JZ)V" = some ⟨[.long, .boolean], none⟩ := by decide +kernel
theorem pd_law_1 : parseMethodDescriptor "()[B" = some ⟨[], some (.array .byte)⟩ := by decide +kernel
def Q_law (Z : State) (i0 : Int64) (i1 : Int32) (yy : Addr) (nn : Addr) (ky : ClassId) (kn : ClassId) (h0 : Heap) (v : Option Value) (h : Heap) : Prop := v = some (.int (1 : Int32))
set_option maxRecDepth 65536 in
set_option maxHeartbeats 40000000 in
theorem rm_law (l : Launch) (Z : State) (a0 : Array Value) (hw : oHw Z a0) (i0 : Int64) (i1 : Int32) (yy : Addr) (nn : Addr) (ky : ClassId) (kn : ClassId) (h0 : Heap) (q0 : Sta Z Z.heap "com/example/hotshelf/hotshelf/tier/EpochDebt$Owed" "YES" "[B" (.ref yy)) (q1 : Sta Z Z.heap "com/example/hotshelf/hotshelf/tier/EpochDebt$Owed" "NONE" "[B" (.ref nn)) (q2 : oArr Z Z.heap yy ky .byte [(.int (49 : Int32))]) (q3 : oArr Z Z.heap nn kn .byte []) (ws : List Jvm.Cond) : oMet l Z x code maxLocals ret room_1 ws #[(.long i0), (.int i1)] h0 (Q_law Z i0 i1 yy nn ky kn h0) := by
  refine oEnter (plainFor_of_name (by first | (simp [plainName, overriddenIn]; done) | decide +kernel)) (own := "com/example/hotshelf/hotshelf/tier/OwedFlagPinLaw") (nm := "law") rfl rfl (L := #[.val (.long i0), .second, .val (.int i1), .unset, .unset, .unset]) (fun m => by first | (simp [entryFrame, mkF, argsToLocals, Value.category, maxLocals]; done) | rfl) ?_
  intro pp ee ss mm bb mt cc T0 K X0
  have E0 := X0.ext0
  refine o_iloadN K X0 at_0 (pc' := 1) rfl rfl ?_
  refine o_iconst K X0 at_1 (pc' := 2) rfl (z := (1 : Int32)) rfl ?_
  refine o_iand K X0 at_2 (pc' := 3) rfl (z := (i1 &&& (1 : Int32))) rfl ?_
  by_cases c3_1 : (i1 &&& (1 : Int32)) = (0 : Int32)
  · refine o_if_eq_t K X0 at_3 (by decide) (pc' := 10) (by decide) c3_1 ?_
    refine o_iconst K X0 at_10 (pc' := 11) rfl (z := (0 : Int32)) rfl ?_
    refine o_istoreN K X0 at_11 (pc' := 12) rfl (L' := #[.val (.long i0), .second, .val (.int i1), .val (.int (0 : Int32)), .unset, .unset]) rfl ?_
    refine o_new K X0 (w0 hw) (w1 hw) (w2 hw) at_12 (pc' := 15) rfl (by decide) (by decide) ?_
    intro T2 h2 b2 X2 g2 E2 A2 D2 G2
    have F2_missed : Fld Z h2 b2 "com/example/hotshelf/hotshelf/tier/EpochDebt$Owed" "missed" "J" (.long (0 : Int64)) := (D2 (Or.inr (w15 hw)) (ty := .long) (by decide))
    have F2_bump : Fld Z h2 b2 "com/example/hotshelf/hotshelf/tier/EpochDebt$Owed" "bump" "Z" (.int (0 : Int32)) := (D2 (Or.inr (w17 hw)) (ty := .boolean) (by decide))
    refine o_dup K X2 at_15 (pc' := 16) rfl rfl ?_
    refine o_lloadN K X2 at_16 (pc' := 17) rfl rfl ?_
    refine o_iloadN K X2 at_17 (pc' := 18) rfl rfl ?_
    refine o_special K X2 (y := (⟨"com/example/hotshelf/hotshelf/tier/EpochDebt$Owed", "<init>", "(JZ)V"⟩ : MethodName)) rfl (w3 hw) (w4 hw) (w2 hw) (w5 hw) (by decide) (rm_owed l Z a0 hw b2 i0 (0 : Int32) h2 A2 F2_missed F2_bump G2 (by decide)) (by decide) rfl (argsL := [(.long i0), (.int (0 : Int32))]) rfl (lenOf pd_law_0 rfl) (W := 1) rfl (by decide) (by decide) (by decide) at_18 (pc' := 21) rfl ?_
    intro v3 T3 h3 X3 U3
    obtain ⟨rfl, u3_0, u3_1, u3_2, u3_3⟩ := U3
    show oGoes pp ee bb ss Z T3 (mkF mm 21 #[.val (.long i0), .second, .val (.int i1), .val (.int (0 : Int32)), .unset, .unset] [(.ref b2)]) _ _ _
    refine o_astore K X3 at_21 (pc' := 23) rfl rfl (L' := #[.val (.long i0), .second, .val (.int i1), .val (.int (0 : Int32)), .val (.ref b2), .unset]) rfl ?_
    refine o_aload K X3 at_23 (pc' := 25) rfl rfl rfl ?_
    refine o_virtual K X3 (y := (⟨"com/example/hotshelf/hotshelf/tier/EpochDebt$Owed", "flag", "()[B"⟩ : MethodName)) (z := (⟨"com/example/hotshelf/hotshelf/tier/EpochDebt$Owed", "flag", "()[B"⟩ : MethodName)) (w18 hw) (w19 hw) (notFace_of_selects (args := #[]) (mvT K.2.1 (w21 hw))) (w21 hw) (w20 hw) (w2 hw) (w22 hw) (by decide) u3_1 (rm_flagN l Z a0 hw b2 nn h3 u3_3 q1) (by decide) rfl (argsL := []) rfl (lenOf pd_law_1 rfl) (W := 0) rfl (by decide) (by decide) (by decide) at_25 (pc' := 28) rfl ?_
    intro v4 T4 h4 X4 U4
    obtain ⟨rfl, rfl⟩ := U4
    show oGoes pp ee bb ss Z T4 (mkF mm 28 #[.val (.long i0), .second, .val (.int i1), .val (.int (0 : Int32)), .val (.ref b2), .unset] [(.ref nn)]) _ _ _
    refine o_astore K X4 at_28 (pc' := 30) rfl rfl (L' := #[.val (.long i0), .second, .val (.int i1), .val (.int (0 : Int32)), .val (.ref b2), .val (.ref nn)]) rfl ?_
    refine o_aload K X4 at_30 (pc' := 32) rfl rfl rfl ?_
    refine o_ifnonnull_t K X4 at_32 (by decide) (pc' := 37) (by decide) ?_
    refine o_iloadN K X4 at_37 (pc' := 38) rfl rfl ?_
    refine o_if_eq_t K X4 at_38 (by decide) (pc' := 63) (by decide) (by decide) ?_
    refine o_aload K X4 at_63 (pc' := 65) rfl rfl rfl ?_
    refine o_arraylength K X4 (q3.ext X4.ext0) (z := (0 : Int32)) rfl at_65 (pc' := 66) rfl ?_
    refine o_if_ne_f K X4 at_66 (pc' := 69) rfl (by decide) ?_
    refine o_iconst K X4 at_69 (pc' := 70) rfl (z := (1 : Int32)) rfl ?_
    refine o_goto K X4 at_70 (by decide) (pc' := 74) (by decide) ?_
    refine o_ireturnN K X4 .boolean at_74 rfl (by simp) (z' := (1 : Int32)) (by decide) ?_ (by decide) (by decide)
    exact rfl
  · refine o_if_eq_f K X0 at_3 (pc' := 6) rfl c3_1 ?_
    refine o_iconst K X0 at_6 (pc' := 7) rfl (z := (1 : Int32)) rfl ?_
    refine o_goto K X0 at_7 (by decide) (pc' := 11) (by decide) ?_
    refine o_istoreN K X0 at_11 (pc' := 12) rfl (L' := #[.val (.long i0), .second, .val (.int i1), .val (.int (1 : Int32)), .unset, .unset]) rfl ?_
    refine o_new K X0 (w0 hw) (w1 hw) (w2 hw) at_12 (pc' := 15) rfl (by decide) (by decide) ?_
    intro T5 h5 b5 X5 g5 E5 A5 D5 G5
    have F5_missed : Fld Z h5 b5 "com/example/hotshelf/hotshelf/tier/EpochDebt$Owed" "missed" "J" (.long (0 : Int64)) := (D5 (Or.inr (w15 hw)) (ty := .long) (by decide))
    have F5_bump : Fld Z h5 b5 "com/example/hotshelf/hotshelf/tier/EpochDebt$Owed" "bump" "Z" (.int (0 : Int32)) := (D5 (Or.inr (w17 hw)) (ty := .boolean) (by decide))
    refine o_dup K X5 at_15 (pc' := 16) rfl rfl ?_
    refine o_lloadN K X5 at_16 (pc' := 17) rfl rfl ?_
    refine o_iloadN K X5 at_17 (pc' := 18) rfl rfl ?_
    refine o_special K X5 (y := (⟨"com/example/hotshelf/hotshelf/tier/EpochDebt$Owed", "<init>", "(JZ)V"⟩ : MethodName)) rfl (w3 hw) (w4 hw) (w2 hw) (w5 hw) (by decide) (rm_owed l Z a0 hw b5 i0 (1 : Int32) h5 A5 F5_missed F5_bump G5 (by decide)) (by decide) rfl (argsL := [(.long i0), (.int (1 : Int32))]) rfl (lenOf pd_law_0 rfl) (W := 1) rfl (by decide) (by decide) (by decide) at_18 (pc' := 21) rfl ?_
    intro v6 T6 h6 X6 U6
    obtain ⟨rfl, u6_0, u6_1, u6_2, u6_3⟩ := U6
    show oGoes pp ee bb ss Z T6 (mkF mm 21 #[.val (.long i0), .second, .val (.int i1), .val (.int (1 : Int32)), .unset, .unset] [(.ref b5)]) _ _ _
    refine o_astore K X6 at_21 (pc' := 23) rfl rfl (L' := #[.val (.long i0), .second, .val (.int i1), .val (.int (1 : Int32)), .val (.ref b5), .unset]) rfl ?_
    refine o_aload K X6 at_23 (pc' := 25) rfl rfl rfl ?_
    refine o_virtual K X6 (y := (⟨"com/example/hotshelf/hotshelf/tier/EpochDebt$Owed", "flag", "()[B"⟩ : MethodName)) (z := (⟨"com/example/hotshelf/hotshelf/tier/EpochDebt$Owed", "flag", "()[B"⟩ : MethodName)) (w18 hw) (w19 hw) (notFace_of_selects (args := #[]) (mvT K.2.1 (w21 hw))) (w21 hw) (w20 hw) (w2 hw) (w22 hw) (by decide) u6_1 (rm_flagY l Z a0 hw b5 yy h6 u6_3 q0) (by decide) rfl (argsL := []) rfl (lenOf pd_law_1 rfl) (W := 0) rfl (by decide) (by decide) (by decide) at_25 (pc' := 28) rfl ?_
    intro v7 T7 h7 X7 U7
    obtain ⟨rfl, rfl⟩ := U7
    show oGoes pp ee bb ss Z T7 (mkF mm 28 #[.val (.long i0), .second, .val (.int i1), .val (.int (1 : Int32)), .val (.ref b5), .unset] [(.ref yy)]) _ _ _
    refine o_astore K X7 at_28 (pc' := 30) rfl rfl (L' := #[.val (.long i0), .second, .val (.int i1), .val (.int (1 : Int32)), .val (.ref b5), .val (.ref yy)]) rfl ?_
    refine o_aload K X7 at_30 (pc' := 32) rfl rfl rfl ?_
    refine o_ifnonnull_t K X7 at_32 (by decide) (pc' := 37) (by decide) ?_
    refine o_iloadN K X7 at_37 (pc' := 38) rfl rfl ?_
    refine o_if_eq_f K X7 at_38 (pc' := 41) rfl (by decide) ?_
    refine o_aload K X7 at_41 (pc' := 43) rfl rfl rfl ?_
    refine o_arraylength K X7 (q2.ext X7.ext0) (z := (1 : Int32)) rfl at_43 (pc' := 44) rfl ?_
    refine o_iconst K X7 at_44 (pc' := 45) rfl (z := (1 : Int32)) rfl ?_
    refine o_icmp_ne_f K X7 at_45 (pc' := 48) rfl (by decide) ?_
    refine o_aload K X7 at_48 (pc' := 50) rfl rfl rfl ?_
    refine o_iconst K X7 at_50 (pc' := 51) rfl (z := (0 : Int32)) rfl ?_
    refine o_baload K X7 (q2.ext X7.ext0) (by decide) (v := (.int (49 : Int32))) rfl at_51 (pc' := 52) rfl ?_
    refine o_bipush K X7 at_52 (pc' := 54) rfl (z := (49 : Int32)) rfl ?_
    refine o_icmp_ne_f K X7 at_54 (pc' := 57) rfl (by decide) ?_
    refine o_iconst K X7 at_57 (pc' := 58) rfl (z := (1 : Int32)) rfl ?_
    refine o_goto K X7 at_58 (by decide) (pc' := 62) (by decide) ?_
    refine o_ireturnN K X7 .boolean at_62 rfl (by simp) (z' := (1 : Int32)) (by decide) ?_ (by decide) (by decide)
    exact rfl
set_option maxRecDepth 65536 in
set_option maxHeartbeats 40000000 in
theorem comes_1 {Post : Tables → Env → Array Value → State → Outcome → State → Prop} (hpost : ∀ tb e args s v u, (limb_1_1.after args s (.returned v) u = true ∧ limb_1_2.after args s (.returned v) u = true ∧ True) → FrameEnd s (.returned v) u (Jvm.fieldLocs frame_1_writes args s ++ Jvm.arrayLocs frame_1_arrays args s ++ Jvm.staticLocs frame_1_statics s) 16 128 → Post tb e args s (.returned v) u) :
    ArmFor flags0 classFile x code maxLocals ret World_1 tables_1 room_1 Calls_1 rest_1 Pre_1 Post := by
  intro l hfl _ _ p e ha hc hk s m args below hf hA hF happ hP
  obtain ⟨hcalls, hrest, hpre⟩ := hP
  obtain ⟨-, -, -, hnamed, -, -, -, hat⟩ := (Spec.applies_iff hf).mp happ
  obtain ⟨hg, hn⟩ := and_e (Cond.before_iff.mp (show (Jvm.Cond.and given_1 narrow_1).before args s = true from hpre))
  obtain ⟨g0, gr0⟩ := and_e hg
  obtain ⟨g1, gr1⟩ := and_e gr0
  obtain ⟨w_0, w_1, rfl⟩ : ∃ w_0 w_1 : Value, args = #[w_0, w_1] := by
    have hs : args.size = 2 := by simpa [Jvm.Cond.value] using g0
    obtain ⟨L⟩ := args
    match L, hs with
    | [w_0, w_1], _ => exact ⟨w_0, w_1, rfl⟩
  have hw : oHw s #[w_0, w_1] := fun d (hd : d ∈ tables_1) => atoms_spec (ws := Jvm.Cond.code x code maxLocals ret :: tables_1) hat d (List.mem_cons_of_mem _ hd)
  have hfit : Fit s := fun {y c} hc i hi => by
    obtain ⟨ha, rfl⟩ := Array.getElem?_eq_some_iff.mp hc
    have q := List.all_eq_true.mp ((Array.all_eq_true_iff_forall_mem.mp hF) _ (Array.getElem_mem ha)) i (List.mem_range.mpr hi)
    simpa [Array.getElem?_eq_getElem hi] using q
  obtain ⟨i0, ei0⟩ := isL_v g1
  obtain rfl : w_0 = (.long i0) := Option.some.inj ei0
  obtain ⟨i1, ei1⟩ := is_v gr1
  obtain rfl : w_1 = (.int i1) := Option.some.inj ei1
  obtain ⟨n1, n2⟩ := and_e hn
  obtain ⟨n2, n3⟩ := and_e n2
  obtain ⟨n3, n4⟩ := and_e n3
  obtain ⟨n4, n5⟩ := and_e n4
  obtain ⟨nn, en, Sn⟩ := oStaRef n1 (Or.inr ⟨(w2 hw), (w24 hw)⟩)
  obtain ⟨yy, ey, Sy⟩ := oStaRef n3 (Or.inr ⟨(w2 hw), (w26 hw)⟩)
  obtain ⟨kn, vn, Fn, ln⟩ := oArr_start hfit en n1 n2 (by decide) (n := 0) (by decide)
  obtain ⟨ky, vy, Fy, ly⟩ := oArr_start hfit ey n3 n4 (by decide) (n := 1) (by decide)
  have e0 := oElem_start Fy ey (ix := Term.int 0) rfl n5
  obtain rfl : vn = [] := List.eq_nil_of_length_eq_zero ln
  obtain ⟨v0, rfl⟩ : ∃ v0, vy = [v0] := List.length_eq_one_iff.mp ly
  obtain rfl : v0 = .int 49 := Option.some.inj e0
  obtain ⟨n, o, h1, h2, h3, v, L, rfl, ⟨hQ, N, E⟩, hq⟩ := rm_law l s _ hw i0 i1 yy nn ky kn s.heap Sy Sn Fy Fn tables_1 ⟨Nat.le_refl _, fun _ _ q => q⟩ p e ha hc hk s m _ below hf ((Spec.applies_iff_loose hf).mp happ).1 ⟨rfl, State.Warmed39.refl s, rfl⟩ trivial
  obtain rfl : v = some (.int 1) := hQ
  refine ⟨n, _, h1, h2, h3, hpost _ _ _ _ _ _ ⟨Cond.after_iff.mpr rfl, Cond.after_iff.mpr (eq_i res_at (Term.int_eval (1)) rfl), trivial⟩ ⟨hq.1, hq.2.1, (hq.2.2.sift fun y hy => Or.inr (N y hy)).mono (by decide) (by decide)⟩⟩
theorem main_1_1 : Claimed_1_1 := comes_1 fun _ _ _ _ _ _ h hF => ⟨h.1, hF⟩
theorem main_1_2 : Claimed_1_2 := comes_1 fun _ _ _ _ _ _ h hF => ⟨h.2.1, hF⟩
end Jvm.Pilot.@@N@@
namespace Jvm.Pilot.@@N@@
open Jvm Jvm.ClassFile Sem Op Lib Jvm.Free Jvm.Stand Jvm.Pilot.@@N@@.Jvm.D
/-! MADE BY PROGRAM (witnessworld.py) out of the Statement's table words and the real class files: 10 classes; the members and pool entries that the words name. The judged class is class 1, her method 1. -/
namespace start1
open Jvm.ClassFile
def u (s : String) : CpInfo := .utf8 (stringToUtf16 s)
/-- a pool by its gaps: so many unusable entries, then the entry; so many at the end -/
def gap : Nat → List CpInfo → List CpInfo
  | 0, r => r
  | n + 1, r => .unusable :: gap n r
def poolList (es : List (Nat × CpInfo)) (last : Nat) : List CpInfo := es.foldr (fun e r => gap e.1 (e.2 :: r)) (gap last [])
def pool (es : List (Nat × CpInfo)) (last : Nat) : Array CpInfo := ⟨poolList es last⟩
def fileOf (pool : Array CpInfo) (this : Nat) (attrs : Array Attribute := #[]) (ms : Array MethodInfo := #[]) (fl : Nat := 33) (sup : Nat := 0) (ifs : Array Nat := #[]) (fds : Array FieldInfo := #[]) : ClassFile where
  minorVersion := 0
  majorVersion := 65
  constantPool := pool
  accessFlags := fl
  thisClass := this
  superClass := sup
  interfaces := ifs
  fields := fds
  methods := ms
  attributes := attrs
def plain (name : String) (sup : Option ClassId) : Class where
  name := name
  kind := .ordinary
  loader := none
  accessFlags := 33
  super := sup
  interfaces := #[]
  cf := none
  fields := #[]
  methods := #[]
  instanceTypes := #[]
  staticTypes := #[]
  resolved := #[]
  callSites := []
  init := .initialized
  statics := none
  mirror := none

def pool0 : Array CpInfo := pool [(5, u "<init>"), (0, u "()V"), (1, .class_ 10), (1, u "java/lang/Object")] 113

def k0c0 : Code := { maxStack := 0, maxLocals := 1, code := object_method_1_code, exceptionTable := #[], attributes := #[] }
def k0m0 : Method := { name := "<init>", desc := "()V", sig := { parameters := [], returnType := none }, accessFlags := 1, code := some k0c0 }
/-- java/lang/Object -/
def k0 : Class := { plain "java/lang/Object" none with
  accessFlags := 33
  interfaces := #[]
  cf := some (fileOf pool0 8 #[] #[{ accessFlags := 1, nameIndex := 5, descriptorIndex := 6, attributes := #[] }] 33 0 #[] #[])
  fields := #[]
  methods := #[k0m0]
  instanceTypes := #[]
  staticTypes := #[]
  resolved := Array.replicate 124 none
  statics := none }

def pool1 : Array CpInfo := pool [(2, .class_ 4), (1, u "java/lang/Object"), (0, u "<init>"), (0, u "()V"), (0, .class_ 8), (0, u "com/example/hotshelf/hotshelf/tier/EpochDebt$Owed"), (0, .methodref 7 10), (0, .nameAndType 5 11), (0, u "(JZ)V"), (0, .methodref 7 13), (0, .nameAndType 14 15), (0, u "flag"), (0, u "()[B"), (0, .class_ 17), (0, u "com/example/hotshelf/hotshelf/tier/OwedFlagPinLaw"), (2, u "law"), (0, u "(JI)Z")] 9

def k1m0 : Method := { name := "<init>", desc := "()V", sig := { parameters := [], returnType := none }, accessFlags := 2, code := none }
def k1c1 : Code := { maxStack := 5, maxLocals := 6, code := code, exceptionTable := #[], attributes := #[] }
def k1m1 : Method := { name := "law", desc := "(JI)Z", sig := { parameters := [.long, .int], returnType := some .boolean }, accessFlags := 9, code := some k1c1 }
/-- com/example/hotshelf/hotshelf/tier/OwedFlagPinLaw -/
def k1 : Class := { plain "com/example/hotshelf/hotshelf/tier/OwedFlagPinLaw" (some 0) with
  accessFlags := 49
  interfaces := #[]
  cf := some (fileOf pool1 16 #[] #[{ accessFlags := 2, nameIndex := 5, descriptorIndex := 6, attributes := #[] }, { accessFlags := 9, nameIndex := 20, descriptorIndex := 21, attributes := #[] }] 49 2 #[] #[])
  fields := #[]
  methods := #[k1m0, k1m1]
  instanceTypes := #[]
  staticTypes := #[]
  resolved := Array.replicate 31 none
  statics := none }

def pool2 : Array CpInfo := pool [(1, .methodref 2 3), (0, .class_ 4), (0, .nameAndType 5 6), (0, u "java/lang/Object"), (0, u "<init>"), (0, u "()V"), (0, .class_ 8), (0, u "java/lang/Record")] 13

def k2c0 : Code := { maxStack := 1, maxLocals := 1, code := jdk_30_method_1_code, exceptionTable := #[], attributes := #[] }
def k2m0 : Method := { name := "<init>", desc := "()V", sig := { parameters := [], returnType := none }, accessFlags := 4, code := some k2c0 }
/-- java/lang/Record -/
def k2 : Class := { plain "java/lang/Record" (some 0) with
  accessFlags := 1057
  interfaces := #[]
  cf := some (fileOf pool2 7 #[] #[{ accessFlags := 4, nameIndex := 5, descriptorIndex := 6, attributes := #[] }] 1057 2 #[] #[])
  fields := #[]
  methods := #[k2m0]
  instanceTypes := #[]
  staticTypes := #[]
  resolved := Array.replicate 22 none
  statics := none }

def pool3 : Array CpInfo := pool [(1, .methodref 2 3), (0, .class_ 4), (0, .nameAndType 5 6), (0, u "java/lang/Record"), (0, u "<init>"), (0, u "()V"), (0, .fieldref 8 9), (0, .class_ 10), (0, .nameAndType 11 12), (0, u "com/example/hotshelf/hotshelf/tier/EpochDebt$Owed"), (0, u "missed"), (0, u "J"), (0, .fieldref 8 14), (0, .nameAndType 15 16), (0, u "bump"), (0, u "Z"), (0, .fieldref 8 18), (0, .nameAndType 19 20), (0, u "YES"), (0, u "[B"), (0, .fieldref 8 22), (0, .nameAndType 23 20), (0, u "NONE"), (12, u "(JZ)V"), (3, u "flag"), (0, u "()[B"), (11, .class_ 54), (0, u "com/example/hotshelf/hotshelf/tier/EpochDebt")] 20

def k3c0 : Code := { maxStack := 3, maxLocals := 4, code := prog_22_method_1_code, exceptionTable := #[], attributes := #[] }
def k3m0 : Method := { name := "<init>", desc := "(JZ)V", sig := { parameters := [.long, .boolean], returnType := none }, accessFlags := 0, code := some k3c0 }
def k3c1 : Code := { maxStack := 1, maxLocals := 1, code := prog_22_method_2_code, exceptionTable := #[], attributes := #[] }
def k3m1 : Method := { name := "flag", desc := "()[B", sig := { parameters := [], returnType := some (.array .byte) }, accessFlags := 0, code := some k3c1 }
/-- com/example/hotshelf/hotshelf/tier/EpochDebt$Owed -/
def k3 : Class := { plain "com/example/hotshelf/hotshelf/tier/EpochDebt$Owed" (some 2) with
  accessFlags := 48
  interfaces := #[]
  cf := some (fileOf pool3 8 #[.nestHost 53] #[{ accessFlags := 0, nameIndex := 5, descriptorIndex := 36, attributes := #[] }, { accessFlags := 0, nameIndex := 40, descriptorIndex := 41, attributes := #[] }] 48 2 #[] #[{ accessFlags := 18, nameIndex := 11, descriptorIndex := 12, attributes := #[] }, { accessFlags := 18, nameIndex := 15, descriptorIndex := 16, attributes := #[] }, { accessFlags := 26, nameIndex := 23, descriptorIndex := 20, attributes := #[] }, { accessFlags := 26, nameIndex := 19, descriptorIndex := 20, attributes := #[] }])
  fields := #[{ name := "missed", type := .long, accessFlags := 18, slot := 0, constantValue := 0 }, { name := "bump", type := .boolean, accessFlags := 18, slot := 1, constantValue := 0 }, { name := "NONE", type := (.array .byte), accessFlags := 26, slot := 0, constantValue := 0 }, { name := "YES", type := (.array .byte), accessFlags := 26, slot := 1, constantValue := 0 }]
  methods := #[k3m0, k3m1]
  instanceTypes := #[.long, .boolean]
  staticTypes := #[(.array .byte), (.array .byte)]
  resolved := Array.replicate 75 none
  statics := some 0 }

def pool4 : Array CpInfo := pool [(1, u "java/lang/Cloneable"), (0, .class_ 1), (0, u "java/lang/Object"), (0, .class_ 3)] 3

/-- java/lang/Cloneable -/
def k4 : Class := { plain "java/lang/Cloneable" (some 0) with
  accessFlags := 1537
  interfaces := #[]
  cf := some (fileOf pool4 2 #[] #[] 1537 4 #[] #[])
  fields := #[]
  methods := #[]
  instanceTypes := #[]
  staticTypes := #[]
  resolved := Array.replicate 8 none
  statics := none }

def pool5 : Array CpInfo := pool [(1, u "java/io/Serializable"), (0, .class_ 1), (0, u "java/lang/Object"), (0, .class_ 3)] 3

/-- java/io/Serializable -/
def k5 : Class := { plain "java/io/Serializable" (some 0) with
  accessFlags := 1537
  interfaces := #[]
  cf := some (fileOf pool5 2 #[] #[] 1537 4 #[] #[])
  fields := #[]
  methods := #[]
  instanceTypes := #[]
  staticTypes := #[]
  resolved := Array.replicate 8 none
  statics := none }

/-- the primitive byte -/
def k6 : Class := { plain "byte" none with kind := .primitive 'B', accessFlags := 0x411 }
/-- [B -/
def k7 : Class := { plain "[B" (some 0) with kind := .array 6 .byte, interfaces := #[4, 5], accessFlags := 1041 }

/-- the primitive int -/
def k8 : Class := { plain "int" none with kind := .primitive 'I', accessFlags := 0x411 }
/-- [I -/
def k9 : Class := { plain "[I" (some 0) with kind := .array 8 .int, interfaces := #[4, 5], accessFlags := 1041 }

def heap : Heap := #[{ cls := 3, slots := #[.ref 2, .ref 1], vm := .statics 3 },
  { cls := 7, slots := #[.int 49], vm := .none },
  { cls := 7, slots := #[], vm := .none }]
def classes : Array Class := #[k0, k1, k2, k3, k4, k5, k6, k7, k8, k9]
def interned : List (Array UInt16 × Addr) := []
def slotsUsed : Nat := 3
def theMethod : MethodId := ⟨1, 1⟩
def args0 : Array Value := #[.long 5, .int 1]
def aboutOver (below : List Frame) : State where
  vm := { classes := classes, interned := interned.toArray }
  heap := heap
  slotsUsed := slotsUsed
  threads := #[{ frames := .invoking theMethod args0 :: below }]
def below0 : List Frame := [.native { method := ⟨0, 0⟩, args := #[] }]
def about1 : State := aboutOver below0
def p0 : Program := .bare "" "" ""
def e0 : Env := launch0.env 0 0 0
theorem w_frames : about1.frames = Frame.invoking theMethod args0 :: below0 := rfl
set_option maxRecDepth 65536 in
theorem w_args : argsFit about1.vm theMethod args0 = true := by decide +kernel
set_option maxRecDepth 65536 in
theorem w_heap : heapFits about1 = true := by decide +kernel
set_option maxRecDepth 65536 in
theorem w_runnable : about1.curStatus? = some .runnable := by decide +kernel
set_option maxRecDepth 65536 in
theorem w_alone : about1.alone = true := by decide +kernel
set_option maxRecDepth 65536 in
theorem w_named : about1.methodNamed? x = some theMethod := by decide +kernel
set_option maxRecDepth 65536 in
theorem w_hears : about1.hears theMethod below0 = true := by decide +kernel
set_option maxRecDepth 65536 in
theorem w_ripe : about1.ripe theMethod args0 below0 = true := by decide +kernel
theorem w_running : about1.status = .running := rfl
set_option maxRecDepth 65536 in
theorem w_room : about1.hasRoom e0.platform room_1 = true :=
  launch0.hasRoom_least _ room_1 (by decide +kernel) (by decide +kernel) (by decide +kernel) (by decide +kernel) (by decide +kernel) (by decide +kernel)
theorem allAtoms_all (ts : List Jvm.Cond) (a : Array Jvm.Value) (st : Jvm.State) : (allAtoms ts).before a st = ts.all (fun c => c.before a st) := by
  induction ts with
  | nil => rfl
  | cons c t ih =>
    show (Jvm.Cond.and c (allAtoms t)).before a st = _
    rw [Jvm.Cond.before_and, ih, List.all_cons]
def words1 : List Jvm.Cond := Jvm.Cond.code x code maxLocals ret :: tables_1
/-- a 'code' word, met by the world's own term for the bytes: nothing is compared byte by byte -/
theorem code_word {y : MethodName} {bytes : ByteArray} {mx : Nat} {rt : Option FieldType} {a : Array Value} {s : State} {m : MethodId} {meth : Method} {c : Code} (h1 : s.methodNamed? y = some m) (h2 : s.vm.method? m = some meth) (h3 : meth.code = some c) (h4 : c.code = bytes)
    (h5 : (c.maxLocals == mx && c.exceptionTable.isEmpty && decide (c.maxStack ≤ mostOperands) && decide (meth.sig.returnType = rt) && !meth.locks && decide (parseMethodDescriptor y.desc = some meth.sig)) = true) : (Jvm.Cond.code y bytes mx rt).before a s = true := by
  simp only [Bool.and_eq_true, beq_iff_eq, Bool.not_eq_true', decide_eq_true_eq] at h5
  obtain ⟨⟨⟨⟨⟨g1, g2⟩, g3⟩, g4⟩, g5⟩, g6⟩ := h5
  simp [Cond.before, Cond.holds, Cond.value, h1, h2, h3, h4, g1, g2, g3, g4, g5, g6]
def isCode : Jvm.Cond → Bool
  | .code _ _ _ _ => true
  | _ => false
theorem all_split {L : List Jvm.Cond} {P : Jvm.Cond → Bool} (h1 : L.all (fun c => isCode c || P c) = true) (h2 : ∀ c ∈ L.filter isCode, P c = true) : L.all P = true := by
  refine List.all_eq_true.mpr fun c hc => ?_
  have h := List.all_eq_true.mp h1 c hc
  rcases Bool.eq_false_or_eq_true (isCode c) with hi | hi
  · exact h2 c (List.mem_filter.mpr ⟨hc, hi⟩)
  · simpa [hi] using h
set_option maxRecDepth 65536 in
theorem w_c0 : (Jvm.Cond.code x code maxLocals ret).before args0 about1 = true := code_word (m := ⟨1, 1⟩) (meth := k1m1) (c := k1c1) (by decide +kernel) rfl rfl rfl (by decide +kernel)
set_option maxRecDepth 65536 in
theorem w_c1 : (Jvm.Cond.code ({ cls := "com/example/hotshelf/hotshelf/tier/EpochDebt$Owed", name := "<init>", desc := "(JZ)V" } : Jvm.MethodName) prog_22_method_1_code (4 : Nat) (Option.none : Option Jvm.ClassFile.FieldType)).before args0 about1 = true := code_word (m := ⟨3, 0⟩) (meth := k3m0) (c := k3c0) (by decide +kernel) rfl rfl rfl (by decide +kernel)
set_option maxRecDepth 65536 in
theorem w_c2 : (Jvm.Cond.code ({ cls := "java/lang/Record", name := "<init>", desc := "()V" } : Jvm.MethodName) jdk_30_method_1_code (1 : Nat) (Option.none : Option Jvm.ClassFile.FieldType)).before args0 about1 = true := code_word (m := ⟨2, 0⟩) (meth := k2m0) (c := k2c0) (by decide +kernel) rfl rfl rfl (by decide +kernel)
set_option maxRecDepth 65536 in
theorem w_c3 : (Jvm.Cond.code ({ cls := "java/lang/Object", name := "<init>", desc := "()V" } : Jvm.MethodName) object_method_1_code (1 : Nat) (Option.none : Option Jvm.ClassFile.FieldType)).before args0 about1 = true := code_word (m := ⟨0, 0⟩) (meth := k0m0) (c := k0c0) (by decide +kernel) rfl rfl rfl (by decide +kernel)
set_option maxRecDepth 65536 in
theorem w_c4 : (Jvm.Cond.code ({ cls := "com/example/hotshelf/hotshelf/tier/EpochDebt$Owed", name := "flag", desc := "()[B" } : Jvm.MethodName) prog_22_method_2_code (1 : Nat) (Option.some (Jvm.ClassFile.FieldType.array Jvm.ClassFile.FieldType.byte))).before args0 about1 = true := code_word (m := ⟨3, 1⟩) (meth := k3m1) (c := k3c1) (by decide +kernel) rfl rfl rfl (by decide +kernel)
def codes1 : List Jvm.Cond := [Jvm.Cond.code x code maxLocals ret, Jvm.Cond.code ({ cls := "com/example/hotshelf/hotshelf/tier/EpochDebt$Owed", name := "<init>", desc := "(JZ)V" } : Jvm.MethodName) prog_22_method_1_code (4 : Nat) (Option.none : Option Jvm.ClassFile.FieldType), Jvm.Cond.code ({ cls := "java/lang/Record", name := "<init>", desc := "()V" } : Jvm.MethodName) jdk_30_method_1_code (1 : Nat) (Option.none : Option Jvm.ClassFile.FieldType), Jvm.Cond.code ({ cls := "java/lang/Object", name := "<init>", desc := "()V" } : Jvm.MethodName) object_method_1_code (1 : Nat) (Option.none : Option Jvm.ClassFile.FieldType), Jvm.Cond.code ({ cls := "com/example/hotshelf/hotshelf/tier/EpochDebt$Owed", name := "flag", desc := "()[B" } : Jvm.MethodName) prog_22_method_2_code (1 : Nat) (Option.some (Jvm.ClassFile.FieldType.array Jvm.ClassFile.FieldType.byte))]
set_option maxRecDepth 65536 in
theorem codes_eq : words1.filter isCode = codes1 := rfl
theorem w_codes : ∀ c ∈ words1.filter isCode, c.before args0 about1 = true := by
  rw [codes_eq]
  intro c hc
  simp only [codes1, List.mem_cons, List.not_mem_nil, or_false] at hc
  rcases hc with rfl | rfl | rfl | rfl | rfl
  · exact w_c0
  · exact w_c1
  · exact w_c2
  · exact w_c3
  · exact w_c4
set_option maxRecDepth 65536 in
theorem w_t1 : (words1.take 24).all (fun c => isCode c || c.before args0 about1) = true := by decide +kernel
set_option maxRecDepth 65536 in
theorem w_t2 : (words1.drop 24).all (fun c => isCode c || c.before args0 about1) = true := by decide +kernel
theorem w_tables : (allAtoms (Jvm.Cond.code x code maxLocals ret :: tables_1)).before args0 about1 = true := by
  rw [allAtoms_all]
  show words1.all (fun c => c.before args0 about1) = true
  refine all_split ?_ w_codes
  rw [← List.take_append_drop 24 words1, List.all_append, w_t1, w_t2]
  rfl
set_option maxRecDepth 65536 in
theorem w_case : (Jvm.Cond.and given_1 narrow_1).before args0 about1 = true := by decide +kernel
theorem w_applies : (headSpec (Jvm.Cond.code x code maxLocals ret :: tables_1) room_1).applies x e0.platform about1 = true :=
  (Spec.applies_iff w_frames).mpr ⟨w_running, w_runnable, w_alone, w_named, w_hears, w_ripe, w_room, w_tables⟩
theorem atStart : AtStart classFile x code maxLocals ret World_1 tables_1 room_1 Calls_1 rest_1 Pre_1 launch0 p0 e0 about1 theMethod args0 below0 :=
  ⟨lists_1, trivial, launch0.admits_env _ _ _, launch0.least_env, fairChoices_fair.cas, fairChoices_fair.clock, w_frames, w_args, w_heap, w_applies, trivial, trivial, w_case⟩
end start1
theorem witness_1 : WitnessClaimed_1 := ⟨start1.p0, start1.e0, start1.about1, start1.theMethod, start1.args0, start1.below0, start1.atStart⟩
end Jvm.Pilot.@@N@@
