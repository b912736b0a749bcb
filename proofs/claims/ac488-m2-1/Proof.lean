import JvmDerived
import JvmDerived.Pilot.@@N@@Statement
import JvmDerived.Pilot.@@N@@Code
set_option linter.unusedVariables false
set_option linter.unusedSimpArgs false
namespace Jvm.Pilot.@@N@@
open Jvm Jvm.ClassFile Sem Op Lib Jvm.Free Jvm.Stand Jvm.LawKit Jvm.RoadKit Bundle Jvm.Pilot.@@N@@.Jvm.D
/-! the setting of a body's walk, a point of it, and 'it comes to its end' -/
def oCtx (p : Program) (s : State) (m : MethodId) (meth : Method) (c : Code) (Z : State) (own : String) (cb : ByteArray) (ml : Nat) (nm : String) (rt : Option FieldType) (yy : MethodName) : Prop :=
  p.tables.exec = Jvm.exec ∧ Z.Warmed39 s.vm ∧ c.code = cb ∧ c.maxLocals = ml ∧ s.vm.findClass own = some m.cls ∧ meth.name = nm ∧ meth.sig.returnType = rt ∧ meth.locks = false ∧ s.methodNamed? yy = some m
def oSt (p : Program) (l : Launch) (e : Env) (R : Room) (s : State) (m : MethodId) (args : Array Value) (below : List Frame) (meth : Method) (c : Code) (Z T : State) (h : Heap) (cells slots : Nat) : Prop :=
  ∃ vm0 k0, s.Since vm0 k0 ∧ k0 ≤ h.size ∧ ∃ locs, Stand p l e R (s.setVm vm0) m args below meth c T locs cells slots ∧ T.heap = h ∧ Fr Z.heap.size locs ∧ Ext Z.heap h
def oGoes (p : Program) (e : Env) (below : List Frame) (s Z T : State) (f : JFrame) (Q : Option Value → Heap → Prop) (cl sl : Nat) : Prop :=
  ∃ t o, Steps p.tables e below (T.setTop f) t ∧ t.status = .running ∧ Ended t below o ∧ ∃ v L, o = .returned v ∧ Q v t.heap ∧ Fr Z.heap.size L ∧ Ext Z.heap t.heap ∧ ReturnedEndW s o t L cl sl
/-- a body's contract: called with 'as' at the heap h0 it returns, and Q says what it leaves -/
def oMet (l : Launch) (Z : State) (y : MethodName) (cb : ByteArray) (ml : Nat) (rt : Option FieldType) (rm : Room) (ws : List Jvm.Cond) (as : Array Value) (h0 : Heap) (Q : Option Value → Heap → Prop) : Prop :=
  Ext Z.heap h0 → MetFree l y (head1 (Jvm.Cond.code y cb ml rt :: ws) rm) (fun a U => a = as ∧ Z.Warmed39 U.vm ∧ U.heap = h0) (fun _ _ _ _ _ => True)
    (fun _ U o U' => ∃ v L, o = .returned v ∧ (Q v U'.heap ∧ Fr Z.heap.size L ∧ Ext Z.heap U'.heap) ∧ ReturnedEndW U o U' L rm.cells rm.slots)
section Own
variable {p : Program} {l : Launch} {e : Env} {R : Room} {s : State} {m : MethodId} {args : Array Value} {below : List Frame} {meth : Method} {c : Code} {Z T : State} {h : Heap} {cells slots cl sl : Nat} {own nm : String} {cb : ByteArray} {yy : MethodName} {ml : Nat} {rt : Option FieldType} {Q : Option Value → Heap → Prop} {L L' : Array Slot} {S : List Value} {pc pc' : Nat} {a0 : Array Value}
def vI (z : Int32) : Slot := .val (.int z)
def vR (a : Addr) : Slot := .val (.ref a)
def vN : Slot := .val .null
def uS : Slot := .unset
theorem oLe {b x : Nat} (h : b = x) : x ≤ b := Nat.le_of_eq h.symm
theorem oLz {a b x : Nat} (h1 : a < x) (h2 : x ≤ b) : a ≠ b := Nat.ne_of_lt (Nat.lt_of_lt_of_le h1 h2)
theorem oLn {a b x y : Nat} (h1 : a < x) (h2 : x ≤ y) (h3 : y ≤ b) : a ≠ b := Nat.ne_of_lt (Nat.lt_of_lt_of_le (Nat.lt_of_lt_of_le h1 h2) h3)
theorem oLsz {a b x : Nat} (h1 : a < x) (h2 : x ≤ b) : b ≠ a := Ne.symm (oLz h1 h2)
theorem oLsn {a b x y : Nat} (h1 : a < x) (h2 : x ≤ y) (h3 : y ≤ b) : b ≠ a := Ne.symm (oLn h1 h2 h3)
theorem me0 {α : Type} {a : α} {l : List α} : a ∈ a :: l := List.mem_cons_self
theorem me1 {α : Type} {a0 a1 : α} {l : List α} : a1 ∈ a0 :: a1 :: l := List.mem_cons_of_mem _ me0
theorem me2 {α : Type} {a0 a1 a2 : α} {l : List α} : a2 ∈ a0 :: a1 :: a2 :: l := List.mem_cons_of_mem _ me1
theorem oGoes.go {T' : State} {f f' : JFrame} (g : oGoes p e below s Z T' f' Q cl sl) (st : ∀ t, Steps p.tables e below (T'.setTop f') t → Steps p.tables e below (T.setTop f) t) : oGoes p e below s Z T f Q cl sl := by
  obtain ⟨t, o, h1, r⟩ := g
  exact ⟨t, o, st t h1, r⟩
theorem oWz {vm0 : Vm} {k0 : Nat} (K : oCtx p s m meth c Z own cb ml nm rt yy) (hS : s.Since vm0 k0) : Z.Warmed39 (s.setVm vm0).vm := State.Warmed39.trans K.2.1 hS.1
theorem oWo {vm0 : Vm} {k0 : Nat} (K : oCtx p s m meth c Z own cb ml nm rt yy) (hS : s.Since vm0 k0) : (s.setVm vm0).vm.findClass own = some m.cls := (hS.1.alike.findClass _ _).trans K.2.2.2.2.1
theorem oSt.mono (X : oSt p l e R s m args below meth c Z T h cells slots) {c' n' : Nat} (hc : cells ≤ c') (hn : slots ≤ n') : oSt p l e R s m args below meth c Z T h c' n' := by
  obtain ⟨vm0, k0, hS, hk, locs, X, r⟩ := X
  exact ⟨vm0, k0, hS, hk, locs, ⟨X.admits, X.cas, X.clock, X.frames, X.room, X.hears, X.method, X.code, X.here, X.tail, X.warmed, X.limits, X.bytes, X.same.mono hc hn⟩, r⟩
theorem oSt.ext0 (X : oSt p l e R s m args below meth c Z T h cells slots) : Ext Z.heap h := by obtain ⟨_, _, _, _, _, _, _, _, E⟩ := X; exact E
theorem oExt_wr {h h' : Heap} {a : Addr} {k : Nat} {v : Value} (E : Ext Z.heap h) (W : Wr h h' a k v) (q : Z.heap.size ≤ a) : Ext Z.heap h' :=
  (Old.wr (n0 := Z.heap.size) ⟨rfl, E⟩ W q).2
theorem oExt_trans {h1 h2 h3 : Heap} (E : Ext h1 h2) (E' : Ext h2 h3) : Ext h1 h3 := ⟨Nat.le_trans E.1 E'.1, fun a c q => E'.2 a c (E.2 a c q)⟩
theorem oEnter {y : MethodName} {ws : List Jvm.Cond} {rm : Room} {as : Array Value} {h0 : Heap} (hx : plainFor y = true) (ho : y.cls = own) (hn : y.name = nm) {L : Array Slot} (hf : ∀ m, entryFrame m as ml = mkF m 0 L [])
    (body : ∀ p e s m below meth c T, oCtx p s m meth c Z own cb ml nm rt y → oSt p l e rm s m as below meth c Z T h0 0 0 → oGoes p e below s Z T (mkF m 0 L []) Q rm.cells rm.slots) : oMet l Z y cb ml rt rm ws as h0 Q := by
  intro E
  subst ho hn
  refine MetFree.of_bodySF hx hisR ?_
  intro p e s m args below meth c s₁ Bd hml0 hP hK
  obtain ⟨rfl, hZ, hh⟩ := hP
  have e0 : s₁.heap = h0 := by rw [← hh, Bd.state]; rfl
  obtain ⟨t, o, h1, h2, h3, v, L', h4, h5, h6, h7, h8⟩ := body p e s m below meth c s₁ ⟨Bd.exec, hZ, Bd.bytes, hml0, findClass_of_methodNamed Bd.named, (name_of_methodNamed Bd.named Bd.method).1, Bd.returns, BodyLoose.notSynchronized Bd, Bd.named⟩ ⟨s.vm, 0, State.WarmedH.since (State.WarmedH.refl s) 0, Nat.zero_le _, [], Stand.of_body Bd, e0, Fr.nil _, E⟩
  exact ⟨t, o, castTop (hf m) h1, h2, h3, v, L', h4, ⟨h5, h6, h7⟩, h8⟩
theorem oLeave (X : oSt p l e R s m args below meth c Z T h cells slots) (rv : Option Value) (hv : meth.sig.returnType = none → rv = none) (hlk : meth.locks = false) (hQ : Q rv h) (hc : cells ≤ cl) (hs : slots ≤ sl) {f : JFrame}
    (st : ∀ fs, (∀ (f : JFrame) (acts : List Action), f.method = m → f.locked = none → f.entered = [] → (doReturn e (T.setTop f) acts rv).1 = T.setFrames fs) → Steps p.tables e below (T.setTop f) (T.setFrames fs)) : oGoes p e below s Z T f Q cl sl := by
  obtain ⟨vm0, k0, hS, hk, locs, X, eT, N, E⟩ := X
  obtain ⟨fs, hr, hrun, hended, hW, hsame⟩ := X.leave (v := rv) hv hlk
  have e2 : (T.setFrames fs).heap = h := eT
  refine ⟨_, _, st fs hr, hrun, hended, _, locs, rfl, ?_, N, ?_, ?_⟩
  · rw [e2]; exact hQ
  · rw [e2]; exact E
  · have h2 : s.Since (T.setFrames fs).vm (T.setFrames fs).heap.size := hS.trans (hW.since _) (by rw [e2]; exact hk)
    exact ⟨⟨_, rfl⟩, h2.1, h2.2, (hsame.setVm s.vm).mono hc hs⟩
theorem o_return (K : oCtx p s m meth c Z own cb ml nm rt yy) (X : oSt p l e R s m args below meth c Z T h cells slots) (hd : decode cb pc = .ok (.return_, 1)) (hrt : rt = none) (hQ : Q none h) (hc : cells ≤ cl) (hs : slots ≤ sl) : oGoes p e below s Z T (mkF m pc L []) Q cl sl := by
  refine oLeave X none (fun _ => rfl) K.2.2.2.2.2.2.2.1 hQ hc hs fun fs hr => ?_
  obtain ⟨vm0, k0, hS, hk, locs, X, eT, N, E⟩ := X
  have hZ := oWz K hS
  have hown := oWo K hS
  exact X.returnOut K.1 (K.2.2.2.2.2.2.1.trans hrt) (hb K.2.2.1 hd) hr
theorem o_ireturnN (K : oCtx p s m meth c Z own cb ml nm rt yy) (X : oSt p l e R s m args below meth c Z T h cells slots) (t : FieldType) {z z' : Int32} (hd : decode cb pc = .ok (.ireturn, 1)) (hrt : rt = some t) (ht : t = .boolean ∨ t = .byte ∨ t = .char ∨ t = .short) (hz : nar t z = z') (hQ : Q (some (.int z')) h) (hc : cells ≤ cl) (hs : slots ≤ sl) : oGoes p e below s Z T (mkF m pc L (.int z :: S)) Q cl sl := by
  subst hz
  have hr0 : meth.sig.returnType = some t := K.2.2.2.2.2.2.1.trans hrt
  refine oLeave X (some (.int (nar t z))) (fun q => by rw [hr0] at q; cases q) K.2.2.2.2.2.2.2.1 hQ hc hs fun fs hr => ?_
  obtain ⟨vm0, k0, hS, hk, locs, X, eT, N, E⟩ := X
  have hZ := oWz K hS
  have hown := oWo K hS
  exact retN X K.1 (t := t) hr0 ht (hb K.2.2.1 hd) hr
theorem o_ireturn (K : oCtx p s m meth c Z own cb ml nm rt yy) (X : oSt p l e R s m args below meth c Z T h cells slots) {z : Int32} (hd : decode cb pc = .ok (.ireturn, 1)) (hrt : rt = some .int) (hQ : Q (some (.int z)) h) (hc : cells ≤ cl) (hs : slots ≤ sl) : oGoes p e below s Z T (mkF m pc L (.int z :: S)) Q cl sl := by
  have hr0 : meth.sig.returnType = some .int := K.2.2.2.2.2.2.1.trans hrt
  refine oLeave X (some (.int z)) (fun q => by rw [hr0] at q; cases q) K.2.2.2.2.2.2.2.1 hQ hc hs fun fs hl => ?_
  obtain ⟨vm0, k0, hS, hk, locs, X, eT, N, E⟩ := X
  have hZ := oWz K hS
  have hown := oWo K hS
  have hm' : T.vm.method? m = some meth := X.method'
  have hn : narrow .int (.int z) = .int z := rfl
  have hd' := hb K.2.2.1 hd
  have hx := K.1
  show Steps p.tables e below (T.setTop { method := m, pc := pc, locals := L, stack := _ :: S, locked := none }) _
  jvm_step X.here [X.here.top, hx, hd', hm', hr0, hn]
  first | (intro acts; rw [hl _ acts rfl rfl rfl]) | rw [hl _ _ rfl rfl rfl]
  exact Steps.refl _
theorem o_areturn (K : oCtx p s m meth c Z own cb ml nm rt yy) (X : oSt p l e R s m args below meth c Z T h cells slots) {t : FieldType} {v : Value} (hd : decode cb pc = .ok (.areturn, 1)) (hrt : rt = some t) (ht : t.isReference = true) (hv : v.isRef = true) (hQ : Q (some v) h) (hc : cells ≤ cl) (hs : slots ≤ sl) : oGoes p e below s Z T (mkF m pc L (v :: S)) Q cl sl := by
  have hr0 : meth.sig.returnType = some t := K.2.2.2.2.2.2.1.trans hrt
  refine oLeave X (some v) (fun q => by rw [hr0] at q; cases q) K.2.2.2.2.2.2.2.1 hQ hc hs fun fs hl => ?_
  obtain ⟨vm0, k0, hS, hk, locs, X, eT, N, E⟩ := X
  have hZ := oWz K hS
  have hown := oWo K hS
  have hm' : T.vm.method? m = some meth := X.method'
  have hd' := hb K.2.2.1 hd
  have hx := K.1
  show Steps p.tables e below (T.setTop { method := m, pc := pc, locals := L, stack := _ :: S, locked := none }) _
  jvm_step X.here [X.here.top, hx, hd', hm', hr0, ht, hv]
  first | (intro acts; rw [hl _ acts rfl rfl rfl]) | rw [hl _ _ rfl rfl rfl]
  exact Steps.refl _
theorem o_iload (K : oCtx p s m meth c Z own cb ml nm rt yy) (X : oSt p l e R s m args below meth c Z T h cells slots) {k : Nat} {v : Int32} (hd : decode cb pc = .ok (.iload k, 2)) (hp : pc + 2 = pc') (hl : L[k]? = some (.val (.int v))) (g : oGoes p e below s Z T (mkF m pc' L (.int v :: S)) Q cl sl) : oGoes p e below s Z T (mkF m pc L S) Q cl sl := by
  obtain ⟨vm0, k0, hS, hk, locs, X, eT, N, E⟩ := X
  have hZ := oWz K hS
  have hown := oWo K hS
  subst hp
  exact g.go fun t r => XS.iload X.here K.1 rfl (hb K.2.2.1 hd) hl r
theorem o_iloadN (K : oCtx p s m meth c Z own cb ml nm rt yy) (X : oSt p l e R s m args below meth c Z T h cells slots) {k : Fin 4} {v : Int32} (hd : decode cb pc = .ok (.iload_n k, 1)) (hp : pc + 1 = pc') (hl : L[k.val]? = some (.val (.int v))) (g : oGoes p e below s Z T (mkF m pc' L (.int v :: S)) Q cl sl) : oGoes p e below s Z T (mkF m pc L S) Q cl sl := by
  obtain ⟨vm0, k0, hS, hk, locs, X, eT, N, E⟩ := X
  have hZ := oWz K hS
  have hown := oWo K hS
  subst hp
  exact g.go fun t r => XS.iloadN X.here K.1 rfl (hb K.2.2.1 hd) hl r
theorem o_istore (K : oCtx p s m meth c Z own cb ml nm rt yy) (X : oSt p l e R s m args below meth c Z T h cells slots) {k : Nat} {v : Int32} (hd : decode cb pc = .ok (.istore k, 2)) (hp : pc + 2 = pc') (hl : storeLocals L k (.int v) = some L') (g : oGoes p e below s Z T (mkF m pc' L' S) Q cl sl) : oGoes p e below s Z T (mkF m pc L (.int v :: S)) Q cl sl := by
  obtain ⟨vm0, k0, hS, hk, locs, X, eT, N, E⟩ := X
  have hZ := oWz K hS
  have hown := oWo K hS
  subst hp
  exact g.go fun t r => XS.istore X.here K.1 rfl (hb K.2.2.1 hd) rfl hl r
theorem o_aload (K : oCtx p s m meth c Z own cb ml nm rt yy) (X : oSt p l e R s m args below meth c Z T h cells slots) {k : Nat} {v : Value} (hd : decode cb pc = .ok (.aload k, 2)) (hp : pc + 2 = pc') (hl : L[k]? = some (.val v)) (hv : v.isRef = true) (g : oGoes p e below s Z T (mkF m pc' L (v :: S)) Q cl sl) : oGoes p e below s Z T (mkF m pc L S) Q cl sl := by
  obtain ⟨vm0, k0, hS, hk, locs, X, eT, N, E⟩ := X
  have hZ := oWz K hS
  have hown := oWo K hS
  subst hp
  exact g.go fun t r => XS.aload X.here K.1 rfl (hb K.2.2.1 hd) hl hv r
theorem o_aloadN (K : oCtx p s m meth c Z own cb ml nm rt yy) (X : oSt p l e R s m args below meth c Z T h cells slots) {k : Fin 4} {v : Value} (hd : decode cb pc = .ok (.aload_n k, 1)) (hp : pc + 1 = pc') (hl : L[k.val]? = some (.val v)) (hv : v.isRef = true) (g : oGoes p e below s Z T (mkF m pc' L (v :: S)) Q cl sl) : oGoes p e below s Z T (mkF m pc L S) Q cl sl := by
  obtain ⟨vm0, k0, hS, hk, locs, X, eT, N, E⟩ := X
  have hZ := oWz K hS
  have hown := oWo K hS
  subst hp
  exact g.go fun t r => XS.aloadN X.here K.1 rfl (hb K.2.2.1 hd) hl hv r
theorem o_astore (K : oCtx p s m meth c Z own cb ml nm rt yy) (X : oSt p l e R s m args below meth c Z T h cells slots) {k : Nat} {v : Value} (hd : decode cb pc = .ok (.astore k, 2)) (hp : pc + 2 = pc') (hv : v.isRef = true) (hl : storeLocals L k v = some L') (g : oGoes p e below s Z T (mkF m pc' L' S) Q cl sl) : oGoes p e below s Z T (mkF m pc L (v :: S)) Q cl sl := by
  obtain ⟨vm0, k0, hS, hk, locs, X, eT, N, E⟩ := X
  have hZ := oWz K hS
  have hown := oWo K hS
  subst hp
  exact g.go fun t r => XS.astore X.here K.1 rfl (hb K.2.2.1 hd) rfl hv hl r
theorem o_astoreN (K : oCtx p s m meth c Z own cb ml nm rt yy) (X : oSt p l e R s m args below meth c Z T h cells slots) {k : Fin 4} {v : Value} (hd : decode cb pc = .ok (.astore_n k, 1)) (hp : pc + 1 = pc') (hv : v.isRef = true) (hl : storeLocals L k.val v = some L') (g : oGoes p e below s Z T (mkF m pc' L' S) Q cl sl) : oGoes p e below s Z T (mkF m pc L (v :: S)) Q cl sl := by
  obtain ⟨vm0, k0, hS, hk, locs, X, eT, N, E⟩ := X
  have hZ := oWz K hS
  have hown := oWo K hS
  subst hp
  exact g.go fun t r => XS.astoreN X.here K.1 rfl (hb K.2.2.1 hd) rfl hv hl r
theorem o_iconst (K : oCtx p s m meth c Z own cb ml nm rt yy) (X : oSt p l e R s m args below meth c Z T h cells slots) {i : Int} {z : Int32} (hd : decode cb pc = .ok (.iconst i, 1)) (hp : pc + 1 = pc') (hz : Int32.ofInt i = z) (g : oGoes p e below s Z T (mkF m pc' L (.int z :: S)) Q cl sl) : oGoes p e below s Z T (mkF m pc L S) Q cl sl := by
  obtain ⟨vm0, k0, hS, hk, locs, X, eT, N, E⟩ := X
  have hZ := oWz K hS
  have hown := oWo K hS
  subst hp
  exact g.go fun t r => XS.iconst X.here K.1 rfl (hb K.2.2.1 hd) (hz ▸ r)
theorem o_aconst_null (K : oCtx p s m meth c Z own cb ml nm rt yy) (X : oSt p l e R s m args below meth c Z T h cells slots)  (hd : decode cb pc = .ok (.aconst_null, 1)) (hp : pc + 1 = pc') (g : oGoes p e below s Z T (mkF m pc' L (.null :: S)) Q cl sl) : oGoes p e below s Z T (mkF m pc L S) Q cl sl := by
  obtain ⟨vm0, k0, hS, hk, locs, X, eT, N, E⟩ := X
  have hZ := oWz K hS
  have hown := oWo K hS
  subst hp
  exact g.go fun t r => XS.aconstNull X.here K.1 rfl (hb K.2.2.1 hd) r
theorem o_iadd (K : oCtx p s m meth c Z own cb ml nm rt yy) (X : oSt p l e R s m args below meth c Z T h cells slots) {x y z : Int32} (hd : decode cb pc = .ok (.iadd, 1)) (hp : pc + 1 = pc') (hz : x + y = z) (g : oGoes p e below s Z T (mkF m pc' L (.int z :: S)) Q cl sl) : oGoes p e below s Z T (mkF m pc L (.int y :: .int x :: S)) Q cl sl := by
  obtain ⟨vm0, k0, hS, hk, locs, X, eT, N, E⟩ := X
  have hZ := oWz K hS
  have hown := oWo K hS
  subst hp
  exact g.go fun t r => XS.iadd X.here K.1 rfl (hb K.2.2.1 hd) rfl (hz ▸ r)
theorem o_iand (K : oCtx p s m meth c Z own cb ml nm rt yy) (X : oSt p l e R s m args below meth c Z T h cells slots) {x y z : Int32} (hd : decode cb pc = .ok (.iand, 1)) (hp : pc + 1 = pc') (hz : x &&& y = z) (g : oGoes p e below s Z T (mkF m pc' L (.int z :: S)) Q cl sl) : oGoes p e below s Z T (mkF m pc L (.int y :: .int x :: S)) Q cl sl := by
  obtain ⟨vm0, k0, hS, hk, locs, X, eT, N, E⟩ := X
  have hZ := oWz K hS
  have hown := oWo K hS
  subst hp
  exact g.go fun t r => XS.iand X.here K.1 rfl (hb K.2.2.1 hd) rfl (hz ▸ r)
theorem o_dup (K : oCtx p s m meth c Z own cb ml nm rt yy) (X : oSt p l e R s m args below meth c Z T h cells slots) {v : Value} (hd : decode cb pc = .ok (.dup, 1)) (hp : pc + 1 = pc') (hc : v.category = 1) (g : oGoes p e below s Z T (mkF m pc' L (v :: v :: S)) Q cl sl) : oGoes p e below s Z T (mkF m pc L (v :: S)) Q cl sl := by
  obtain ⟨vm0, k0, hS, hk, locs, X, eT, N, E⟩ := X
  have hZ := oWz K hS
  have hown := oWo K hS
  subst hp
  exact g.go fun t r => XS.dup X.here K.1 rfl (hb K.2.2.1 hd) rfl hc r
theorem o_goto (K : oCtx p s m meth c Z own cb ml nm rt yy) (X : oSt p l e R s m args below meth c Z T h cells slots) {o : Int} (hd : decode cb pc = .ok (.goto o, 3)) (ho : 0 ≤ (pc : Int) + o) (hp : ((pc : Int) + o).toNat = pc') (g : oGoes p e below s Z T (mkF m pc' L S) Q cl sl) : oGoes p e below s Z T (mkF m pc L S) Q cl sl := by
  obtain ⟨vm0, k0, hS, hk, locs, X, eT, N, E⟩ := X
  have hZ := oWz K hS
  have hown := oWo K hS
  exact g.go fun t r => XS.goto X.here K.1 rfl (pc0 := pc) rfl (hb K.2.2.1 hd) ho hp r
theorem o_icmp_eq_t (K : oCtx p s m meth c Z own cb ml nm rt yy) (X : oSt p l e R s m args below meth c Z T h cells slots) {x y : Int32} {o : Int} (hd : decode cb pc = .ok (.if_icmp .eq o, 3)) (ho : 0 ≤ (pc : Int) + o) (hp : ((pc : Int) + o).toNat = pc') (hc : x = y) (g : oGoes p e below s Z T (mkF m pc' L S) Q cl sl) : oGoes p e below s Z T (mkF m pc L (.int y :: .int x :: S)) Q cl sl := by
  obtain ⟨vm0, k0, hS, hk, locs, X, eT, N, E⟩ := X
  have hZ := oWz K hS
  have hown := oWo K hS
  exact g.go fun t r => XS.icmpYes X.here K.1 rfl (pc0 := pc) rfl (hb K.2.2.1 hd) rfl (teq hc).1 ho hp r
theorem o_if_eq_t (K : oCtx p s m meth c Z own cb ml nm rt yy) (X : oSt p l e R s m args below meth c Z T h cells slots) {x : Int32} {o : Int} (hd : decode cb pc = .ok (.ifCond .eq o, 3)) (ho : 0 ≤ (pc : Int) + o) (hp : ((pc : Int) + o).toNat = pc') (hc : x = 0) (g : oGoes p e below s Z T (mkF m pc' L S) Q cl sl) : oGoes p e below s Z T (mkF m pc L (.int x :: S)) Q cl sl := by
  obtain ⟨vm0, k0, hS, hk, locs, X, eT, N, E⟩ := X
  have hZ := oWz K hS
  have hown := oWo K hS
  exact g.go fun t r => XS.ifYes X.here K.1 rfl (pc0 := pc) rfl (hb K.2.2.1 hd) rfl ((if0 _ _).trans (teq hc).1) ho hp r
theorem o_if_eq_f (K : oCtx p s m meth c Z own cb ml nm rt yy) (X : oSt p l e R s m args below meth c Z T h cells slots) {x : Int32} {o : Int} (hd : decode cb pc = .ok (.ifCond .eq o, 3)) (hp : pc + 3 = pc') (hc : ¬ x = 0) (g : oGoes p e below s Z T (mkF m pc' L S) Q cl sl) : oGoes p e below s Z T (mkF m pc L (.int x :: S)) Q cl sl := by
  obtain ⟨vm0, k0, hS, hk, locs, X, eT, N, E⟩ := X
  have hZ := oWz K hS
  have hown := oWo K hS
  subst hp
  exact g.go fun t r => XS.ifNo X.here K.1 rfl (hb K.2.2.1 hd) rfl ((if0 _ _).trans (feq hc).1) r
theorem o_icmp_ne_t (K : oCtx p s m meth c Z own cb ml nm rt yy) (X : oSt p l e R s m args below meth c Z T h cells slots) {x y : Int32} {o : Int} (hd : decode cb pc = .ok (.if_icmp .ne o, 3)) (ho : 0 ≤ (pc : Int) + o) (hp : ((pc : Int) + o).toNat = pc') (hc : ¬ x = y) (g : oGoes p e below s Z T (mkF m pc' L S) Q cl sl) : oGoes p e below s Z T (mkF m pc L (.int y :: .int x :: S)) Q cl sl := by
  obtain ⟨vm0, k0, hS, hk, locs, X, eT, N, E⟩ := X
  have hZ := oWz K hS
  have hown := oWo K hS
  exact g.go fun t r => XS.icmpYes X.here K.1 rfl (pc0 := pc) rfl (hb K.2.2.1 hd) rfl (feq hc).2 ho hp r
theorem o_icmp_ne_f (K : oCtx p s m meth c Z own cb ml nm rt yy) (X : oSt p l e R s m args below meth c Z T h cells slots) {x y : Int32} {o : Int} (hd : decode cb pc = .ok (.if_icmp .ne o, 3)) (hp : pc + 3 = pc') (hc : x = y) (g : oGoes p e below s Z T (mkF m pc' L S) Q cl sl) : oGoes p e below s Z T (mkF m pc L (.int y :: .int x :: S)) Q cl sl := by
  obtain ⟨vm0, k0, hS, hk, locs, X, eT, N, E⟩ := X
  have hZ := oWz K hS
  have hown := oWo K hS
  subst hp
  exact g.go fun t r => XS.icmpNo X.here K.1 rfl (hb K.2.2.1 hd) rfl (teq hc).2 r
theorem o_if_ne_f (K : oCtx p s m meth c Z own cb ml nm rt yy) (X : oSt p l e R s m args below meth c Z T h cells slots) {x : Int32} {o : Int} (hd : decode cb pc = .ok (.ifCond .ne o, 3)) (hp : pc + 3 = pc') (hc : x = 0) (g : oGoes p e below s Z T (mkF m pc' L S) Q cl sl) : oGoes p e below s Z T (mkF m pc L (.int x :: S)) Q cl sl := by
  obtain ⟨vm0, k0, hS, hk, locs, X, eT, N, E⟩ := X
  have hZ := oWz K hS
  have hown := oWo K hS
  subst hp
  exact g.go fun t r => XS.ifNo X.here K.1 rfl (hb K.2.2.1 hd) rfl ((if0 _ _).trans (teq hc).2) r
theorem o_ifnull_t (K : oCtx p s m meth c Z own cb ml nm rt yy) (X : oSt p l e R s m args below meth c Z T h cells slots)  {o : Int} (hd : decode cb pc = .ok (.ifnull o, 3)) (ho : 0 ≤ (pc : Int) + o) (hp : ((pc : Int) + o).toNat = pc') (g : oGoes p e below s Z T (mkF m pc' L S) Q cl sl) : oGoes p e below s Z T (mkF m pc L (.null :: S)) Q cl sl := by
  obtain ⟨vm0, k0, hS, hk, locs, X, eT, N, E⟩ := X
  have hZ := oWz K hS
  have hown := oWo K hS
  exact g.go fun t r => XS.ifnullYes X.here K.1 rfl (pc0 := pc) rfl (hb K.2.2.1 hd) rfl ho hp r
theorem o_ifnonnull_t (K : oCtx p s m meth c Z own cb ml nm rt yy) (X : oSt p l e R s m args below meth c Z T h cells slots) {b : Addr} {o : Int} (hd : decode cb pc = .ok (.ifnonnull o, 3)) (ho : 0 ≤ (pc : Int) + o) (hp : ((pc : Int) + o).toNat = pc') (g : oGoes p e below s Z T (mkF m pc' L S) Q cl sl) : oGoes p e below s Z T (mkF m pc L (.ref b :: S)) Q cl sl := by
  obtain ⟨vm0, k0, hS, hk, locs, X, eT, N, E⟩ := X
  have hZ := oWz K hS
  have hown := oWo K hS
  exact g.go fun t r => XS.ifnonnullYes X.here K.1 rfl (pc0 := pc) rfl (hb K.2.2.1 hd) rfl ho hp r
theorem o_ifnonnull_f (K : oCtx p s m meth c Z own cb ml nm rt yy) (X : oSt p l e R s m args below meth c Z T h cells slots)  {o : Int} (hd : decode cb pc = .ok (.ifnonnull o, 3)) (hp : pc + 3 = pc') (g : oGoes p e below s Z T (mkF m pc' L S) Q cl sl) : oGoes p e below s Z T (mkF m pc L (.null :: S)) Q cl sl := by
  obtain ⟨vm0, k0, hS, hk, locs, X, eT, N, E⟩ := X
  have hZ := oWz K hS
  have hown := oWo K hS
  subst hp
  exact g.go fun t r => XS.ifnonnullNo X.here K.1 rfl (hb K.2.2.1 hd) rfl r
theorem o_acmp (K : oCtx p s m meth c Z own cb ml nm rt yy) (X : oSt p l e R s m args below meth c Z T h cells slots) {cd : ACond} {x y : Value} {o : Int} (same : Bool) (hd : decode cb pc = .ok (.if_acmp cd o, 3)) (ho : 0 ≤ (pc : Int) + o) (h1 : x.isRef = true) (h2 : y.isRef = true) (hq : decide (x = y) = same) (hp : pc' = if acV cd same = true then ((pc : Int) + o).toNat else pc + 3) (g : oGoes p e below s Z T (mkF m pc' L S) Q cl sl) : oGoes p e below s Z T (mkF m pc L (y :: x :: S)) Q cl sl := by
  obtain ⟨vm0, k0, hS, hk, locs, X, eT, N, E⟩ := X
  have hZ := oWz K hS
  have hown := oWo K hS
  exact g.go fun t r => Jvm.RoadKit.acmp (g := mkF m pc L (y :: x :: S)) X K.1 rfl h1 h2 (pc0 := pc) rfl (hb K.2.2.1 hd) rfl hq ho hp r
theorem o_getfield (K : oCtx p s m meth c Z own cb ml nm rt yy) (X : oSt p l e R s m args below meth c Z T h cells slots) {R0 O n d host : String} {index : Nat} {a : Addr} {v : Value} (w : (Jvm.Cond.fieldLink own index R0 n d).before a0 Z = true ∨ (Jvm.Cond.fieldLinkNest own index R0 n d host).before a0 Z = true) (via : Via Z R0 O n d) (F : Fld Z h a O n d v) (hd : decode cb pc = .ok (.getfield index, 3)) (hp : pc + 3 = pc')
    (g : ∀ T', oSt p l e R s m args below meth c Z T' h cells slots → oGoes p e below s Z T' (mkF m pc' L (v :: S)) Q cl sl) : oGoes p e below s Z T (mkF m pc L (.ref a :: S)) Q cl sl := by
  obtain ⟨vm0, k0, hS, hk, locs, X, eT, N, E⟩ := X
  have hZ := oWz K hS
  have hown := oWo K hS
  subst hp
  obtain ⟨T', X', e', st⟩ := getF X K.1 hZ hown w via eT F (g := mkF m pc L (.ref a :: S)) rfl rfl (hb K.2.2.1 hd)
  exact (g T' ⟨vm0, k0, hS, hk, locs, X', e', N, E⟩).go st
theorem o_getstatic (K : oCtx p s m meth c Z own cb ml nm rt yy) (X : oSt p l e R s m args below meth c Z T h cells slots) {R0 O n d host : String} {index : Nat} {v : Value} (w : (Jvm.Cond.fieldLink own index R0 n d).before a0 Z = true ∨ (Jvm.Cond.fieldLinkNest own index R0 n d host).before a0 Z = true) (via : Via Z R0 O n d) (F : Sta Z h O n d v) (hd : decode cb pc = .ok (.getstatic index, 3)) (hp : pc + 3 = pc')
    (g : ∀ T', oSt p l e R s m args below meth c Z T' h cells slots → oGoes p e below s Z T' (mkF m pc' L (v :: S)) Q cl sl) : oGoes p e below s Z T (mkF m pc L S) Q cl sl := by
  obtain ⟨vm0, k0, hS, hk, locs, X, eT, N, E⟩ := X
  have hZ := oWz K hS
  have hown := oWo K hS
  subst hp
  obtain ⟨T', X', e', st⟩ := getS2 X K.1 hZ hown w via eT F (g := mkF m pc L S) rfl (hb K.2.2.1 hd)
  exact (g T' ⟨vm0, k0, hS, hk, locs, X', e', N, E⟩).go st
theorem o_putfield (K : oCtx p s m meth c Z own cb ml nm rt yy) (X : oSt p l e R s m args below meth c Z T h cells slots) {R0 O n d host C : String} {index kk : Nat} {ty : FieldType} {a : Addr} {v old : Value} (w : (Jvm.Cond.fieldLink own index R0 n d).before a0 Z = true ∨ (Jvm.Cond.fieldLinkNest own index R0 n d host).before a0 Z = true) (via : Via Z R0 O n d) (F : Fld Z h a O n d old) (Ex : Exa Z h a C) (Lz : (Jvm.Cond.lays C O n d).before a0 Z = true ∨ ((Jvm.Cond.laysFinal C O n d).before a0 Z = true ∧ own = O ∧ nm = "<init>")) (wi : (Jvm.Cond.instantiable C kk).before a0 Z = true) (hty : parseFieldDescriptor d = some ty) (hn : narrow ty v = v) (hf : fits ty v = true) (hza : Z.heap.size ≤ a) (hd : decode cb pc = .ok (.putfield index, 3)) (hp : pc + 3 = pc')
    (g : ∀ T' h', oSt p l e R s m args below meth c Z T' h' cells slots → Wr h h' a (Jvm.RoadKit.slotOf Z O n d) v → oGoes p e below s Z T' (mkF m pc' L S) Q cl sl) : oGoes p e below s Z T (mkF m pc L (v :: .ref a :: S)) Q cl sl := by
  obtain ⟨vm0, k0, hS, hk, locs, X, eT, N, E⟩ := X
  have hZ := oWz K hS
  have hown := oWo K hS
  subst hp
  obtain ⟨T', h', X', e', W, st⟩ := putF X K.1 hZ hown w via eT F Ex (Lz.imp id fun q => ⟨q.1, q.2.1, K.2.2.2.2.2.1.trans q.2.2⟩) wi hty hn hf (g := mkF m pc L (v :: .ref a :: S)) rfl rfl (hb K.2.2.1 hd)
  exact (g T' h' ⟨vm0, k0, hS, Nat.le_trans hk (Keep.of_wr W).1, _, X', e', Fr.snoc X' N hza, oExt_wr E W hza⟩ W).go st
theorem o_putfieldN (K : oCtx p s m meth c Z own cb ml nm rt yy) (X : oSt p l e R s m args below meth c Z T h cells slots) {R0 O n d C : String} {index kk : Nat} {ty : FieldType} {a : Addr} {v v' old : Value} (w : (Jvm.Cond.fieldLink own index R0 n d).before a0 Z = true) (via : Via Z R0 O n d) (F : Fld Z h a O n d old) (Ex : Exa Z h a C) (Lz : (Jvm.Cond.lays C O n d).before a0 Z = true ∨ ((Jvm.Cond.laysFinal C O n d).before a0 Z = true ∧ own = O ∧ nm = "<init>")) (wi : (Jvm.Cond.instantiable C kk).before a0 Z = true) (hty : parseFieldDescriptor d = some ty) (hn : narrow ty v = v') (hf : fits ty v' = true) (hza : Z.heap.size ≤ a) (hd : decode cb pc = .ok (.putfield index, 3)) (hp : pc + 3 = pc')
    (g : ∀ T' h', oSt p l e R s m args below meth c Z T' h' cells slots → Wr h h' a (Jvm.RoadKit.slotOf Z O n d) v' → oGoes p e below s Z T' (mkF m pc' L S) Q cl sl) : oGoes p e below s Z T (mkF m pc L (v :: .ref a :: S)) Q cl sl := by
  obtain ⟨vm0, k0, hS, hk, locs, X, eT, N, E⟩ := X
  have hZ := oWz K hS
  have hown := oWo K hS
  subst hp
  obtain ⟨T', h', X', e', W, st⟩ := putFN X K.1 hZ hown w via eT F Ex (Lz.imp id fun q => ⟨q.1, q.2.1, K.2.2.2.2.2.1.trans q.2.2⟩) wi hty hn hf (g := mkF m pc L (v :: .ref a :: S)) rfl rfl (hb K.2.2.1 hd)
  exact (g T' h' ⟨vm0, k0, hS, Nat.le_trans hk (Keep.of_wr W).1, _, X', e', Fr.snoc X' N hza, oExt_wr E W hza⟩ W).go st
theorem o_new (K : oCtx p s m meth c Z own cb ml nm rt yy) (X : oSt p l e R s m args below meth c Z T h cells slots) {C : String} {index n : Nat} (w : (Jvm.Cond.classLink own index C).before a0 Z = true) (wi : (Jvm.Cond.instantiable C n).before a0 Z = true) (wz : (Jvm.Cond.initialized C).before a0 Z = true) (hd : decode cb pc = .ok (.new index, 3)) (hp : pc + 3 = pc') (hc : cells + 1 ≤ R.cells) (hl : slots + n ≤ R.slots)
    (g : ∀ T' h' b, oSt p l e R s m args below meth c Z T' h' (cells + 1) (slots + n) → b = h.size → Ext h h' → Exa Z h' b C → (∀ {O nm d : String} {ty : FieldType}, Laid Z a0 C O nm d → parseFieldDescriptor d = some ty → Fld Z h' b O nm d (defaultValue ty)) → Z.heap.size ≤ b → oGoes p e below s Z T' (mkF m pc' L (.ref b :: S)) Q cl sl) : oGoes p e below s Z T (mkF m pc L S) Q cl sl := by
  obtain ⟨vm0, k0, hS, hk, locs, X, eT, N, E⟩ := X
  have hZ := oWz K hS
  have hown := oWo K hS
  subst hp
  obtain ⟨T', h', X', e', E', A, D, -, st⟩ := newO X K.1 hZ hown w wi wz eT (g := mkF m pc L S) rfl (hb K.2.2.1 hd) hc hl
  exact (g T' h' h.size ⟨vm0, k0, hS, Nat.le_trans hk E'.1, _, X', e', N, oExt_trans E E'⟩ rfl E' A D E.1).go st
theorem o_initObj (K : oCtx p s m meth c Z own cb ml nm rt yy) (X : oSt p l e R s m args below meth c Z T h cells slots) {index : Nat} {a : Addr} (w1 : (Jvm.Cond.methodLink own index Lib.objectInit).before a0 Z = true) (w2 : (Jvm.Cond.instanceMethod Lib.objectInit).before a0 Z = true) (w3 : (Jvm.Cond.code Lib.objectInit ⟨#[0xb1]⟩ 1 none).before a0 Z = true) (hd : decode cb pc = .ok (.invokespecial index, 3)) (hp : pc + 3 = pc') (hsz : L.size = ml) (hf : 1 ≤ R.frames) {W : Nat} (hW : (S.map fun v => v.category).sum = W) (hl : W + 12 ≤ R.locals)
    (g : ∀ T', oSt p l e R s m args below meth c Z T' h cells slots → oGoes p e below s Z T' (mkF m pc' L S) Q cl sl) : oGoes p e below s Z T (mkF m pc L (.ref a :: S)) Q cl sl := by
  obtain ⟨vm0, k0, hS, hk, locs, X, eT, N, E⟩ := X
  have hZ := oWz K hS
  have hown := oWo K hS
  subst hp
  obtain ⟨T', X', e', st⟩ := initO X K.1 hZ hown w1 w2 w3 eT (g := mkF m pc L (.ref a :: S)) rfl (by show L.size = _; rw [K.2.2.2.1]; exact hsz) rfl (hb K.2.2.1 hd) hf (W := W) (by show 2 * 0 + _ ≤ _; omega) hl
  exact (g T' ⟨vm0, k0, hS, hk, _, X', e', N, E⟩).go st
theorem o_static (K : oCtx p s m meth c Z own cb ml nm rt yy) (X : oSt p l e R s m args below meth c Z T h cells slots) {index : Nat} {y : MethodName} {bs : ByteArray} {mx : Nat} {rc : Option FieldType} {rm : Room} {as : Array Value} {Qc : Option Value → Heap → Prop} (w1 : (Jvm.Cond.methodLink own index y).before a0 Z = true) (w2 : (Jvm.Cond.static y).before a0 Z = true) (wz : (Jvm.Cond.initialized y.cls).before a0 Z = true) (wc : (Jvm.Cond.code y bs mx rc).before a0 Z = true) (hy : y.cls ≠ "java/lang/invoke/MethodHandle" ∧ y.cls ≠ "java/lang/invoke/VarHandle")
    (hM : oMet l Z y bs mx rc rm [] as h Qc) (hf : rm.frames + 1 ≤ R.frames) (hsz : L.size = ml) {argsL : List Value} (has : argsL.toArray = as) (hlen : ∀ sig, parseMethodDescriptor y.desc = some sig → argsL.length = sig.parameters.length) {W : Nat} (hW : (S.map fun v => v.category).sum = W) (hl : W + (mx + 11) + rm.locals ≤ R.locals) (hc : cells + rm.cells ≤ R.cells) (hs : slots + rm.slots ≤ R.slots) (hd : decode cb pc = .ok (.invokestatic index, 3)) (hp : pc + 3 = pc') (g : ∀ v T' h', oSt p l e R s m args below meth c Z T' h' (cells + rm.cells) (slots + rm.slots) → Qc v h' → oGoes p e below s Z T' (mkF m pc' L (v.toList ++ S)) Q cl sl) : oGoes p e below s Z T (mkF m pc L (argsL.reverse ++ S)) Q cl sl := by
  obtain ⟨vm0, k0, hS, hk, locs, X, eT, N, E⟩ := X
  have hZ := oWz K hS
  have hown := oWo K hS
  subst hp
  obtain ⟨v, _, ⟨T', L1, k1, n1⟩, -, X', hS2, hg2, ⟨Lc, hQ, l1, y1, z1⟩, st⟩ := callSS X K.1 (y := y) hown (mvT hZ w1) (mvT hZ w2) (mvT hZ wz) (mvT hZ wc) hy (backOfS (W := W) (Q := fun v h L => Qc v h ∧ Fr Z.heap.size L ∧ Ext Z.heap h) (hM E) hZ wc wz hf hl) (g := mkF m pc L (argsL.reverse ++ S)) rfl (by show L.size = _; rw [K.2.2.2.1]; exact hsz) (argsL := argsL) (rest := S) hlen rfl (by show 2 * 0 + _ ≤ _; omega) (hb K.2.2.1 hd) (fun _ _ => ⟨has, eT, hc, hs⟩)
  dsimp only [Pt.U, Pt.locs, Pt.cells, Pt.slots] at X' hS2 hg2 l1 y1 z1 st hQ
  subst l1 y1 z1
  exact (g v T' _ ⟨T'.vm, T'.heap.size, hS.trans hS2 (Nat.le_trans hk (by rw [← eT]; exact hg2)), Nat.le_refl _, _, X', rfl, Fr.app N hQ.2.1, hQ.2.2⟩ hQ.1).go fun t r => st.trans r
theorem o_special (K : oCtx p s m meth c Z own cb ml nm rt yy) (X : oSt p l e R s m args below meth c Z T h cells slots) {index : Nat} {y : MethodName} {a : Addr} {bs : ByteArray} {mx : Nat} {rm : Room} {as : Array Value} {Qc : Option Value → Heap → Prop} (hy1 : y.name = "<init>") (w1 : (Jvm.Cond.methodLink own index y).before a0 Z = true) (w2 : (Jvm.Cond.instanceMethod y).before a0 Z = true) (wz : (Jvm.Cond.initialized y.cls).before a0 Z = true) (wc : (Jvm.Cond.code y bs mx none).before a0 Z = true) (hy : y.cls ≠ "java/lang/invoke/MethodHandle" ∧ y.cls ≠ "java/lang/invoke/VarHandle")
    (hM : oMet l Z y bs mx none rm [] as h Qc) (hf : rm.frames + 1 ≤ R.frames) (hsz : L.size = ml) {argsL : List Value} (has : (Value.ref a :: argsL).toArray = as) (hlen : ∀ sig, parseMethodDescriptor y.desc = some sig → argsL.length = sig.parameters.length) {W : Nat} (hW : (S.map fun v => v.category).sum = W) (hl : W + (mx + 11) + rm.locals ≤ R.locals) (hc : cells + rm.cells ≤ R.cells) (hs : slots + rm.slots ≤ R.slots) (hd : decode cb pc = .ok (.invokespecial index, 3)) (hp : pc + 3 = pc') (g : ∀ v T' h', oSt p l e R s m args below meth c Z T' h' (cells + rm.cells) (slots + rm.slots) → Qc v h' → oGoes p e below s Z T' (mkF m pc' L (v.toList ++ S)) Q cl sl) : oGoes p e below s Z T (mkF m pc L (argsL.reverse ++ .ref a :: S)) Q cl sl := by
  obtain ⟨vm0, k0, hS, hk, locs, X, eT, N, E⟩ := X
  have hZ := oWz K hS
  have hown := oWo K hS
  subst hp
  obtain ⟨v, _, ⟨T', L1, k1, n1⟩, -, X', hS2, hg2, ⟨Lc, hQ, l1, y1, z1⟩, st⟩ := X.specialBackS K.1 (y := y) hy1 hown (mvT hZ w1) (mvT hZ w2) (mvT hZ wc) hy (backOfS (W := W) (Q := fun v h L => Qc v h ∧ Fr Z.heap.size L ∧ Ext Z.heap h) (hM E) hZ wc wz hf hl) (g := mkF m pc L (argsL.reverse ++ .ref a :: S)) rfl (by show L.size = _; rw [K.2.2.2.1]; exact hsz) (Steps.refl _) (a := a) (argsL := argsL) (rest := S) hlen rfl (by show 2 * 0 + _ ≤ _; omega) (hb K.2.2.1 hd) (fun _ _ => ⟨has, eT, hc, hs⟩)
  dsimp only [Pt.U, Pt.locs, Pt.cells, Pt.slots] at X' hS2 hg2 l1 y1 z1 st hQ
  subst l1 y1 z1
  exact (g v T' _ ⟨T'.vm, T'.heap.size, hS.trans hS2 (Nat.le_trans hk (by rw [← eT]; exact hg2)), Nat.le_refl _, _, X', rfl, Fr.app N hQ.2.1, hQ.2.2⟩ hQ.1).go fun t r => st.trans r
theorem o_virtual (K : oCtx p s m meth c Z own cb ml nm rt yy) (X : oSt p l e R s m args below meth c Z T h cells slots) {index : Nat} {y z : MethodName} {C : String} {a : Addr} {bs : ByteArray} {mx : Nat} {rc : Option FieldType} {rm : Room} {as : Array Value} {Qc : Option Value → Heap → Prop} (w1 : (Jvm.Cond.methodLink own index y).before a0 Z = true) (w2 : (Jvm.Cond.declares y).before a0 Z = true) (hnf : ∀ s' : State, Z.Warmed39 s'.vm → NotFace s' y) (w3 : (Jvm.Cond.selects C y z).before a0 Z = true) (w4 : (Jvm.Cond.instanceMethod z).before a0 Z = true) (wz : (Jvm.Cond.initialized z.cls).before a0 Z = true) (wc : (Jvm.Cond.code z bs mx rc).before a0 Z = true) (hy : y.cls ≠ "java/lang/invoke/MethodHandle" ∧ y.cls ≠ "java/lang/invoke/VarHandle") (Ex : Exa Z h a C)
    (hM : oMet l Z z bs mx rc rm [] as h Qc) (hf : rm.frames + 1 ≤ R.frames) (hsz : L.size = ml) {argsL : List Value} (has : (Value.ref a :: argsL).toArray = as) (hlen : ∀ sig, parseMethodDescriptor y.desc = some sig → argsL.length = sig.parameters.length) {W : Nat} (hW : (S.map fun v => v.category).sum = W) (hl : W + (mx + 11) + rm.locals ≤ R.locals) (hc : cells + rm.cells ≤ R.cells) (hs : slots + rm.slots ≤ R.slots) (hd : decode cb pc = .ok (.invokevirtual index, 3)) (hp : pc + 3 = pc') (g : ∀ v T' h', oSt p l e R s m args below meth c Z T' h' (cells + rm.cells) (slots + rm.slots) → Qc v h' → oGoes p e below s Z T' (mkF m pc' L (v.toList ++ S)) Q cl sl) : oGoes p e below s Z T (mkF m pc L (argsL.reverse ++ .ref a :: S)) Q cl sl := by
  obtain ⟨vm0, k0, hS, hk, locs, X, eT, N, E⟩ := X
  have hZ := oWz K hS
  have hown := oWo K hS
  subst hp
  obtain ⟨cq, kq, qa, qb, qc⟩ := isOf hZ eT Ex
  obtain ⟨v, _, ⟨T', L1, k1, n1⟩, -, X', hS2, hg2, ⟨Lc, hQ, l1, y1, z1⟩, st⟩ := X.virtualBackS K.1 (y := y) (z := z) hown (mvT hZ w1) (mvT hZ w2) (hnf _ hZ) (mvT hZ w3) (mvT hZ w4) hy (backOfS (W := W) (Q := fun v h L => Qc v h ∧ Fr Z.heap.size L ∧ Ext Z.heap h) (hM E) hZ wc wz hf hl) qa qc (g := mkF m pc L (argsL.reverse ++ .ref a :: S)) rfl (by show L.size = _; rw [K.2.2.2.1]; exact hsz) (Steps.refl _) (argsL := argsL) (rest := S) hlen rfl (by show 2 * 0 + _ ≤ _; omega) (hb K.2.2.1 hd) (fun _ _ => ⟨has, eT, hc, hs⟩)
  dsimp only [Pt.U, Pt.locs, Pt.cells, Pt.slots] at X' hS2 hg2 l1 y1 z1 st hQ
  subst l1 y1 z1
  exact (g v T' _ ⟨T'.vm, T'.heap.size, hS.trans hS2 (Nat.le_trans hk (by rw [← eT]; exact hg2)), Nat.le_refl _, _, X', rfl, Fr.app N hQ.2.1, hQ.2.2⟩ hQ.1).go fun t r => st.trans r
theorem o_interface (K : oCtx p s m meth c Z own cb ml nm rt yy) (X : oSt p l e R s m args below meth c Z T h cells slots) {index cnt : Nat} {y z : MethodName} {C : String} {a : Addr} {bs : ByteArray} {mx : Nat} {rc : Option FieldType} {rm : Room} {as : Array Value} {Qc : Option Value → Heap → Prop} (w1 : (Jvm.Cond.methodLink own index y).before a0 Z = true) (w2 : (Jvm.Cond.declares y).before a0 Z = true) (w2' : (Jvm.Cond.interfaceMethod y.cls y.cls y.name y.desc).before a0 Z = true) (hfa : ((Jvm.Cond.interfaceMethod y.cls y.cls y.name y.desc).onTables && (Jvm.Cond.interfaceMethod y.cls y.cls y.name y.desc).keepsFace) = true) (w3 : (Jvm.Cond.selects C y z).before a0 Z = true) (w4 : (Jvm.Cond.instanceMethod z).before a0 Z = true) (w5 : (Jvm.Cond.publicMethod z).before a0 Z = true) (w6 : (Jvm.Cond.unhidden C y.name y.desc).before a0 Z = true) (w7 : (Jvm.Cond.castable C y.cls).before a0 Z = true) (wz : (Jvm.Cond.initialized z.cls).before a0 Z = true) (wc : (Jvm.Cond.code z bs mx rc).before a0 Z = true) (hy : y.cls ≠ "java/lang/invoke/MethodHandle" ∧ y.cls ≠ "java/lang/invoke/VarHandle") (Ex : Exa Z h a C)
    (hM : oMet l Z z bs mx rc rm [] as h Qc) (hf : rm.frames + 1 ≤ R.frames) (hsz : L.size = ml) {argsL : List Value} (has : (Value.ref a :: argsL).toArray = as) (hlen : ∀ sig, parseMethodDescriptor y.desc = some sig → argsL.length = sig.parameters.length) {W : Nat} (hW : (S.map fun v => v.category).sum = W) (hl : W + (mx + 11) + rm.locals ≤ R.locals) (hc : cells + rm.cells ≤ R.cells) (hs : slots + rm.slots ≤ R.slots) (hd : decode cb pc = .ok (.invokeinterface index cnt, 5)) (hp : pc + 5 = pc') (g : ∀ v T' h', oSt p l e R s m args below meth c Z T' h' (cells + rm.cells) (slots + rm.slots) → Qc v h' → oGoes p e below s Z T' (mkF m pc' L (v.toList ++ S)) Q cl sl) : oGoes p e below s Z T (mkF m pc L (argsL.reverse ++ .ref a :: S)) Q cl sl := by
  obtain ⟨vm0, k0, hS, hk, locs, X, eT, N, E⟩ := X
  have hZ := oWz K hS
  have hown := oWo K hS
  subst hp
  obtain ⟨cq, kq, qa, qb, qc⟩ := isOf hZ eT Ex
  obtain ⟨v, _, ⟨T', L1, k1, n1⟩, -, X', hS2, hg2, ⟨Lc, hQ, l1, y1, z1⟩, st⟩ := X.interfaceBackS K.1 (xi := y) (y := z) hown (mvT hZ w1) (mvT hZ w2) (mvT hZ w2' (hd := hfa)) (mvT hZ w3) (mvT hZ w4) (mvT hZ w5) (mvT hZ w6) (mvT hZ w7) hy (backOfS (W := W) (Q := fun v h L => Qc v h ∧ Fr Z.heap.size L ∧ Ext Z.heap h) (hM E) hZ wc wz hf hl) qa qb qc (g := mkF m pc L (argsL.reverse ++ .ref a :: S)) rfl (by show L.size = _; rw [K.2.2.2.1]; exact hsz) (Steps.refl _) (argsL := argsL) (rest := S) hlen rfl (by show 2 * 0 + _ ≤ _; omega) (hb K.2.2.1 hd) (fun _ _ => ⟨has, eT, hc, hs⟩)
  dsimp only [Pt.U, Pt.locs, Pt.cells, Pt.slots] at X' hS2 hg2 l1 y1 z1 st hQ
  subst l1 y1 z1
  exact (g v T' _ ⟨T'.vm, T'.heap.size, hS.trans hS2 (Nat.le_trans hk (by rw [← eT]; exact hg2)), Nat.le_refl _, _, X', rfl, Fr.app N hQ.2.1, hQ.2.2⟩ hQ.1).go fun t r => st.trans r
theorem o_checkcast (K : oCtx p s m meth c Z own cb ml nm rt yy) (X : oSt p l e R s m args below meth c Z T h cells slots) {index : Nat} {C : String} {a : Addr} (w : (Jvm.Cond.classLink own index C).before a0 Z = true) (F : Ins Z h a C true) (hd : decode cb pc = .ok (.checkcast index, 3)) (hp : pc + 3 = pc') (g : ∀ T', oSt p l e R s m args below meth c Z T' h cells slots → oGoes p e below s Z T' (mkF m pc' L (.ref a :: S)) Q cl sl) : oGoes p e below s Z T (mkF m pc L (.ref a :: S)) Q cl sl := by
  obtain ⟨vm0, k0, hS, hk, locs, X, eT, N, E⟩ := X
  have hZ := oWz K hS
  have hown := oWo K hS
  subst hp
  obtain ⟨T', X', e', st⟩ := castY X K.1 hZ hown w eT F (g := mkF m pc L (.ref a :: S)) rfl rfl (hb K.2.2.1 hd)
  exact (g T' ⟨vm0, k0, hS, hk, _, X', e', N, E⟩).go st
def oArr (Z : State) (h : Heap) (a : Addr) (k : ClassId) (ty : FieldType) (vs : List Value) : Prop := ∃ c : Cell, Arr Z h a c ty ∧ c.cls = k ∧ c.slots = vs.toArray ∧ (∀ v ∈ vs, fits ty v = true) ∧ vs.length < 2 ^ 31
theorem oArr.lt {a : Addr} {k : ClassId} {ty : FieldType} {vs : List Value} (F : oArr Z h a k ty vs) : a < h.size := by obtain ⟨c, A, -⟩ := F; exact A.lt
theorem oArr.ext {h' : Heap} {a : Addr} {k : ClassId} {ty : FieldType} {vs : List Value} (F : oArr Z h a k ty vs) (E : Ext h h') : oArr Z h' a k ty vs := by obtain ⟨c, A, r⟩ := F; exact ⟨c, A.ext E, r⟩
theorem oArr.other {h' : Heap} {a b : Addr} {k : ClassId} {ty : FieldType} {vs : List Value} {sl : Nat} {v : Value} (F : oArr Z h b k ty vs) (W : Wr h h' a sl v) (q : b ≠ a) : oArr Z h' b k ty vs := by obtain ⟨c, A, r⟩ := F; exact ⟨c, A.other W q, r⟩
theorem oArr.keep {h' : Heap} {a : Addr} {k : ClassId} {ty : FieldType} {vs : List Value} {ws : List Addr} (F : oArr Z h a k ty vs) (Kp : Keep h h' ws) (q : a ∉ ws) : oArr Z h' a k ty vs := by obtain ⟨c, A, r⟩ := F; exact ⟨c, ⟨Kp.2.1 a c A.1 q, A.2⟩, r⟩
theorem oFitboolean {x x' : Int32} (q : nar .boolean x = x') : fits .boolean (.int x') = true := q ▸ fits_nar_bool x
theorem oFitRef {ty : FieldType} {v : Value} (h1 : ty.isReference = true) (h2 : v.isRef = true) : fits ty v = true := by
  rcases ref_cases h2 with rfl | ⟨a, rfl⟩ <;> cases ty <;> first | rfl | cases h1
theorem oNarRef {ty : FieldType} {v : Value} (h1 : ty.isReference = true) (h2 : v.isRef = true) : narrow ty v = v := by
  rcases ref_cases h2 with rfl | ⟨a, rfl⟩ <;> cases ty <;> rfl
theorem oCat1 {z : Int32} : (Value.int z).category = 1 := rfl
theorem oCat2 {z : Int64} : (Value.long z).category = 2 := rfl
theorem oCat3 {a : Addr} : (Value.ref a).category = 1 := rfl
theorem oCat4 : Value.null.category = 1 := rfl
theorem oCatRef {v : Value} (h2 : v.isRef = true) : v.category = 1 := by
  rcases ref_cases h2 with rfl | ⟨a, rfl⟩ <;> rfl
theorem oStaRef {args : Array Value} {s : State} {C n d : String} {ty : FieldType} (q : (Jvm.Cond.arrayOf (Term.static C n d) ty).value args s none s [] = some true) (hi : (Jvm.Cond.initializedFor C n d).before args s = true ∨ ((Jvm.Cond.initialized C).before args s = true ∧ (Jvm.Cond.laysStatic C n d).before args s = true)) : ∃ a, (Term.static C n d).eval args s none [] s = some (.ref a) ∧ Sta s s.heap C n d (.ref a) := by
  obtain ⟨a, ha⟩ := arr_v q
  exact ⟨a, ha, Sta.start ha hi⟩
theorem oNF {C : String} {y : MethodName} (w : (Jvm.Cond.selects C y y).before a0 Z = true) : ∀ s' : State, Z.Warmed39 s'.vm → NotFace s' y := fun _ q => notFace_of_selects (args := #[]) (mvT q w)
def oMir (Z : State) (C : String) (mr : Addr) : Prop := ∃ (c : ClassId) (k : Class), Z.vm.findClass C = some c ∧ Z.vm.classes[c]? = some k ∧ k.mirror = some mr
theorem o_ldcS (K : oCtx p s m meth c Z own cb ml nm rt yy) (X : oSt p l e R s m args below meth c Z T h cells slots) {index : Nat} {text : String} (n : Nat) (w1 : (Jvm.Cond.stringLink own index text).before a0 Z = true) (wS : ∀ a ∈ Bundle.stringAtoms, a.before a0 Z = true) (hd : decode cb pc = .ok (.ldc index, 2)) (hp : pc + 2 = pc') (hn : 4 * text.toList.length ≤ n) (hbig : n ≤ 536870912) (hc : cells + 2 ≤ R.cells) (hl : slots + (n + 4) ≤ R.slots)
    (g : ∀ T' h' a, oSt p l e R s m args below meth c Z T' h' (cells + 2) (slots + (n + 4)) → Ext h h' → oGoes p e below s Z T' (mkF m pc' L (.ref a :: S)) Q cl sl) : oGoes p e below s Z T (mkF m pc L S) Q cl sl := by
  obtain ⟨vm0, k0, hS, hk, locs, X, eT, N, E⟩ := X
  have hZ := oWz K hS
  have hown := oWo K hS
  subst hp
  obtain ⟨a, T', h', k1, X', e', E', hS', hk', -, -, st⟩ := Jvm.RoadKit.ldcS X K.1 hZ hown w1 wS eT hS hk (g := mkF m pc L S) rfl (hb K.2.2.1 hd) hn hbig hc hl
  exact (g T' h' a ⟨T'.vm, k1, hS', hk', locs, X', e', N, oExt_trans E E'⟩ E').go st
theorem o_ldcF (K : oCtx p s m meth c Z own cb ml nm rt yy) (X : oSt p l e R s m args below meth c Z T h cells slots) {index : Nat} {b : UInt32} (w1 : (Jvm.Cond.constantFloat own index b).before a0 Z = true) (hd : decode cb pc = .ok (.ldc index, 2)) (hp : pc + 2 = pc') (g : oGoes p e below s Z T (mkF m pc' L (.float b :: S)) Q cl sl) : oGoes p e below s Z T (mkF m pc L S) Q cl sl := by
  obtain ⟨vm0, k0, hS, hk, locs, X, eT, N, E⟩ := X
  have hZ := oWz K hS
  have hown := oWo K hS
  subst hp
  exact g.go fun t r => X.ldcFloatC K.1 hown (mvT hZ w1) (g := mkF m pc L S) rfl (hb K.2.2.1 hd) _ r
theorem o_ldcClass (K : oCtx p s m meth c Z own cb ml nm rt yy) (X : oSt p l e R s m args below meth c Z T h cells slots) {index : Nat} {C : String} {mr : Addr} (w1 : (Jvm.Cond.classLink own index C).before a0 Z = true) (M : oMir Z C mr) (hd : decode cb pc = .ok (.ldc index, 2)) (hp : pc + 2 = pc')
    (g : ∀ T', oSt p l e R s m args below meth c Z T' h cells slots → oGoes p e below s Z T' (mkF m pc' L (.ref mr :: S)) Q cl sl) : oGoes p e below s Z T (mkF m pc L S) Q cl sl := by
  obtain ⟨vm0, k0, hS, hk, locs, X, eT, N, E⟩ := X
  have hZ := oWz K hS
  have hown := oWo K hS
  subst hp
  obtain ⟨cc, kc, m1, m2, m3⟩ := M
  obtain ⟨k', q, ek⟩ := hZ.alike.2.2 _ _ m2
  have hev : (Term.mirror C).eval args (s.setVm vm0) none [] (s.setVm vm0) = some (.ref mr) := by
    simp only [Term.eval, Option.bind_eq_bind, Option.bind_eq_some_iff, Option.pure_def, Option.some.injEq]
    exact ⟨cc, by rw [hZ.alike.findClass]; exact m1, k', q, mr, by rw [ek]; exact m3, rfl⟩
  obtain ⟨vm', X', st⟩ := X.ldcMirror K.1 hown (mvT hZ w1) hev (g := mkF m pc L S) rfl (hb K.2.2.1 hd)
  exact (g _ ⟨vm0, k0, hS, hk, _, X', eT, N, E⟩).go st
theorem o_getClassI (K : oCtx p s m meth c Z own cb ml nm rt yy) (X : oSt p l e R s m args below meth c Z T h cells slots) {index count : Nat} {C : String} {xi : MethodName} {a mr : Addr} (w1 : (Jvm.Cond.methodLink own index xi).before a0 Z = true) (w2 : (Jvm.Cond.declares ⟨"java/lang/Object", "getClass", "()Ljava/lang/Class;"⟩).before a0 Z = true) (w3 : (Jvm.Cond.interfaceMethod xi.cls "java/lang/Object" xi.name xi.desc).before a0 Z = true) (w4 : (Jvm.Cond.selects C xi ⟨"java/lang/Object", "getClass", "()Ljava/lang/Class;"⟩).before a0 Z = true) (w5 : (Jvm.Cond.instanceMethod ⟨"java/lang/Object", "getClass", "()Ljava/lang/Class;"⟩).before a0 Z = true) (w6 : (Jvm.Cond.publicMethod ⟨"java/lang/Object", "getClass", "()Ljava/lang/Class;"⟩).before a0 Z = true) (w7 : (Jvm.Cond.unhidden C xi.name xi.desc).before a0 Z = true) (w8 : (Jvm.Cond.castable C xi.cls).before a0 Z = true) (w9 : (Jvm.Cond.native ⟨"java/lang/Object", "getClass", "()Ljava/lang/Class;"⟩).before a0 Z = true) (hx : xi.cls ≠ "java/lang/invoke/MethodHandle" ∧ xi.cls ≠ "java/lang/invoke/VarHandle") (hxo : xi.cls ≠ "java/lang/Object") (hname : xi.name = "getClass") (hdesc : xi.desc = "()Ljava/lang/Class;") (Ex : Exa Z h a C) (M : oMir Z C mr)
    (hd : decode cb pc = .ok (.invokeinterface index count, 5)) (hp : pc + 5 = pc') (hsz : L.size = ml) (hf : 1 ≤ R.frames) {W : Nat} (hW : (S.map fun v => v.category).sum = W) (hlo : W + (nativeFrameWords "java/lang/Object" "getClass" 1 + 11) ≤ R.locals)
    (g : ∀ T', oSt p l e R s m args below meth c Z T' h cells slots → oGoes p e below s Z T' (mkF m pc' L (.ref mr :: S)) Q cl sl) : oGoes p e below s Z T (mkF m pc L (.ref a :: S)) Q cl sl := by
  obtain ⟨vm0, k0, hS, hk, locs, X, eT, N, E⟩ := X
  have hZ := oWz K hS
  have hown := oWo K hS
  subst hp
  obtain ⟨cB, kB, i1, i2, i3⟩ := isOf hZ eT Ex
  obtain ⟨cc, kc, m1, m2, m3⟩ := M
  rw [hZ.alike.findClass] at i1
  cases i1.symm.trans m1
  obtain ⟨k', q, ek⟩ := hZ.alike.2.2 _ _ m2
  obtain ⟨vm', X', st⟩ := X.getClassOfI K.1 (own := own) (C := C) (index := index) (count := count) (xi := xi) hown (mvT hZ w1) (mvT hZ w2) (Jvm.Free.ULB.iface_ridesS hZ.alike w3) (mvT hZ w4) (mvT hZ w5) (mvT hZ w6) (mvT hZ w7) (mvT hZ w8) (mvT hZ w9) hx hxo hname hdesc (by rw [hZ.alike.findClass]; exact m1) q i3 (by rw [ek]; exact m3) (g := mkF m pc L (.ref a :: S)) rfl (by show L.size = _; rw [K.2.2.2.1]; exact hsz) rfl (hb K.2.2.1 hd) hf (by show 2 * 0 + (S.map fun v => v.category).sum + _ ≤ _; rw [hW]; omega)
  exact (g _ ⟨vm0, k0, hS, hk, _, X', eT, N, E⟩).go st
end Own
set_option maxRecDepth 65536
set_option maxHeartbeats 40000000
theorem oT0 {a e : Int32} (q : a = e) : a = (e + (0 : Int32)) := by rw [q, Int32.add_zero]
theorem oT1 {a u e : Int32} (q : (a + u) = e) : (a + (u + (1 : Int32))) = (e + (1 : Int32)) := by rw [← q, Int32.add_assoc]
theorem oT2 {p f u e : Int32} (q : ((p + f) + u) = e) : (((p + (1 : Int32)) + f) + u) = (e + (1 : Int32)) := by
  rw [← q, Int32.add_assoc p 1 f, Int32.add_comm 1 f, ← Int32.add_assoc p f 1, Int32.add_assoc (p + f) 1 u, Int32.add_comm 1 u, ← Int32.add_assoc]
theorem own_exactly {args : Array Value} {s : State} {t : Term} {C : String} {idx : List Nat} (q : (Jvm.Cond.exactly t C).value args s none s idx = some true) : ∃ r, t.eval args s none idx s = some (.ref r) ∧ (Exa s s.heap r C) := by
  have h : (Jvm.Cond.exactly t C).holds args s none s idx = true := by simp [Jvm.Cond.holds, q]
  obtain ⟨r, c, cell, k, e1, e2, e3, e4, e5, e6, e7⟩ := Cond.exactly_spec h
  subst e6
  exact ⟨r, e1, cell, k, e3, e2, e4, e5, e7⟩
abbrev z0 : String := "java/util/LinkedHashMap"
abbrev z1 : String := "com/example/phone_conformance_check/phoneconformancecheck/report/Total"
abbrev z2 : String := "com/example/phone_conformance_check/phoneconformancecheck/report/CheckedCapture"
abbrev z3 : String := "java/util/Collections$UnmodifiableMap"
abbrev z4 : String := "java/util/Optional"
abbrev z5 : String := "com/example/phone_conformance_check/phoneconformancecheck/judging/Report"
abbrev z6 : String := "java/util/LinkedHashMap$LinkedEntrySet"
abbrev z7 : String := "java/util/HashMap"
abbrev z8 : String := "java/util/ArrayList"
abbrev z9 : String := "java/util/LinkedHashMap$LinkedHashIterator"
abbrev z10 : String := "java/util/ArrayList$Itr"
abbrev z11 : String := "Ljava/util/LinkedHashMap$Entry;"
abbrev z12 : String := "java/util/Collections$UnmodifiableMap$UnmodifiableEntrySet"
abbrev z13 : String := "Ljava/util/Set;"
abbrev z14 : String := "Ljava/util/Map;"
abbrev z15 : String := "java/util/Collections$UnmodifiableMap$UnmodifiableEntrySet$1"
abbrev z16 : String := "()Ljava/util/Iterator;"
abbrev z17 : String := "com/example/phone_conformance_check/phoneconformancecheck/report/TotalGetCapturesPinLaw"
abbrev z18 : String := "java/lang/Object"
abbrev z19 : String := "java/util/Collections$UnmodifiableCollection"
abbrev z20 : String := "Lcom/example/phone_conformance_check/phoneconformancecheck/judging/Report;"
abbrev z21 : String := "java/util/Iterator"
abbrev z22 : String := "Ljava/util/LinkedHashMap;"
abbrev z23 : String := "java/util/LinkedHashMap$LinkedEntryIterator"
abbrev z24 : String := "java/util/LinkedHashMap$Entry"
abbrev z25 : String := "Ljava/util/Collection;"
abbrev z26 : String := "java/util/AbstractList"
abbrev z27 : String := "(Ljava/util/LinkedHashMap;Z)V"
abbrev z28 : String := "(Lcom/example/phone_conformance_check/phoneconformancecheck/report/CheckedCapture;)V"
abbrev z29 : String := "(Lcom/example/phone_conformance_check/phoneconformancecheck/report/Total;ILcom/example/phone_conformance_check/phoneconformancecheck/report/CheckedCapture;Lcom/example/phone_conformance_check/phoneconformancecheck/report/CheckedCapture;)I"
abbrev z30 : String := "(Ljava/lang/String;Lcom/example/phone_conformance_check/phoneconformancecheck/judging/Report;Ljava/lang/String;)V"
abbrev z31 : String := "(Ljava/lang/String;Ljava/lang/String;)Lcom/example/phone_conformance_check/phoneconformancecheck/report/CheckedCapture;"
abbrev z32 : String := "(Ljava/util/List;Lcom/example/phone_conformance_check/phoneconformancecheck/capture/Capture;)Lcom/example/phone_conformance_check/phoneconformancecheck/judging/Report;"
abbrev z33 : String := "(Ljava/lang/String;Lcom/example/phone_conformance_check/phoneconformancecheck/judging/Report;)Lcom/example/phone_conformance_check/phoneconformancecheck/report/CheckedCapture;"
def oHw (Z : State) (a0 : Array Value) : Prop := ∀ d ∈ tables_1, d.before a0 Z = true
theorem w0 {Z : State} {a0 : Array Value} (hw : oHw Z a0) : (Jvm.Cond.stringLink z17 (7 : Nat) "-").before a0 Z = true := hw _ (List.mem_of_getElem? (i := 0) rfl)
theorem w1 {Z : State} {a0 : Array Value} (hw : oHw Z a0) : (Jvm.Cond.initialized "java/lang/String").before a0 Z = true := hw _ (List.mem_of_getElem? (i := 1) rfl)
theorem w2 {Z : State} {a0 : Array Value} (hw : oHw Z a0) : (Jvm.Cond.instantiable "java/lang/String" (4 : Nat)).before a0 Z = true := hw _ (List.mem_of_getElem? (i := 2) rfl)
theorem w3 {Z : State} {a0 : Array Value} (hw : oHw Z a0) : (Jvm.Cond.arrayClass Jvm.ClassFile.FieldType.byte).before a0 Z = true := hw _ (List.mem_of_getElem? (i := 3) rfl)
theorem w4 {Z : State} {a0 : Array Value} (hw : oHw Z a0) : (Jvm.Cond.laysFinal "java/lang/String" "java/lang/String" "value" "[B").before a0 Z = true := hw _ (List.mem_of_getElem? (i := 4) rfl)
theorem w5 {Z : State} {a0 : Array Value} (hw : oHw Z a0) : (Jvm.Cond.laysFinal "java/lang/String" "java/lang/String" "coder" "B").before a0 Z = true := hw _ (List.mem_of_getElem? (i := 5) rfl)
theorem w6 {Z : State} {a0 : Array Value} (hw : oHw Z a0) : (Jvm.Cond.soleField "java/lang/String" "value").before a0 Z = true := hw _ (List.mem_of_getElem? (i := 6) rfl)
theorem w7 {Z : State} {a0 : Array Value} (hw : oHw Z a0) : (Jvm.Cond.soleField "java/lang/String" "coder").before a0 Z = true := hw _ (List.mem_of_getElem? (i := 7) rfl)
theorem w8 {Z : State} {a0 : Array Value} (hw : oHw Z a0) : (Jvm.Cond.stringLink z17 (9 : Nat) "no such file").before a0 Z = true := hw _ (List.mem_of_getElem? (i := 8) rfl)
theorem w9 {Z : State} {a0 : Array Value} (hw : oHw Z a0) : (Jvm.Cond.methodLink z17 (11 : Nat) ({ cls := z2, name := "unusable", desc := z31 } : Jvm.MethodName)).before a0 Z = true := hw _ (List.mem_of_getElem? (i := 9) rfl)
theorem w10 {Z : State} {a0 : Array Value} (hw : oHw Z a0) : (Jvm.Cond.static ({ cls := z2, name := "unusable", desc := z31 } : Jvm.MethodName)).before a0 Z = true := hw _ (List.mem_of_getElem? (i := 10) rfl)
theorem w11 {Z : State} {a0 : Array Value} (hw : oHw Z a0) : (Jvm.Cond.initialized z2).before a0 Z = true := hw _ (List.mem_of_getElem? (i := 11) rfl)
theorem w12 {Z : State} {a0 : Array Value} (hw : oHw Z a0) : (Jvm.Cond.code ({ cls := z2, name := "unusable", desc := z31 } : Jvm.MethodName) prog_35_method_3_code (2 : Nat) (Option.some (Jvm.ClassFile.FieldType.object z2))).before a0 Z = true := hw _ (List.mem_of_getElem? (i := 12) rfl)
theorem w13 {Z : State} {a0 : Array Value} (hw : oHw Z a0) : (Jvm.Cond.classLink z2 (8 : Nat) z2).before a0 Z = true := hw _ (List.mem_of_getElem? (i := 13) rfl)
theorem w14 {Z : State} {a0 : Array Value} (hw : oHw Z a0) : (Jvm.Cond.instantiable z2 (3 : Nat)).before a0 Z = true := hw _ (List.mem_of_getElem? (i := 14) rfl)
theorem w15 {Z : State} {a0 : Array Value} (hw : oHw Z a0) : (Jvm.Cond.methodLink z2 (20 : Nat) ({ cls := z2, name := "<init>", desc := z30 } : Jvm.MethodName)).before a0 Z = true := hw _ (List.mem_of_getElem? (i := 15) rfl)
theorem w16 {Z : State} {a0 : Array Value} (hw : oHw Z a0) : (Jvm.Cond.instanceMethod ({ cls := z2, name := "<init>", desc := z30 } : Jvm.MethodName)).before a0 Z = true := hw _ (List.mem_of_getElem? (i := 16) rfl)
theorem w17 {Z : State} {a0 : Array Value} (hw : oHw Z a0) : (Jvm.Cond.code ({ cls := z2, name := "<init>", desc := z30 } : Jvm.MethodName) prog_35_method_1_code (4 : Nat) (Option.none : Option Jvm.ClassFile.FieldType)).before a0 Z = true := hw _ (List.mem_of_getElem? (i := 17) rfl)
theorem w18 {Z : State} {a0 : Array Value} (hw : oHw Z a0) : (Jvm.Cond.methodLink z2 (1 : Nat) ({ cls := z18, name := "<init>", desc := "()V" } : Jvm.MethodName)).before a0 Z = true := hw _ (List.mem_of_getElem? (i := 18) rfl)
theorem w19 {Z : State} {a0 : Array Value} (hw : oHw Z a0) : (Jvm.Cond.instanceMethod ({ cls := z18, name := "<init>", desc := "()V" } : Jvm.MethodName)).before a0 Z = true := hw _ (List.mem_of_getElem? (i := 19) rfl)
theorem w20 {Z : State} {a0 : Array Value} (hw : oHw Z a0) : (Jvm.Cond.code ({ cls := z18, name := "<init>", desc := "()V" } : Jvm.MethodName) object_method_1_code (1 : Nat) (Option.none : Option Jvm.ClassFile.FieldType)).before a0 Z = true := hw _ (List.mem_of_getElem? (i := 20) rfl)
theorem w21 {Z : State} {a0 : Array Value} (hw : oHw Z a0) : (Jvm.Cond.fieldLink z2 (7 : Nat) z2 "name" "Ljava/lang/String;").before a0 Z = true := hw _ (List.mem_of_getElem? (i := 21) rfl)
theorem w22 {Z : State} {a0 : Array Value} (hw : oHw Z a0) : (Jvm.Cond.laysFinal z2 z2 "name" "Ljava/lang/String;").before a0 Z = true := hw _ (List.mem_of_getElem? (i := 22) rfl)
theorem w23 {Z : State} {a0 : Array Value} (hw : oHw Z a0) : (Jvm.Cond.fieldLink z2 (13 : Nat) z2 "report" z20).before a0 Z = true := hw _ (List.mem_of_getElem? (i := 23) rfl)
theorem w24 {Z : State} {a0 : Array Value} (hw : oHw Z a0) : (Jvm.Cond.laysFinal z2 z2 "report" z20).before a0 Z = true := hw _ (List.mem_of_getElem? (i := 24) rfl)
theorem w25 {Z : State} {a0 : Array Value} (hw : oHw Z a0) : (Jvm.Cond.fieldLink z2 (17 : Nat) z2 "reason" "Ljava/lang/String;").before a0 Z = true := hw _ (List.mem_of_getElem? (i := 25) rfl)
theorem w26 {Z : State} {a0 : Array Value} (hw : oHw Z a0) : (Jvm.Cond.laysFinal z2 z2 "reason" "Ljava/lang/String;").before a0 Z = true := hw _ (List.mem_of_getElem? (i := 26) rfl)
theorem w27 {Z : State} {a0 : Array Value} (hw : oHw Z a0) : (Jvm.Cond.classLink z17 (17 : Nat) z8).before a0 Z = true := hw _ (List.mem_of_getElem? (i := 27) rfl)
theorem w28 {Z : State} {a0 : Array Value} (hw : oHw Z a0) : (Jvm.Cond.instantiable z8 (3 : Nat)).before a0 Z = true := hw _ (List.mem_of_getElem? (i := 28) rfl)
theorem w29 {Z : State} {a0 : Array Value} (hw : oHw Z a0) : (Jvm.Cond.initialized z8).before a0 Z = true := hw _ (List.mem_of_getElem? (i := 29) rfl)
theorem w30 {Z : State} {a0 : Array Value} (hw : oHw Z a0) : (Jvm.Cond.methodLink z17 (19 : Nat) ({ cls := z8, name := "<init>", desc := "()V" } : Jvm.MethodName)).before a0 Z = true := hw _ (List.mem_of_getElem? (i := 30) rfl)
theorem w31 {Z : State} {a0 : Array Value} (hw : oHw Z a0) : (Jvm.Cond.instanceMethod ({ cls := z8, name := "<init>", desc := "()V" } : Jvm.MethodName)).before a0 Z = true := hw _ (List.mem_of_getElem? (i := 31) rfl)
theorem w32 {Z : State} {a0 : Array Value} (hw : oHw Z a0) : (Jvm.Cond.code ({ cls := z8, name := "<init>", desc := "()V" } : Jvm.MethodName) jdk_38_method_2_code (1 : Nat) (Option.none : Option Jvm.ClassFile.FieldType)).before a0 Z = true := hw _ (List.mem_of_getElem? (i := 32) rfl)
theorem w33 {Z : State} {a0 : Array Value} (hw : oHw Z a0) : (Jvm.Cond.methodLink z8 (1 : Nat) ({ cls := z26, name := "<init>", desc := "()V" } : Jvm.MethodName)).before a0 Z = true := hw _ (List.mem_of_getElem? (i := 33) rfl)
theorem w34 {Z : State} {a0 : Array Value} (hw : oHw Z a0) : (Jvm.Cond.instanceMethod ({ cls := z26, name := "<init>", desc := "()V" } : Jvm.MethodName)).before a0 Z = true := hw _ (List.mem_of_getElem? (i := 34) rfl)
theorem w37 {Z : State} {a0 : Array Value} (hw : oHw Z a0) : (Jvm.Cond.initialized z26).before a0 Z = true := hw _ (List.mem_of_getElem? (i := 37) rfl)
theorem w38 {Z : State} {a0 : Array Value} (hw : oHw Z a0) : (Jvm.Cond.code ({ cls := z26, name := "<init>", desc := "()V" } : Jvm.MethodName) jdk_39_method_1_code (1 : Nat) (Option.none : Option Jvm.ClassFile.FieldType)).before a0 Z = true := hw _ (List.mem_of_getElem? (i := 38) rfl)
theorem w39 {Z : State} {a0 : Array Value} (hw : oHw Z a0) : (Jvm.Cond.methodLink z26 (1 : Nat) ({ cls := "java/util/AbstractCollection", name := "<init>", desc := "()V" } : Jvm.MethodName)).before a0 Z = true := hw _ (List.mem_of_getElem? (i := 39) rfl)
theorem w40 {Z : State} {a0 : Array Value} (hw : oHw Z a0) : (Jvm.Cond.instanceMethod ({ cls := "java/util/AbstractCollection", name := "<init>", desc := "()V" } : Jvm.MethodName)).before a0 Z = true := hw _ (List.mem_of_getElem? (i := 40) rfl)
theorem w43 {Z : State} {a0 : Array Value} (hw : oHw Z a0) : (Jvm.Cond.initialized "java/util/AbstractCollection").before a0 Z = true := hw _ (List.mem_of_getElem? (i := 43) rfl)
theorem w44 {Z : State} {a0 : Array Value} (hw : oHw Z a0) : (Jvm.Cond.code ({ cls := "java/util/AbstractCollection", name := "<init>", desc := "()V" } : Jvm.MethodName) jdk_22_method_1_code (1 : Nat) (Option.none : Option Jvm.ClassFile.FieldType)).before a0 Z = true := hw _ (List.mem_of_getElem? (i := 44) rfl)
theorem w45 {Z : State} {a0 : Array Value} (hw : oHw Z a0) : (Jvm.Cond.methodLink "java/util/AbstractCollection" (1 : Nat) ({ cls := z18, name := "<init>", desc := "()V" } : Jvm.MethodName)).before a0 Z = true := hw _ (List.mem_of_getElem? (i := 45) rfl)
theorem w46 {Z : State} {a0 : Array Value} (hw : oHw Z a0) : (Jvm.Cond.fieldLink z26 (7 : Nat) z26 "modCount" "I").before a0 Z = true := hw _ (List.mem_of_getElem? (i := 46) rfl)
theorem w47 {Z : State} {a0 : Array Value} (hw : oHw Z a0) : (Jvm.Cond.lays z8 z26 "modCount" "I").before a0 Z = true := hw _ (List.mem_of_getElem? (i := 47) rfl)
theorem w48 {Z : State} {a0 : Array Value} (hw : oHw Z a0) : (Jvm.Cond.fieldLink z8 (39 : Nat) z8 "DEFAULTCAPACITY_EMPTY_ELEMENTDATA" "[Ljava/lang/Object;").before a0 Z = true := hw _ (List.mem_of_getElem? (i := 48) rfl)
theorem w49 {Z : State} {a0 : Array Value} (hw : oHw Z a0) : (Jvm.Cond.fieldLink z8 (9 : Nat) z8 "elementData" "[Ljava/lang/Object;").before a0 Z = true := hw _ (List.mem_of_getElem? (i := 49) rfl)
theorem w50 {Z : State} {a0 : Array Value} (hw : oHw Z a0) : (Jvm.Cond.lays z8 z8 "elementData" "[Ljava/lang/Object;").before a0 Z = true := hw _ (List.mem_of_getElem? (i := 50) rfl)
theorem w51 {Z : State} {a0 : Array Value} (hw : oHw Z a0) : (Jvm.Cond.methodLink z17 (20 : Nat) ({ cls := z5, name := "judge", desc := z32 } : Jvm.MethodName)).before a0 Z = true := hw _ (List.mem_of_getElem? (i := 51) rfl)
theorem w52 {Z : State} {a0 : Array Value} (hw : oHw Z a0) : (Jvm.Cond.static ({ cls := z5, name := "judge", desc := z32 } : Jvm.MethodName)).before a0 Z = true := hw _ (List.mem_of_getElem? (i := 52) rfl)
theorem w53 {Z : State} {a0 : Array Value} (hw : oHw Z a0) : (Jvm.Cond.initialized z5).before a0 Z = true := hw _ (List.mem_of_getElem? (i := 53) rfl)
theorem w54 {Z : State} {a0 : Array Value} (hw : oHw Z a0) : (Jvm.Cond.code ({ cls := z5, name := "judge", desc := z32 } : Jvm.MethodName) prog_32_method_2_code (5 : Nat) (Option.some (Jvm.ClassFile.FieldType.object z5))).before a0 Z = true := hw _ (List.mem_of_getElem? (i := 54) rfl)
theorem w55 {Z : State} {a0 : Array Value} (hw : oHw Z a0) : (Jvm.Cond.classLink z5 (19 : Nat) z0).before a0 Z = true := hw _ (List.mem_of_getElem? (i := 55) rfl)
theorem w56 {Z : State} {a0 : Array Value} (hw : oHw Z a0) : (Jvm.Cond.instantiable z0 (12 : Nat)).before a0 Z = true := hw _ (List.mem_of_getElem? (i := 56) rfl)
theorem w57 {Z : State} {a0 : Array Value} (hw : oHw Z a0) : (Jvm.Cond.initialized z0).before a0 Z = true := hw _ (List.mem_of_getElem? (i := 57) rfl)
theorem w58 {Z : State} {a0 : Array Value} (hw : oHw Z a0) : (Jvm.Cond.methodLink z5 (21 : Nat) ({ cls := z0, name := "<init>", desc := "()V" } : Jvm.MethodName)).before a0 Z = true := hw _ (List.mem_of_getElem? (i := 58) rfl)
theorem w59 {Z : State} {a0 : Array Value} (hw : oHw Z a0) : (Jvm.Cond.instanceMethod ({ cls := z0, name := "<init>", desc := "()V" } : Jvm.MethodName)).before a0 Z = true := hw _ (List.mem_of_getElem? (i := 59) rfl)
theorem w60 {Z : State} {a0 : Array Value} (hw : oHw Z a0) : (Jvm.Cond.code ({ cls := z0, name := "<init>", desc := "()V" } : Jvm.MethodName) jdk_94_method_16_code (1 : Nat) (Option.none : Option Jvm.ClassFile.FieldType)).before a0 Z = true := hw _ (List.mem_of_getElem? (i := 60) rfl)
theorem w61 {Z : State} {a0 : Array Value} (hw : oHw Z a0) : (Jvm.Cond.methodLink z0 (87 : Nat) ({ cls := z7, name := "<init>", desc := "()V" } : Jvm.MethodName)).before a0 Z = true := hw _ (List.mem_of_getElem? (i := 61) rfl)
theorem w62 {Z : State} {a0 : Array Value} (hw : oHw Z a0) : (Jvm.Cond.instanceMethod ({ cls := z7, name := "<init>", desc := "()V" } : Jvm.MethodName)).before a0 Z = true := hw _ (List.mem_of_getElem? (i := 62) rfl)
theorem w65 {Z : State} {a0 : Array Value} (hw : oHw Z a0) : (Jvm.Cond.initialized z7).before a0 Z = true := hw _ (List.mem_of_getElem? (i := 65) rfl)
theorem w66 {Z : State} {a0 : Array Value} (hw : oHw Z a0) : (Jvm.Cond.code ({ cls := z7, name := "<init>", desc := "()V" } : Jvm.MethodName) jdk_69_method_7_code (1 : Nat) (Option.none : Option Jvm.ClassFile.FieldType)).before a0 Z = true := hw _ (List.mem_of_getElem? (i := 66) rfl)
theorem w67 {Z : State} {a0 : Array Value} (hw : oHw Z a0) : (Jvm.Cond.methodLink z7 (43 : Nat) ({ cls := "java/util/AbstractMap", name := "<init>", desc := "()V" } : Jvm.MethodName)).before a0 Z = true := hw _ (List.mem_of_getElem? (i := 67) rfl)
theorem w68 {Z : State} {a0 : Array Value} (hw : oHw Z a0) : (Jvm.Cond.instanceMethod ({ cls := "java/util/AbstractMap", name := "<init>", desc := "()V" } : Jvm.MethodName)).before a0 Z = true := hw _ (List.mem_of_getElem? (i := 68) rfl)
theorem w71 {Z : State} {a0 : Array Value} (hw : oHw Z a0) : (Jvm.Cond.initialized "java/util/AbstractMap").before a0 Z = true := hw _ (List.mem_of_getElem? (i := 71) rfl)
theorem w72 {Z : State} {a0 : Array Value} (hw : oHw Z a0) : (Jvm.Cond.code ({ cls := "java/util/AbstractMap", name := "<init>", desc := "()V" } : Jvm.MethodName) jdk_71_method_1_code (1 : Nat) (Option.none : Option Jvm.ClassFile.FieldType)).before a0 Z = true := hw _ (List.mem_of_getElem? (i := 72) rfl)
theorem w73 {Z : State} {a0 : Array Value} (hw : oHw Z a0) : (Jvm.Cond.methodLink "java/util/AbstractMap" (1 : Nat) ({ cls := z18, name := "<init>", desc := "()V" } : Jvm.MethodName)).before a0 Z = true := hw _ (List.mem_of_getElem? (i := 73) rfl)
theorem w74 {Z : State} {a0 : Array Value} (hw : oHw Z a0) : (Jvm.Cond.constantFloat z7 (92 : Nat) (1061158912 : UInt32)).before a0 Z = true := hw _ (List.mem_of_getElem? (i := 74) rfl)
theorem w75 {Z : State} {a0 : Array Value} (hw : oHw Z a0) : (Jvm.Cond.fieldLink z7 (81 : Nat) z7 "loadFactor" "F").before a0 Z = true := hw _ (List.mem_of_getElem? (i := 75) rfl)
theorem w76 {Z : State} {a0 : Array Value} (hw : oHw Z a0) : (Jvm.Cond.laysFinal z0 z7 "loadFactor" "F").before a0 Z = true := hw _ (List.mem_of_getElem? (i := 76) rfl)
theorem w77 {Z : State} {a0 : Array Value} (hw : oHw Z a0) : (Jvm.Cond.fieldLink z0 (1 : Nat) z0 "putMode" "I").before a0 Z = true := hw _ (List.mem_of_getElem? (i := 77) rfl)
theorem w78 {Z : State} {a0 : Array Value} (hw : oHw Z a0) : (Jvm.Cond.lays z0 z0 "putMode" "I").before a0 Z = true := hw _ (List.mem_of_getElem? (i := 78) rfl)
theorem w79 {Z : State} {a0 : Array Value} (hw : oHw Z a0) : (Jvm.Cond.fieldLink z0 (64 : Nat) z0 "accessOrder" "Z").before a0 Z = true := hw _ (List.mem_of_getElem? (i := 79) rfl)
theorem w80 {Z : State} {a0 : Array Value} (hw : oHw Z a0) : (Jvm.Cond.laysFinal z0 z0 "accessOrder" "Z").before a0 Z = true := hw _ (List.mem_of_getElem? (i := 80) rfl)
theorem w81 {Z : State} {a0 : Array Value} (hw : oHw Z a0) : (Jvm.Cond.methodLink z5 (22 : Nat) ({ cls := "java/util/List", name := "iterator", desc := z16 } : Jvm.MethodName)).before a0 Z = true := hw _ (List.mem_of_getElem? (i := 81) rfl)
theorem w82 {Z : State} {a0 : Array Value} (hw : oHw Z a0) : (Jvm.Cond.declares ({ cls := "java/util/List", name := "iterator", desc := z16 } : Jvm.MethodName)).before a0 Z = true := hw _ (List.mem_of_getElem? (i := 82) rfl)
theorem w83 {Z : State} {a0 : Array Value} (hw : oHw Z a0) : (Jvm.Cond.interfaceMethod "java/util/List" "java/util/List" "iterator" z16).before a0 Z = true := hw _ (List.mem_of_getElem? (i := 83) rfl)
theorem w84 {Z : State} {a0 : Array Value} (hw : oHw Z a0) : (Jvm.Cond.selects z8 ({ cls := "java/util/List", name := "iterator", desc := z16 } : Jvm.MethodName) ({ cls := z8, name := "iterator", desc := z16 } : Jvm.MethodName)).before a0 Z = true := hw _ (List.mem_of_getElem? (i := 84) rfl)
theorem w85 {Z : State} {a0 : Array Value} (hw : oHw Z a0) : (Jvm.Cond.instanceMethod ({ cls := z8, name := "iterator", desc := z16 } : Jvm.MethodName)).before a0 Z = true := hw _ (List.mem_of_getElem? (i := 85) rfl)
theorem w86 {Z : State} {a0 : Array Value} (hw : oHw Z a0) : (Jvm.Cond.publicMethod ({ cls := z8, name := "iterator", desc := z16 } : Jvm.MethodName)).before a0 Z = true := hw _ (List.mem_of_getElem? (i := 86) rfl)
theorem w87 {Z : State} {a0 : Array Value} (hw : oHw Z a0) : (Jvm.Cond.unhidden z8 "iterator" z16).before a0 Z = true := hw _ (List.mem_of_getElem? (i := 87) rfl)
theorem w88 {Z : State} {a0 : Array Value} (hw : oHw Z a0) : (Jvm.Cond.castable z8 "java/util/List").before a0 Z = true := hw _ (List.mem_of_getElem? (i := 88) rfl)
theorem w89 {Z : State} {a0 : Array Value} (hw : oHw Z a0) : (Jvm.Cond.code ({ cls := z8, name := "iterator", desc := z16 } : Jvm.MethodName) jdk_38_method_55_code (1 : Nat) (Option.some (Jvm.ClassFile.FieldType.object z21))).before a0 Z = true := hw _ (List.mem_of_getElem? (i := 89) rfl)
theorem w90 {Z : State} {a0 : Array Value} (hw : oHw Z a0) : (Jvm.Cond.classLink z8 (267 : Nat) z10).before a0 Z = true := hw _ (List.mem_of_getElem? (i := 90) rfl)
theorem w91 {Z : State} {a0 : Array Value} (hw : oHw Z a0) : (Jvm.Cond.instantiable z10 (4 : Nat)).before a0 Z = true := hw _ (List.mem_of_getElem? (i := 91) rfl)
theorem w92 {Z : State} {a0 : Array Value} (hw : oHw Z a0) : (Jvm.Cond.initialized z10).before a0 Z = true := hw _ (List.mem_of_getElem? (i := 92) rfl)
theorem w93 {Z : State} {a0 : Array Value} (hw : oHw Z a0) : (Jvm.Cond.methodLink z8 (269 : Nat) ({ cls := z10, name := "<init>", desc := "(Ljava/util/ArrayList;)V" } : Jvm.MethodName)).before a0 Z = true := hw _ (List.mem_of_getElem? (i := 93) rfl)
theorem w94 {Z : State} {a0 : Array Value} (hw : oHw Z a0) : (Jvm.Cond.instanceMethod ({ cls := z10, name := "<init>", desc := "(Ljava/util/ArrayList;)V" } : Jvm.MethodName)).before a0 Z = true := hw _ (List.mem_of_getElem? (i := 94) rfl)
theorem w96 {Z : State} {a0 : Array Value} (hw : oHw Z a0) : (Jvm.Cond.code ({ cls := z10, name := "<init>", desc := "(Ljava/util/ArrayList;)V" } : Jvm.MethodName) jdk_49_method_1_code (2 : Nat) (Option.none : Option Jvm.ClassFile.FieldType)).before a0 Z = true := hw _ (List.mem_of_getElem? (i := 96) rfl)
theorem w97 {Z : State} {a0 : Array Value} (hw : oHw Z a0) : (Jvm.Cond.fieldLink z10 (1 : Nat) z10 "this$0" "Ljava/util/ArrayList;").before a0 Z = true := hw _ (List.mem_of_getElem? (i := 97) rfl)
theorem w98 {Z : State} {a0 : Array Value} (hw : oHw Z a0) : (Jvm.Cond.laysFinal z10 z10 "this$0" "Ljava/util/ArrayList;").before a0 Z = true := hw _ (List.mem_of_getElem? (i := 98) rfl)
theorem w99 {Z : State} {a0 : Array Value} (hw : oHw Z a0) : (Jvm.Cond.methodLink z10 (7 : Nat) ({ cls := z18, name := "<init>", desc := "()V" } : Jvm.MethodName)).before a0 Z = true := hw _ (List.mem_of_getElem? (i := 99) rfl)
theorem w100 {Z : State} {a0 : Array Value} (hw : oHw Z a0) : (Jvm.Cond.fieldLink z10 (13 : Nat) z10 "lastRet" "I").before a0 Z = true := hw _ (List.mem_of_getElem? (i := 100) rfl)
theorem w101 {Z : State} {a0 : Array Value} (hw : oHw Z a0) : (Jvm.Cond.lays z10 z10 "lastRet" "I").before a0 Z = true := hw _ (List.mem_of_getElem? (i := 101) rfl)
theorem w102 {Z : State} {a0 : Array Value} (hw : oHw Z a0) : (Jvm.Cond.fieldLink z10 (17 : Nat) z8 "modCount" "I").before a0 Z = true := hw _ (List.mem_of_getElem? (i := 102) rfl)
theorem w103 {Z : State} {a0 : Array Value} (hw : oHw Z a0) : (Jvm.Cond.sameField z8 z26 "modCount" "I").before a0 Z = true := hw _ (List.mem_of_getElem? (i := 103) rfl)
theorem w104 {Z : State} {a0 : Array Value} (hw : oHw Z a0) : (Jvm.Cond.fieldLink z10 (22 : Nat) z10 "expectedModCount" "I").before a0 Z = true := hw _ (List.mem_of_getElem? (i := 104) rfl)
theorem w105 {Z : State} {a0 : Array Value} (hw : oHw Z a0) : (Jvm.Cond.lays z10 z10 "expectedModCount" "I").before a0 Z = true := hw _ (List.mem_of_getElem? (i := 105) rfl)
theorem w106 {Z : State} {a0 : Array Value} (hw : oHw Z a0) : (Jvm.Cond.methodLink z5 (28 : Nat) ({ cls := z21, name := "hasNext", desc := "()Z" } : Jvm.MethodName)).before a0 Z = true := hw _ (List.mem_of_getElem? (i := 106) rfl)
theorem w107 {Z : State} {a0 : Array Value} (hw : oHw Z a0) : (Jvm.Cond.declares ({ cls := z21, name := "hasNext", desc := "()Z" } : Jvm.MethodName)).before a0 Z = true := hw _ (List.mem_of_getElem? (i := 107) rfl)
theorem w108 {Z : State} {a0 : Array Value} (hw : oHw Z a0) : (Jvm.Cond.interfaceMethod z21 z21 "hasNext" "()Z").before a0 Z = true := hw _ (List.mem_of_getElem? (i := 108) rfl)
theorem w109 {Z : State} {a0 : Array Value} (hw : oHw Z a0) : (Jvm.Cond.selects z10 ({ cls := z21, name := "hasNext", desc := "()Z" } : Jvm.MethodName) ({ cls := z10, name := "hasNext", desc := "()Z" } : Jvm.MethodName)).before a0 Z = true := hw _ (List.mem_of_getElem? (i := 109) rfl)
theorem w110 {Z : State} {a0 : Array Value} (hw : oHw Z a0) : (Jvm.Cond.instanceMethod ({ cls := z10, name := "hasNext", desc := "()Z" } : Jvm.MethodName)).before a0 Z = true := hw _ (List.mem_of_getElem? (i := 110) rfl)
theorem w111 {Z : State} {a0 : Array Value} (hw : oHw Z a0) : (Jvm.Cond.publicMethod ({ cls := z10, name := "hasNext", desc := "()Z" } : Jvm.MethodName)).before a0 Z = true := hw _ (List.mem_of_getElem? (i := 111) rfl)
theorem w112 {Z : State} {a0 : Array Value} (hw : oHw Z a0) : (Jvm.Cond.unhidden z10 "hasNext" "()Z").before a0 Z = true := hw _ (List.mem_of_getElem? (i := 112) rfl)
theorem w113 {Z : State} {a0 : Array Value} (hw : oHw Z a0) : (Jvm.Cond.castable z10 z21).before a0 Z = true := hw _ (List.mem_of_getElem? (i := 113) rfl)
theorem w114 {Z : State} {a0 : Array Value} (hw : oHw Z a0) : (Jvm.Cond.code ({ cls := z10, name := "hasNext", desc := "()Z" } : Jvm.MethodName) jdk_49_method_2_code (1 : Nat) (Option.some Jvm.ClassFile.FieldType.boolean)).before a0 Z = true := hw _ (List.mem_of_getElem? (i := 114) rfl)
theorem w115 {Z : State} {a0 : Array Value} (hw : oHw Z a0) : (Jvm.Cond.fieldLink z10 (25 : Nat) z10 "cursor" "I").before a0 Z = true := hw _ (List.mem_of_getElem? (i := 115) rfl)
theorem w116 {Z : State} {a0 : Array Value} (hw : oHw Z a0) : (Jvm.Cond.lays z10 z10 "cursor" "I").before a0 Z = true := hw _ (List.mem_of_getElem? (i := 116) rfl)
theorem w117 {Z : State} {a0 : Array Value} (hw : oHw Z a0) : (Jvm.Cond.fieldLinkNest z10 (28 : Nat) z8 "size" "I" z8).before a0 Z = true := hw _ (List.mem_of_getElem? (i := 117) rfl)
theorem w118 {Z : State} {a0 : Array Value} (hw : oHw Z a0) : (Jvm.Cond.lays z8 z8 "size" "I").before a0 Z = true := hw _ (List.mem_of_getElem? (i := 118) rfl)
theorem w119 {Z : State} {a0 : Array Value} (hw : oHw Z a0) : (Jvm.Cond.classLink z5 (14 : Nat) z5).before a0 Z = true := hw _ (List.mem_of_getElem? (i := 119) rfl)
theorem w120 {Z : State} {a0 : Array Value} (hw : oHw Z a0) : (Jvm.Cond.instantiable z5 (1 : Nat)).before a0 Z = true := hw _ (List.mem_of_getElem? (i := 120) rfl)
theorem w121 {Z : State} {a0 : Array Value} (hw : oHw Z a0) : (Jvm.Cond.methodLink z5 (65 : Nat) ({ cls := z5, name := "<init>", desc := "(Ljava/util/Map;)V" } : Jvm.MethodName)).before a0 Z = true := hw _ (List.mem_of_getElem? (i := 121) rfl)
theorem w122 {Z : State} {a0 : Array Value} (hw : oHw Z a0) : (Jvm.Cond.instanceMethod ({ cls := z5, name := "<init>", desc := "(Ljava/util/Map;)V" } : Jvm.MethodName)).before a0 Z = true := hw _ (List.mem_of_getElem? (i := 122) rfl)
theorem w123 {Z : State} {a0 : Array Value} (hw : oHw Z a0) : (Jvm.Cond.code ({ cls := z5, name := "<init>", desc := "(Ljava/util/Map;)V" } : Jvm.MethodName) prog_32_method_1_code (2 : Nat) (Option.none : Option Jvm.ClassFile.FieldType)).before a0 Z = true := hw _ (List.mem_of_getElem? (i := 123) rfl)
theorem w124 {Z : State} {a0 : Array Value} (hw : oHw Z a0) : (Jvm.Cond.methodLink z5 (1 : Nat) ({ cls := z18, name := "<init>", desc := "()V" } : Jvm.MethodName)).before a0 Z = true := hw _ (List.mem_of_getElem? (i := 124) rfl)
theorem w125 {Z : State} {a0 : Array Value} (hw : oHw Z a0) : (Jvm.Cond.methodLink z5 (7 : Nat) ({ cls := "java/util/Collections", name := "unmodifiableMap", desc := "(Ljava/util/Map;)Ljava/util/Map;" } : Jvm.MethodName)).before a0 Z = true := hw _ (List.mem_of_getElem? (i := 125) rfl)
theorem w126 {Z : State} {a0 : Array Value} (hw : oHw Z a0) : (Jvm.Cond.static ({ cls := "java/util/Collections", name := "unmodifiableMap", desc := "(Ljava/util/Map;)Ljava/util/Map;" } : Jvm.MethodName)).before a0 Z = true := hw _ (List.mem_of_getElem? (i := 126) rfl)
theorem w127 {Z : State} {a0 : Array Value} (hw : oHw Z a0) : (Jvm.Cond.initialized "java/util/Collections").before a0 Z = true := hw _ (List.mem_of_getElem? (i := 127) rfl)
theorem w128 {Z : State} {a0 : Array Value} (hw : oHw Z a0) : (Jvm.Cond.code ({ cls := "java/util/Collections", name := "unmodifiableMap", desc := "(Ljava/util/Map;)Ljava/util/Map;" } : Jvm.MethodName) jdk_79_method_36_code (1 : Nat) (Option.some (Jvm.ClassFile.FieldType.object "java/util/Map"))).before a0 Z = true := hw _ (List.mem_of_getElem? (i := 128) rfl)
theorem w129 {Z : State} {a0 : Array Value} (hw : oHw Z a0) : (Jvm.Cond.methodLink "java/util/Collections" (220 : Nat) ({ cls := "java/util/Map", name := "getClass", desc := "()Ljava/lang/Class;" } : Jvm.MethodName)).before a0 Z = true := hw _ (List.mem_of_getElem? (i := 129) rfl)
theorem w130 {Z : State} {a0 : Array Value} (hw : oHw Z a0) : (Jvm.Cond.declares ({ cls := z18, name := "getClass", desc := "()Ljava/lang/Class;" } : Jvm.MethodName)).before a0 Z = true := hw _ (List.mem_of_getElem? (i := 130) rfl)
theorem w131 {Z : State} {a0 : Array Value} (hw : oHw Z a0) : (Jvm.Cond.interfaceMethod "java/util/Map" z18 "getClass" "()Ljava/lang/Class;").before a0 Z = true := hw _ (List.mem_of_getElem? (i := 131) rfl)
theorem w132 {Z : State} {a0 : Array Value} (hw : oHw Z a0) : (Jvm.Cond.selects z0 ({ cls := "java/util/Map", name := "getClass", desc := "()Ljava/lang/Class;" } : Jvm.MethodName) ({ cls := z18, name := "getClass", desc := "()Ljava/lang/Class;" } : Jvm.MethodName)).before a0 Z = true := hw _ (List.mem_of_getElem? (i := 132) rfl)
theorem w133 {Z : State} {a0 : Array Value} (hw : oHw Z a0) : (Jvm.Cond.instanceMethod ({ cls := z18, name := "getClass", desc := "()Ljava/lang/Class;" } : Jvm.MethodName)).before a0 Z = true := hw _ (List.mem_of_getElem? (i := 133) rfl)
theorem w134 {Z : State} {a0 : Array Value} (hw : oHw Z a0) : (Jvm.Cond.publicMethod ({ cls := z18, name := "getClass", desc := "()Ljava/lang/Class;" } : Jvm.MethodName)).before a0 Z = true := hw _ (List.mem_of_getElem? (i := 134) rfl)
theorem w135 {Z : State} {a0 : Array Value} (hw : oHw Z a0) : (Jvm.Cond.unhidden z0 "getClass" "()Ljava/lang/Class;").before a0 Z = true := hw _ (List.mem_of_getElem? (i := 135) rfl)
theorem w136 {Z : State} {a0 : Array Value} (hw : oHw Z a0) : (Jvm.Cond.castable z0 "java/util/Map").before a0 Z = true := hw _ (List.mem_of_getElem? (i := 136) rfl)
theorem w137 {Z : State} {a0 : Array Value} (hw : oHw Z a0) : (Jvm.Cond.native ({ cls := z18, name := "getClass", desc := "()Ljava/lang/Class;" } : Jvm.MethodName)).before a0 Z = true := hw _ (List.mem_of_getElem? (i := 137) rfl)
theorem w139 {Z : State} {a0 : Array Value} (hw : oHw Z a0) : (Jvm.Cond.classLink "java/util/Collections" (223 : Nat) z3).before a0 Z = true := hw _ (List.mem_of_getElem? (i := 139) rfl)
theorem w141 {Z : State} {a0 : Array Value} (hw : oHw Z a0) : (Jvm.Cond.instantiable z3 (4 : Nat)).before a0 Z = true := hw _ (List.mem_of_getElem? (i := 141) rfl)
theorem w142 {Z : State} {a0 : Array Value} (hw : oHw Z a0) : (Jvm.Cond.initialized z3).before a0 Z = true := hw _ (List.mem_of_getElem? (i := 142) rfl)
theorem w143 {Z : State} {a0 : Array Value} (hw : oHw Z a0) : (Jvm.Cond.methodLink "java/util/Collections" (225 : Nat) ({ cls := z3, name := "<init>", desc := "(Ljava/util/Map;)V" } : Jvm.MethodName)).before a0 Z = true := hw _ (List.mem_of_getElem? (i := 143) rfl)
theorem w144 {Z : State} {a0 : Array Value} (hw : oHw Z a0) : (Jvm.Cond.instanceMethod ({ cls := z3, name := "<init>", desc := "(Ljava/util/Map;)V" } : Jvm.MethodName)).before a0 Z = true := hw _ (List.mem_of_getElem? (i := 144) rfl)
theorem w145 {Z : State} {a0 : Array Value} (hw : oHw Z a0) : (Jvm.Cond.code ({ cls := z3, name := "<init>", desc := "(Ljava/util/Map;)V" } : Jvm.MethodName) jdk_2500_method_1_code (2 : Nat) (Option.none : Option Jvm.ClassFile.FieldType)).before a0 Z = true := hw _ (List.mem_of_getElem? (i := 145) rfl)
theorem w146 {Z : State} {a0 : Array Value} (hw : oHw Z a0) : (Jvm.Cond.methodLink z3 (1 : Nat) ({ cls := z18, name := "<init>", desc := "()V" } : Jvm.MethodName)).before a0 Z = true := hw _ (List.mem_of_getElem? (i := 146) rfl)
theorem w147 {Z : State} {a0 : Array Value} (hw : oHw Z a0) : (Jvm.Cond.fieldLink z3 (10 : Nat) z3 "m" z14).before a0 Z = true := hw _ (List.mem_of_getElem? (i := 147) rfl)
theorem w148 {Z : State} {a0 : Array Value} (hw : oHw Z a0) : (Jvm.Cond.laysFinal z3 z3 "m" z14).before a0 Z = true := hw _ (List.mem_of_getElem? (i := 148) rfl)
theorem w149 {Z : State} {a0 : Array Value} (hw : oHw Z a0) : (Jvm.Cond.fieldLink z5 (13 : Nat) z5 "findings" z14).before a0 Z = true := hw _ (List.mem_of_getElem? (i := 149) rfl)
theorem w150 {Z : State} {a0 : Array Value} (hw : oHw Z a0) : (Jvm.Cond.laysFinal z5 z5 "findings" z14).before a0 Z = true := hw _ (List.mem_of_getElem? (i := 150) rfl)
theorem w151 {Z : State} {a0 : Array Value} (hw : oHw Z a0) : (Jvm.Cond.methodLink z17 (26 : Nat) ({ cls := z2, name := "judged", desc := z33 } : Jvm.MethodName)).before a0 Z = true := hw _ (List.mem_of_getElem? (i := 151) rfl)
theorem w152 {Z : State} {a0 : Array Value} (hw : oHw Z a0) : (Jvm.Cond.static ({ cls := z2, name := "judged", desc := z33 } : Jvm.MethodName)).before a0 Z = true := hw _ (List.mem_of_getElem? (i := 152) rfl)
theorem w153 {Z : State} {a0 : Array Value} (hw : oHw Z a0) : (Jvm.Cond.code ({ cls := z2, name := "judged", desc := z33 } : Jvm.MethodName) prog_35_method_2_code (2 : Nat) (Option.some (Jvm.ClassFile.FieldType.object z2))).before a0 Z = true := hw _ (List.mem_of_getElem? (i := 153) rfl)
theorem w154 {Z : State} {a0 : Array Value} (hw : oHw Z a0) : (Jvm.Cond.classLink z17 (30 : Nat) z1).before a0 Z = true := hw _ (List.mem_of_getElem? (i := 154) rfl)
theorem w155 {Z : State} {a0 : Array Value} (hw : oHw Z a0) : (Jvm.Cond.instantiable z1 (3 : Nat)).before a0 Z = true := hw _ (List.mem_of_getElem? (i := 155) rfl)
theorem w156 {Z : State} {a0 : Array Value} (hw : oHw Z a0) : (Jvm.Cond.initialized z1).before a0 Z = true := hw _ (List.mem_of_getElem? (i := 156) rfl)
theorem w157 {Z : State} {a0 : Array Value} (hw : oHw Z a0) : (Jvm.Cond.methodLink z17 (32 : Nat) ({ cls := z1, name := "<init>", desc := "()V" } : Jvm.MethodName)).before a0 Z = true := hw _ (List.mem_of_getElem? (i := 157) rfl)
theorem w158 {Z : State} {a0 : Array Value} (hw : oHw Z a0) : (Jvm.Cond.instanceMethod ({ cls := z1, name := "<init>", desc := "()V" } : Jvm.MethodName)).before a0 Z = true := hw _ (List.mem_of_getElem? (i := 158) rfl)
theorem w159 {Z : State} {a0 : Array Value} (hw : oHw Z a0) : (Jvm.Cond.code ({ cls := z1, name := "<init>", desc := "()V" } : Jvm.MethodName) prog_42_method_1_code (1 : Nat) (Option.none : Option Jvm.ClassFile.FieldType)).before a0 Z = true := hw _ (List.mem_of_getElem? (i := 159) rfl)
theorem w160 {Z : State} {a0 : Array Value} (hw : oHw Z a0) : (Jvm.Cond.methodLink z1 (1 : Nat) ({ cls := z18, name := "<init>", desc := "()V" } : Jvm.MethodName)).before a0 Z = true := hw _ (List.mem_of_getElem? (i := 160) rfl)
theorem w161 {Z : State} {a0 : Array Value} (hw : oHw Z a0) : (Jvm.Cond.methodLink z17 (33 : Nat) ({ cls := z1, name := "getCaptures", desc := "()I" } : Jvm.MethodName)).before a0 Z = true := hw _ (List.mem_of_getElem? (i := 161) rfl)
theorem w162 {Z : State} {a0 : Array Value} (hw : oHw Z a0) : (Jvm.Cond.declares ({ cls := z1, name := "getCaptures", desc := "()I" } : Jvm.MethodName)).before a0 Z = true := hw _ (List.mem_of_getElem? (i := 162) rfl)
theorem w163 {Z : State} {a0 : Array Value} (hw : oHw Z a0) : (Jvm.Cond.instanceMethod ({ cls := z1, name := "getCaptures", desc := "()I" } : Jvm.MethodName)).before a0 Z = true := hw _ (List.mem_of_getElem? (i := 163) rfl)
theorem w164 {Z : State} {a0 : Array Value} (hw : oHw Z a0) : (Jvm.Cond.selects z1 ({ cls := z1, name := "getCaptures", desc := "()I" } : Jvm.MethodName) ({ cls := z1, name := "getCaptures", desc := "()I" } : Jvm.MethodName)).before a0 Z = true := hw _ (List.mem_of_getElem? (i := 164) rfl)
theorem w165 {Z : State} {a0 : Array Value} (hw : oHw Z a0) : (Jvm.Cond.code ({ cls := z1, name := "getCaptures", desc := "()I" } : Jvm.MethodName) prog_42_method_3_code (1 : Nat) (Option.some Jvm.ClassFile.FieldType.int)).before a0 Z = true := hw _ (List.mem_of_getElem? (i := 165) rfl)
theorem w166 {Z : State} {a0 : Array Value} (hw : oHw Z a0) : (Jvm.Cond.fieldLink z1 (37 : Nat) z1 "passed" "I").before a0 Z = true := hw _ (List.mem_of_getElem? (i := 166) rfl)
theorem w167 {Z : State} {a0 : Array Value} (hw : oHw Z a0) : (Jvm.Cond.lays z1 z1 "passed" "I").before a0 Z = true := hw _ (List.mem_of_getElem? (i := 167) rfl)
theorem w168 {Z : State} {a0 : Array Value} (hw : oHw Z a0) : (Jvm.Cond.fieldLink z1 (34 : Nat) z1 "failed" "I").before a0 Z = true := hw _ (List.mem_of_getElem? (i := 168) rfl)
theorem w169 {Z : State} {a0 : Array Value} (hw : oHw Z a0) : (Jvm.Cond.lays z1 z1 "failed" "I").before a0 Z = true := hw _ (List.mem_of_getElem? (i := 169) rfl)
theorem w170 {Z : State} {a0 : Array Value} (hw : oHw Z a0) : (Jvm.Cond.fieldLink z1 (19 : Nat) z1 "unusable" "I").before a0 Z = true := hw _ (List.mem_of_getElem? (i := 170) rfl)
theorem w171 {Z : State} {a0 : Array Value} (hw : oHw Z a0) : (Jvm.Cond.lays z1 z1 "unusable" "I").before a0 Z = true := hw _ (List.mem_of_getElem? (i := 171) rfl)
theorem w172 {Z : State} {a0 : Array Value} (hw : oHw Z a0) : (Jvm.Cond.methodLink z17 (37 : Nat) ({ cls := z17, name := "step", desc := z29 } : Jvm.MethodName)).before a0 Z = true := hw _ (List.mem_of_getElem? (i := 172) rfl)
theorem w173 {Z : State} {a0 : Array Value} (hw : oHw Z a0) : (Jvm.Cond.static ({ cls := z17, name := "step", desc := z29 } : Jvm.MethodName)).before a0 Z = true := hw _ (List.mem_of_getElem? (i := 173) rfl)
theorem w174 {Z : State} {a0 : Array Value} (hw : oHw Z a0) : (Jvm.Cond.initialized z17).before a0 Z = true := hw _ (List.mem_of_getElem? (i := 174) rfl)
theorem w175 {Z : State} {a0 : Array Value} (hw : oHw Z a0) : (Jvm.Cond.code ({ cls := z17, name := "step", desc := z29 } : Jvm.MethodName) method_3_code (5 : Nat) (Option.some Jvm.ClassFile.FieldType.int)).before a0 Z = true := hw _ (List.mem_of_getElem? (i := 175) rfl)
theorem w176 {Z : State} {a0 : Array Value} (hw : oHw Z a0) : (Jvm.Cond.methodLink z17 (43 : Nat) ({ cls := z1, name := "add", desc := z28 } : Jvm.MethodName)).before a0 Z = true := hw _ (List.mem_of_getElem? (i := 176) rfl)
theorem w177 {Z : State} {a0 : Array Value} (hw : oHw Z a0) : (Jvm.Cond.declares ({ cls := z1, name := "add", desc := z28 } : Jvm.MethodName)).before a0 Z = true := hw _ (List.mem_of_getElem? (i := 177) rfl)
theorem w178 {Z : State} {a0 : Array Value} (hw : oHw Z a0) : (Jvm.Cond.instanceMethod ({ cls := z1, name := "add", desc := z28 } : Jvm.MethodName)).before a0 Z = true := hw _ (List.mem_of_getElem? (i := 178) rfl)
theorem w179 {Z : State} {a0 : Array Value} (hw : oHw Z a0) : (Jvm.Cond.selects z1 ({ cls := z1, name := "add", desc := z28 } : Jvm.MethodName) ({ cls := z1, name := "add", desc := z28 } : Jvm.MethodName)).before a0 Z = true := hw _ (List.mem_of_getElem? (i := 179) rfl)
theorem w180 {Z : State} {a0 : Array Value} (hw : oHw Z a0) : (Jvm.Cond.code ({ cls := z1, name := "add", desc := z28 } : Jvm.MethodName) prog_42_method_2_code (2 : Nat) (Option.none : Option Jvm.ClassFile.FieldType)).before a0 Z = true := hw _ (List.mem_of_getElem? (i := 180) rfl)
theorem w181 {Z : State} {a0 : Array Value} (hw : oHw Z a0) : (Jvm.Cond.methodLink z1 (7 : Nat) ({ cls := z2, name := "getReport", desc := "()Ljava/util/Optional;" } : Jvm.MethodName)).before a0 Z = true := hw _ (List.mem_of_getElem? (i := 181) rfl)
theorem w182 {Z : State} {a0 : Array Value} (hw : oHw Z a0) : (Jvm.Cond.declares ({ cls := z2, name := "getReport", desc := "()Ljava/util/Optional;" } : Jvm.MethodName)).before a0 Z = true := hw _ (List.mem_of_getElem? (i := 182) rfl)
theorem w183 {Z : State} {a0 : Array Value} (hw : oHw Z a0) : (Jvm.Cond.instanceMethod ({ cls := z2, name := "getReport", desc := "()Ljava/util/Optional;" } : Jvm.MethodName)).before a0 Z = true := hw _ (List.mem_of_getElem? (i := 183) rfl)
theorem w184 {Z : State} {a0 : Array Value} (hw : oHw Z a0) : (Jvm.Cond.selects z2 ({ cls := z2, name := "getReport", desc := "()Ljava/util/Optional;" } : Jvm.MethodName) ({ cls := z2, name := "getReport", desc := "()Ljava/util/Optional;" } : Jvm.MethodName)).before a0 Z = true := hw _ (List.mem_of_getElem? (i := 184) rfl)
theorem w185 {Z : State} {a0 : Array Value} (hw : oHw Z a0) : (Jvm.Cond.code ({ cls := z2, name := "getReport", desc := "()Ljava/util/Optional;" } : Jvm.MethodName) prog_35_method_5_code (1 : Nat) (Option.some (Jvm.ClassFile.FieldType.object z4))).before a0 Z = true := hw _ (List.mem_of_getElem? (i := 185) rfl)
theorem w186 {Z : State} {a0 : Array Value} (hw : oHw Z a0) : (Jvm.Cond.methodLink z2 (23 : Nat) ({ cls := z4, name := "ofNullable", desc := "(Ljava/lang/Object;)Ljava/util/Optional;" } : Jvm.MethodName)).before a0 Z = true := hw _ (List.mem_of_getElem? (i := 186) rfl)
theorem w187 {Z : State} {a0 : Array Value} (hw : oHw Z a0) : (Jvm.Cond.static ({ cls := z4, name := "ofNullable", desc := "(Ljava/lang/Object;)Ljava/util/Optional;" } : Jvm.MethodName)).before a0 Z = true := hw _ (List.mem_of_getElem? (i := 187) rfl)
theorem w188 {Z : State} {a0 : Array Value} (hw : oHw Z a0) : (Jvm.Cond.initialized z4).before a0 Z = true := hw _ (List.mem_of_getElem? (i := 188) rfl)
theorem w189 {Z : State} {a0 : Array Value} (hw : oHw Z a0) : (Jvm.Cond.code ({ cls := z4, name := "ofNullable", desc := "(Ljava/lang/Object;)Ljava/util/Optional;" } : Jvm.MethodName) jdk_32_method_4_code (1 : Nat) (Option.some (Jvm.ClassFile.FieldType.object z4))).before a0 Z = true := hw _ (List.mem_of_getElem? (i := 189) rfl)
theorem w190 {Z : State} {a0 : Array Value} (hw : oHw Z a0) : (Jvm.Cond.classLink z4 (2 : Nat) z4).before a0 Z = true := hw _ (List.mem_of_getElem? (i := 190) rfl)
theorem w191 {Z : State} {a0 : Array Value} (hw : oHw Z a0) : (Jvm.Cond.instantiable z4 (1 : Nat)).before a0 Z = true := hw _ (List.mem_of_getElem? (i := 191) rfl)
theorem w192 {Z : State} {a0 : Array Value} (hw : oHw Z a0) : (Jvm.Cond.methodLink z4 (23 : Nat) ({ cls := z4, name := "<init>", desc := "(Ljava/lang/Object;)V" } : Jvm.MethodName)).before a0 Z = true := hw _ (List.mem_of_getElem? (i := 192) rfl)
theorem w193 {Z : State} {a0 : Array Value} (hw : oHw Z a0) : (Jvm.Cond.instanceMethod ({ cls := z4, name := "<init>", desc := "(Ljava/lang/Object;)V" } : Jvm.MethodName)).before a0 Z = true := hw _ (List.mem_of_getElem? (i := 193) rfl)
theorem w195 {Z : State} {a0 : Array Value} (hw : oHw Z a0) : (Jvm.Cond.code ({ cls := z4, name := "<init>", desc := "(Ljava/lang/Object;)V" } : Jvm.MethodName) jdk_32_method_2_code (2 : Nat) (Option.none : Option Jvm.ClassFile.FieldType)).before a0 Z = true := hw _ (List.mem_of_getElem? (i := 195) rfl)
theorem w196 {Z : State} {a0 : Array Value} (hw : oHw Z a0) : (Jvm.Cond.methodLink z4 (7 : Nat) ({ cls := z18, name := "<init>", desc := "()V" } : Jvm.MethodName)).before a0 Z = true := hw _ (List.mem_of_getElem? (i := 196) rfl)
theorem w197 {Z : State} {a0 : Array Value} (hw : oHw Z a0) : (Jvm.Cond.fieldLink z4 (13 : Nat) z4 "value" "Ljava/lang/Object;").before a0 Z = true := hw _ (List.mem_of_getElem? (i := 197) rfl)
theorem w198 {Z : State} {a0 : Array Value} (hw : oHw Z a0) : (Jvm.Cond.laysFinal z4 z4 "value" "Ljava/lang/Object;").before a0 Z = true := hw _ (List.mem_of_getElem? (i := 198) rfl)
theorem w199 {Z : State} {a0 : Array Value} (hw : oHw Z a0) : (Jvm.Cond.methodLink z1 (13 : Nat) ({ cls := z4, name := "isEmpty", desc := "()Z" } : Jvm.MethodName)).before a0 Z = true := hw _ (List.mem_of_getElem? (i := 199) rfl)
theorem w200 {Z : State} {a0 : Array Value} (hw : oHw Z a0) : (Jvm.Cond.declares ({ cls := z4, name := "isEmpty", desc := "()Z" } : Jvm.MethodName)).before a0 Z = true := hw _ (List.mem_of_getElem? (i := 200) rfl)
theorem w201 {Z : State} {a0 : Array Value} (hw : oHw Z a0) : (Jvm.Cond.instanceMethod ({ cls := z4, name := "isEmpty", desc := "()Z" } : Jvm.MethodName)).before a0 Z = true := hw _ (List.mem_of_getElem? (i := 201) rfl)
theorem w202 {Z : State} {a0 : Array Value} (hw : oHw Z a0) : (Jvm.Cond.selects z4 ({ cls := z4, name := "isEmpty", desc := "()Z" } : Jvm.MethodName) ({ cls := z4, name := "isEmpty", desc := "()Z" } : Jvm.MethodName)).before a0 Z = true := hw _ (List.mem_of_getElem? (i := 202) rfl)
theorem w203 {Z : State} {a0 : Array Value} (hw : oHw Z a0) : (Jvm.Cond.code ({ cls := z4, name := "isEmpty", desc := "()Z" } : Jvm.MethodName) jdk_32_method_7_code (1 : Nat) (Option.some Jvm.ClassFile.FieldType.boolean)).before a0 Z = true := hw _ (List.mem_of_getElem? (i := 203) rfl)
theorem w204 {Z : State} {a0 : Array Value} (hw : oHw Z a0) : (Jvm.Cond.methodLink z1 (25 : Nat) ({ cls := z4, name := "get", desc := "()Ljava/lang/Object;" } : Jvm.MethodName)).before a0 Z = true := hw _ (List.mem_of_getElem? (i := 204) rfl)
theorem w205 {Z : State} {a0 : Array Value} (hw : oHw Z a0) : (Jvm.Cond.declares ({ cls := z4, name := "get", desc := "()Ljava/lang/Object;" } : Jvm.MethodName)).before a0 Z = true := hw _ (List.mem_of_getElem? (i := 205) rfl)
theorem w206 {Z : State} {a0 : Array Value} (hw : oHw Z a0) : (Jvm.Cond.instanceMethod ({ cls := z4, name := "get", desc := "()Ljava/lang/Object;" } : Jvm.MethodName)).before a0 Z = true := hw _ (List.mem_of_getElem? (i := 206) rfl)
theorem w207 {Z : State} {a0 : Array Value} (hw : oHw Z a0) : (Jvm.Cond.selects z4 ({ cls := z4, name := "get", desc := "()Ljava/lang/Object;" } : Jvm.MethodName) ({ cls := z4, name := "get", desc := "()Ljava/lang/Object;" } : Jvm.MethodName)).before a0 Z = true := hw _ (List.mem_of_getElem? (i := 207) rfl)
theorem w208 {Z : State} {a0 : Array Value} (hw : oHw Z a0) : (Jvm.Cond.code ({ cls := z4, name := "get", desc := "()Ljava/lang/Object;" } : Jvm.MethodName) jdk_32_method_5_code (1 : Nat) (Option.some (Jvm.ClassFile.FieldType.object z18))).before a0 Z = true := hw _ (List.mem_of_getElem? (i := 208) rfl)
theorem w209 {Z : State} {a0 : Array Value} (hw : oHw Z a0) : (Jvm.Cond.classLink z1 (29 : Nat) z5).before a0 Z = true := hw _ (List.mem_of_getElem? (i := 209) rfl)
theorem w211 {Z : State} {a0 : Array Value} (hw : oHw Z a0) : (Jvm.Cond.methodLink z1 (31 : Nat) ({ cls := z5, name := "failsAMust", desc := "()Z" } : Jvm.MethodName)).before a0 Z = true := hw _ (List.mem_of_getElem? (i := 211) rfl)
theorem w212 {Z : State} {a0 : Array Value} (hw : oHw Z a0) : (Jvm.Cond.declares ({ cls := z5, name := "failsAMust", desc := "()Z" } : Jvm.MethodName)).before a0 Z = true := hw _ (List.mem_of_getElem? (i := 212) rfl)
theorem w213 {Z : State} {a0 : Array Value} (hw : oHw Z a0) : (Jvm.Cond.instanceMethod ({ cls := z5, name := "failsAMust", desc := "()Z" } : Jvm.MethodName)).before a0 Z = true := hw _ (List.mem_of_getElem? (i := 213) rfl)
theorem w214 {Z : State} {a0 : Array Value} (hw : oHw Z a0) : (Jvm.Cond.selects z5 ({ cls := z5, name := "failsAMust", desc := "()Z" } : Jvm.MethodName) ({ cls := z5, name := "failsAMust", desc := "()Z" } : Jvm.MethodName)).before a0 Z = true := hw _ (List.mem_of_getElem? (i := 214) rfl)
theorem w215 {Z : State} {a0 : Array Value} (hw : oHw Z a0) : (Jvm.Cond.code ({ cls := z5, name := "failsAMust", desc := "()Z" } : Jvm.MethodName) prog_32_method_5_code (3 : Nat) (Option.some Jvm.ClassFile.FieldType.boolean)).before a0 Z = true := hw _ (List.mem_of_getElem? (i := 215) rfl)
theorem w216 {Z : State} {a0 : Array Value} (hw : oHw Z a0) : (Jvm.Cond.methodLink z5 (81 : Nat) ({ cls := "java/util/Map", name := "entrySet", desc := "()Ljava/util/Set;" } : Jvm.MethodName)).before a0 Z = true := hw _ (List.mem_of_getElem? (i := 216) rfl)
theorem w217 {Z : State} {a0 : Array Value} (hw : oHw Z a0) : (Jvm.Cond.declares ({ cls := "java/util/Map", name := "entrySet", desc := "()Ljava/util/Set;" } : Jvm.MethodName)).before a0 Z = true := hw _ (List.mem_of_getElem? (i := 217) rfl)
theorem w218 {Z : State} {a0 : Array Value} (hw : oHw Z a0) : (Jvm.Cond.interfaceMethod "java/util/Map" "java/util/Map" "entrySet" "()Ljava/util/Set;").before a0 Z = true := hw _ (List.mem_of_getElem? (i := 218) rfl)
theorem w219 {Z : State} {a0 : Array Value} (hw : oHw Z a0) : (Jvm.Cond.selects z3 ({ cls := "java/util/Map", name := "entrySet", desc := "()Ljava/util/Set;" } : Jvm.MethodName) ({ cls := z3, name := "entrySet", desc := "()Ljava/util/Set;" } : Jvm.MethodName)).before a0 Z = true := hw _ (List.mem_of_getElem? (i := 219) rfl)
theorem w220 {Z : State} {a0 : Array Value} (hw : oHw Z a0) : (Jvm.Cond.instanceMethod ({ cls := z3, name := "entrySet", desc := "()Ljava/util/Set;" } : Jvm.MethodName)).before a0 Z = true := hw _ (List.mem_of_getElem? (i := 220) rfl)
theorem w221 {Z : State} {a0 : Array Value} (hw : oHw Z a0) : (Jvm.Cond.publicMethod ({ cls := z3, name := "entrySet", desc := "()Ljava/util/Set;" } : Jvm.MethodName)).before a0 Z = true := hw _ (List.mem_of_getElem? (i := 221) rfl)
theorem w222 {Z : State} {a0 : Array Value} (hw : oHw Z a0) : (Jvm.Cond.unhidden z3 "entrySet" "()Ljava/util/Set;").before a0 Z = true := hw _ (List.mem_of_getElem? (i := 222) rfl)
theorem w223 {Z : State} {a0 : Array Value} (hw : oHw Z a0) : (Jvm.Cond.castable z3 "java/util/Map").before a0 Z = true := hw _ (List.mem_of_getElem? (i := 223) rfl)
theorem w224 {Z : State} {a0 : Array Value} (hw : oHw Z a0) : (Jvm.Cond.code ({ cls := z3, name := "entrySet", desc := "()Ljava/util/Set;" } : Jvm.MethodName) jdk_2500_method_12_code (1 : Nat) (Option.some (Jvm.ClassFile.FieldType.object "java/util/Set"))).before a0 Z = true := hw _ (List.mem_of_getElem? (i := 224) rfl)
theorem w225 {Z : State} {a0 : Array Value} (hw : oHw Z a0) : (Jvm.Cond.fieldLink z3 (53 : Nat) z3 "entrySet" z13).before a0 Z = true := hw _ (List.mem_of_getElem? (i := 225) rfl)
theorem w226 {Z : State} {a0 : Array Value} (hw : oHw Z a0) : (Jvm.Cond.lays z3 z3 "entrySet" z13).before a0 Z = true := hw _ (List.mem_of_getElem? (i := 226) rfl)
theorem w227 {Z : State} {a0 : Array Value} (hw : oHw Z a0) : (Jvm.Cond.classLink z3 (56 : Nat) z12).before a0 Z = true := hw _ (List.mem_of_getElem? (i := 227) rfl)
theorem w228 {Z : State} {a0 : Array Value} (hw : oHw Z a0) : (Jvm.Cond.instantiable z12 (1 : Nat)).before a0 Z = true := hw _ (List.mem_of_getElem? (i := 228) rfl)
theorem w229 {Z : State} {a0 : Array Value} (hw : oHw Z a0) : (Jvm.Cond.initialized z12).before a0 Z = true := hw _ (List.mem_of_getElem? (i := 229) rfl)
theorem w230 {Z : State} {a0 : Array Value} (hw : oHw Z a0) : (Jvm.Cond.methodLink z3 (58 : Nat) ({ cls := "java/util/Map", name := "entrySet", desc := "()Ljava/util/Set;" } : Jvm.MethodName)).before a0 Z = true := hw _ (List.mem_of_getElem? (i := 230) rfl)
theorem w231 {Z : State} {a0 : Array Value} (hw : oHw Z a0) : (Jvm.Cond.selects z0 ({ cls := "java/util/Map", name := "entrySet", desc := "()Ljava/util/Set;" } : Jvm.MethodName) ({ cls := z0, name := "entrySet", desc := "()Ljava/util/Set;" } : Jvm.MethodName)).before a0 Z = true := hw _ (List.mem_of_getElem? (i := 231) rfl)
theorem w232 {Z : State} {a0 : Array Value} (hw : oHw Z a0) : (Jvm.Cond.instanceMethod ({ cls := z0, name := "entrySet", desc := "()Ljava/util/Set;" } : Jvm.MethodName)).before a0 Z = true := hw _ (List.mem_of_getElem? (i := 232) rfl)
theorem w233 {Z : State} {a0 : Array Value} (hw : oHw Z a0) : (Jvm.Cond.publicMethod ({ cls := z0, name := "entrySet", desc := "()Ljava/util/Set;" } : Jvm.MethodName)).before a0 Z = true := hw _ (List.mem_of_getElem? (i := 233) rfl)
theorem w234 {Z : State} {a0 : Array Value} (hw : oHw Z a0) : (Jvm.Cond.unhidden z0 "entrySet" "()Ljava/util/Set;").before a0 Z = true := hw _ (List.mem_of_getElem? (i := 234) rfl)
theorem w235 {Z : State} {a0 : Array Value} (hw : oHw Z a0) : (Jvm.Cond.code ({ cls := z0, name := "entrySet", desc := "()Ljava/util/Set;" } : Jvm.MethodName) jdk_94_method_32_code (1 : Nat) (Option.some (Jvm.ClassFile.FieldType.object "java/util/Set"))).before a0 Z = true := hw _ (List.mem_of_getElem? (i := 235) rfl)
theorem w236 {Z : State} {a0 : Array Value} (hw : oHw Z a0) : (Jvm.Cond.methodLink z0 (148 : Nat) ({ cls := z0, name := "sequencedEntrySet", desc := "()Ljava/util/SequencedSet;" } : Jvm.MethodName)).before a0 Z = true := hw _ (List.mem_of_getElem? (i := 236) rfl)
theorem w237 {Z : State} {a0 : Array Value} (hw : oHw Z a0) : (Jvm.Cond.declares ({ cls := z0, name := "sequencedEntrySet", desc := "()Ljava/util/SequencedSet;" } : Jvm.MethodName)).before a0 Z = true := hw _ (List.mem_of_getElem? (i := 237) rfl)
theorem w238 {Z : State} {a0 : Array Value} (hw : oHw Z a0) : (Jvm.Cond.instanceMethod ({ cls := z0, name := "sequencedEntrySet", desc := "()Ljava/util/SequencedSet;" } : Jvm.MethodName)).before a0 Z = true := hw _ (List.mem_of_getElem? (i := 238) rfl)
theorem w239 {Z : State} {a0 : Array Value} (hw : oHw Z a0) : (Jvm.Cond.selects z0 ({ cls := z0, name := "sequencedEntrySet", desc := "()Ljava/util/SequencedSet;" } : Jvm.MethodName) ({ cls := z0, name := "sequencedEntrySet", desc := "()Ljava/util/SequencedSet;" } : Jvm.MethodName)).before a0 Z = true := hw _ (List.mem_of_getElem? (i := 239) rfl)
theorem w240 {Z : State} {a0 : Array Value} (hw : oHw Z a0) : (Jvm.Cond.code ({ cls := z0, name := "sequencedEntrySet", desc := "()Ljava/util/SequencedSet;" } : Jvm.MethodName) jdk_94_method_33_code (3 : Nat) (Option.some (Jvm.ClassFile.FieldType.object "java/util/SequencedSet"))).before a0 Z = true := hw _ (List.mem_of_getElem? (i := 240) rfl)
theorem w241 {Z : State} {a0 : Array Value} (hw : oHw Z a0) : (Jvm.Cond.fieldLink z0 (151 : Nat) z0 "entrySet" z13).before a0 Z = true := hw _ (List.mem_of_getElem? (i := 241) rfl)
theorem w242 {Z : State} {a0 : Array Value} (hw : oHw Z a0) : (Jvm.Cond.sameField z0 z7 "entrySet" z13).before a0 Z = true := hw _ (List.mem_of_getElem? (i := 242) rfl)
theorem w243 {Z : State} {a0 : Array Value} (hw : oHw Z a0) : (Jvm.Cond.lays z0 z7 "entrySet" z13).before a0 Z = true := hw _ (List.mem_of_getElem? (i := 243) rfl)
theorem w244 {Z : State} {a0 : Array Value} (hw : oHw Z a0) : (Jvm.Cond.classLink z0 (154 : Nat) z6).before a0 Z = true := hw _ (List.mem_of_getElem? (i := 244) rfl)
theorem w245 {Z : State} {a0 : Array Value} (hw : oHw Z a0) : (Jvm.Cond.instantiable z6 (2 : Nat)).before a0 Z = true := hw _ (List.mem_of_getElem? (i := 245) rfl)
theorem w246 {Z : State} {a0 : Array Value} (hw : oHw Z a0) : (Jvm.Cond.initialized z6).before a0 Z = true := hw _ (List.mem_of_getElem? (i := 246) rfl)
theorem w247 {Z : State} {a0 : Array Value} (hw : oHw Z a0) : (Jvm.Cond.methodLink z0 (156 : Nat) ({ cls := z6, name := "<init>", desc := z27 } : Jvm.MethodName)).before a0 Z = true := hw _ (List.mem_of_getElem? (i := 247) rfl)
theorem w248 {Z : State} {a0 : Array Value} (hw : oHw Z a0) : (Jvm.Cond.instanceMethod ({ cls := z6, name := "<init>", desc := z27 } : Jvm.MethodName)).before a0 Z = true := hw _ (List.mem_of_getElem? (i := 248) rfl)
theorem w250 {Z : State} {a0 : Array Value} (hw : oHw Z a0) : (Jvm.Cond.code ({ cls := z6, name := "<init>", desc := z27 } : Jvm.MethodName) jdk_113_method_1_code (3 : Nat) (Option.none : Option Jvm.ClassFile.FieldType)).before a0 Z = true := hw _ (List.mem_of_getElem? (i := 250) rfl)
theorem w251 {Z : State} {a0 : Array Value} (hw : oHw Z a0) : (Jvm.Cond.fieldLink z6 (1 : Nat) z6 "this$0" z22).before a0 Z = true := hw _ (List.mem_of_getElem? (i := 251) rfl)
theorem w252 {Z : State} {a0 : Array Value} (hw : oHw Z a0) : (Jvm.Cond.laysFinal z6 z6 "this$0" z22).before a0 Z = true := hw _ (List.mem_of_getElem? (i := 252) rfl)
theorem w253 {Z : State} {a0 : Array Value} (hw : oHw Z a0) : (Jvm.Cond.methodLink z6 (7 : Nat) ({ cls := "java/util/AbstractSet", name := "<init>", desc := "()V" } : Jvm.MethodName)).before a0 Z = true := hw _ (List.mem_of_getElem? (i := 253) rfl)
theorem w254 {Z : State} {a0 : Array Value} (hw : oHw Z a0) : (Jvm.Cond.instanceMethod ({ cls := "java/util/AbstractSet", name := "<init>", desc := "()V" } : Jvm.MethodName)).before a0 Z = true := hw _ (List.mem_of_getElem? (i := 254) rfl)
theorem w257 {Z : State} {a0 : Array Value} (hw : oHw Z a0) : (Jvm.Cond.initialized "java/util/AbstractSet").before a0 Z = true := hw _ (List.mem_of_getElem? (i := 257) rfl)
theorem w258 {Z : State} {a0 : Array Value} (hw : oHw Z a0) : (Jvm.Cond.code ({ cls := "java/util/AbstractSet", name := "<init>", desc := "()V" } : Jvm.MethodName) jdk_91_method_1_code (1 : Nat) (Option.none : Option Jvm.ClassFile.FieldType)).before a0 Z = true := hw _ (List.mem_of_getElem? (i := 258) rfl)
theorem w259 {Z : State} {a0 : Array Value} (hw : oHw Z a0) : (Jvm.Cond.methodLink "java/util/AbstractSet" (1 : Nat) ({ cls := "java/util/AbstractCollection", name := "<init>", desc := "()V" } : Jvm.MethodName)).before a0 Z = true := hw _ (List.mem_of_getElem? (i := 259) rfl)
theorem w261 {Z : State} {a0 : Array Value} (hw : oHw Z a0) : (Jvm.Cond.fieldLink z6 (13 : Nat) z6 "reversed" "Z").before a0 Z = true := hw _ (List.mem_of_getElem? (i := 261) rfl)
theorem w262 {Z : State} {a0 : Array Value} (hw : oHw Z a0) : (Jvm.Cond.laysFinal z6 z6 "reversed" "Z").before a0 Z = true := hw _ (List.mem_of_getElem? (i := 262) rfl)
theorem w263 {Z : State} {a0 : Array Value} (hw : oHw Z a0) : (Jvm.Cond.methodLink z3 (60 : Nat) ({ cls := z12, name := "<init>", desc := "(Ljava/util/Set;)V" } : Jvm.MethodName)).before a0 Z = true := hw _ (List.mem_of_getElem? (i := 263) rfl)
theorem w264 {Z : State} {a0 : Array Value} (hw : oHw Z a0) : (Jvm.Cond.instanceMethod ({ cls := z12, name := "<init>", desc := "(Ljava/util/Set;)V" } : Jvm.MethodName)).before a0 Z = true := hw _ (List.mem_of_getElem? (i := 264) rfl)
theorem w266 {Z : State} {a0 : Array Value} (hw : oHw Z a0) : (Jvm.Cond.code ({ cls := z12, name := "<init>", desc := "(Ljava/util/Set;)V" } : Jvm.MethodName) jdk_2501_method_1_code (2 : Nat) (Option.none : Option Jvm.ClassFile.FieldType)).before a0 Z = true := hw _ (List.mem_of_getElem? (i := 266) rfl)
theorem w267 {Z : State} {a0 : Array Value} (hw : oHw Z a0) : (Jvm.Cond.methodLink z12 (1 : Nat) ({ cls := "java/util/Collections$UnmodifiableSet", name := "<init>", desc := "(Ljava/util/Set;)V" } : Jvm.MethodName)).before a0 Z = true := hw _ (List.mem_of_getElem? (i := 267) rfl)
theorem w268 {Z : State} {a0 : Array Value} (hw : oHw Z a0) : (Jvm.Cond.instanceMethod ({ cls := "java/util/Collections$UnmodifiableSet", name := "<init>", desc := "(Ljava/util/Set;)V" } : Jvm.MethodName)).before a0 Z = true := hw _ (List.mem_of_getElem? (i := 268) rfl)
theorem w271 {Z : State} {a0 : Array Value} (hw : oHw Z a0) : (Jvm.Cond.initialized "java/util/Collections$UnmodifiableSet").before a0 Z = true := hw _ (List.mem_of_getElem? (i := 271) rfl)
theorem w272 {Z : State} {a0 : Array Value} (hw : oHw Z a0) : (Jvm.Cond.code ({ cls := "java/util/Collections$UnmodifiableSet", name := "<init>", desc := "(Ljava/util/Set;)V" } : Jvm.MethodName) jdk_122_method_1_code (2 : Nat) (Option.none : Option Jvm.ClassFile.FieldType)).before a0 Z = true := hw _ (List.mem_of_getElem? (i := 272) rfl)
theorem w273 {Z : State} {a0 : Array Value} (hw : oHw Z a0) : (Jvm.Cond.methodLink "java/util/Collections$UnmodifiableSet" (1 : Nat) ({ cls := z19, name := "<init>", desc := "(Ljava/util/Collection;)V" } : Jvm.MethodName)).before a0 Z = true := hw _ (List.mem_of_getElem? (i := 273) rfl)
theorem w274 {Z : State} {a0 : Array Value} (hw : oHw Z a0) : (Jvm.Cond.instanceMethod ({ cls := z19, name := "<init>", desc := "(Ljava/util/Collection;)V" } : Jvm.MethodName)).before a0 Z = true := hw _ (List.mem_of_getElem? (i := 274) rfl)
theorem w277 {Z : State} {a0 : Array Value} (hw : oHw Z a0) : (Jvm.Cond.initialized z19).before a0 Z = true := hw _ (List.mem_of_getElem? (i := 277) rfl)
theorem w278 {Z : State} {a0 : Array Value} (hw : oHw Z a0) : (Jvm.Cond.code ({ cls := z19, name := "<init>", desc := "(Ljava/util/Collection;)V" } : Jvm.MethodName) jdk_119_method_1_code (2 : Nat) (Option.none : Option Jvm.ClassFile.FieldType)).before a0 Z = true := hw _ (List.mem_of_getElem? (i := 278) rfl)
theorem w279 {Z : State} {a0 : Array Value} (hw : oHw Z a0) : (Jvm.Cond.methodLink z19 (1 : Nat) ({ cls := z18, name := "<init>", desc := "()V" } : Jvm.MethodName)).before a0 Z = true := hw _ (List.mem_of_getElem? (i := 279) rfl)
theorem w280 {Z : State} {a0 : Array Value} (hw : oHw Z a0) : (Jvm.Cond.fieldLink z19 (10 : Nat) z19 "c" z25).before a0 Z = true := hw _ (List.mem_of_getElem? (i := 280) rfl)
theorem w281 {Z : State} {a0 : Array Value} (hw : oHw Z a0) : (Jvm.Cond.laysFinal z12 z19 "c" z25).before a0 Z = true := hw _ (List.mem_of_getElem? (i := 281) rfl)
theorem w282 {Z : State} {a0 : Array Value} (hw : oHw Z a0) : (Jvm.Cond.methodLink z5 (85 : Nat) ({ cls := "java/util/Set", name := "iterator", desc := z16 } : Jvm.MethodName)).before a0 Z = true := hw _ (List.mem_of_getElem? (i := 282) rfl)
theorem w283 {Z : State} {a0 : Array Value} (hw : oHw Z a0) : (Jvm.Cond.declares ({ cls := "java/util/Set", name := "iterator", desc := z16 } : Jvm.MethodName)).before a0 Z = true := hw _ (List.mem_of_getElem? (i := 283) rfl)
theorem w284 {Z : State} {a0 : Array Value} (hw : oHw Z a0) : (Jvm.Cond.interfaceMethod "java/util/Set" "java/util/Set" "iterator" z16).before a0 Z = true := hw _ (List.mem_of_getElem? (i := 284) rfl)
theorem w285 {Z : State} {a0 : Array Value} (hw : oHw Z a0) : (Jvm.Cond.selects z12 ({ cls := "java/util/Set", name := "iterator", desc := z16 } : Jvm.MethodName) ({ cls := z12, name := "iterator", desc := z16 } : Jvm.MethodName)).before a0 Z = true := hw _ (List.mem_of_getElem? (i := 285) rfl)
theorem w286 {Z : State} {a0 : Array Value} (hw : oHw Z a0) : (Jvm.Cond.instanceMethod ({ cls := z12, name := "iterator", desc := z16 } : Jvm.MethodName)).before a0 Z = true := hw _ (List.mem_of_getElem? (i := 286) rfl)
theorem w287 {Z : State} {a0 : Array Value} (hw : oHw Z a0) : (Jvm.Cond.publicMethod ({ cls := z12, name := "iterator", desc := z16 } : Jvm.MethodName)).before a0 Z = true := hw _ (List.mem_of_getElem? (i := 287) rfl)
theorem w288 {Z : State} {a0 : Array Value} (hw : oHw Z a0) : (Jvm.Cond.unhidden z12 "iterator" z16).before a0 Z = true := hw _ (List.mem_of_getElem? (i := 288) rfl)
theorem w289 {Z : State} {a0 : Array Value} (hw : oHw Z a0) : (Jvm.Cond.castable z12 "java/util/Set").before a0 Z = true := hw _ (List.mem_of_getElem? (i := 289) rfl)
theorem w290 {Z : State} {a0 : Array Value} (hw : oHw Z a0) : (Jvm.Cond.code ({ cls := z12, name := "iterator", desc := z16 } : Jvm.MethodName) jdk_2501_method_7_code (1 : Nat) (Option.some (Jvm.ClassFile.FieldType.object z21))).before a0 Z = true := hw _ (List.mem_of_getElem? (i := 290) rfl)
theorem w291 {Z : State} {a0 : Array Value} (hw : oHw Z a0) : (Jvm.Cond.classLink z12 (48 : Nat) z15).before a0 Z = true := hw _ (List.mem_of_getElem? (i := 291) rfl)
theorem w292 {Z : State} {a0 : Array Value} (hw : oHw Z a0) : (Jvm.Cond.instantiable z15 (2 : Nat)).before a0 Z = true := hw _ (List.mem_of_getElem? (i := 292) rfl)
theorem w293 {Z : State} {a0 : Array Value} (hw : oHw Z a0) : (Jvm.Cond.initialized z15).before a0 Z = true := hw _ (List.mem_of_getElem? (i := 293) rfl)
theorem w294 {Z : State} {a0 : Array Value} (hw : oHw Z a0) : (Jvm.Cond.methodLink z12 (50 : Nat) ({ cls := z15, name := "<init>", desc := "(Ljava/util/Collections$UnmodifiableMap$UnmodifiableEntrySet;)V" } : Jvm.MethodName)).before a0 Z = true := hw _ (List.mem_of_getElem? (i := 294) rfl)
theorem w295 {Z : State} {a0 : Array Value} (hw : oHw Z a0) : (Jvm.Cond.instanceMethod ({ cls := z15, name := "<init>", desc := "(Ljava/util/Collections$UnmodifiableMap$UnmodifiableEntrySet;)V" } : Jvm.MethodName)).before a0 Z = true := hw _ (List.mem_of_getElem? (i := 295) rfl)
theorem w297 {Z : State} {a0 : Array Value} (hw : oHw Z a0) : (Jvm.Cond.code ({ cls := z15, name := "<init>", desc := "(Ljava/util/Collections$UnmodifiableMap$UnmodifiableEntrySet;)V" } : Jvm.MethodName) jdk_2502_method_1_code (2 : Nat) (Option.none : Option Jvm.ClassFile.FieldType)).before a0 Z = true := hw _ (List.mem_of_getElem? (i := 297) rfl)
theorem w298 {Z : State} {a0 : Array Value} (hw : oHw Z a0) : (Jvm.Cond.fieldLink z15 (1 : Nat) z15 "this$0" "Ljava/util/Collections$UnmodifiableMap$UnmodifiableEntrySet;").before a0 Z = true := hw _ (List.mem_of_getElem? (i := 298) rfl)
theorem w299 {Z : State} {a0 : Array Value} (hw : oHw Z a0) : (Jvm.Cond.laysFinal z15 z15 "this$0" "Ljava/util/Collections$UnmodifiableMap$UnmodifiableEntrySet;").before a0 Z = true := hw _ (List.mem_of_getElem? (i := 299) rfl)
theorem w300 {Z : State} {a0 : Array Value} (hw : oHw Z a0) : (Jvm.Cond.methodLink z15 (7 : Nat) ({ cls := z18, name := "<init>", desc := "()V" } : Jvm.MethodName)).before a0 Z = true := hw _ (List.mem_of_getElem? (i := 300) rfl)
theorem w301 {Z : State} {a0 : Array Value} (hw : oHw Z a0) : (Jvm.Cond.fieldLink z15 (13 : Nat) z12 "c" z25).before a0 Z = true := hw _ (List.mem_of_getElem? (i := 301) rfl)
theorem w302 {Z : State} {a0 : Array Value} (hw : oHw Z a0) : (Jvm.Cond.sameField z12 z19 "c" z25).before a0 Z = true := hw _ (List.mem_of_getElem? (i := 302) rfl)
theorem w303 {Z : State} {a0 : Array Value} (hw : oHw Z a0) : (Jvm.Cond.methodLink z15 (19 : Nat) ({ cls := "java/util/Collection", name := "iterator", desc := z16 } : Jvm.MethodName)).before a0 Z = true := hw _ (List.mem_of_getElem? (i := 303) rfl)
theorem w304 {Z : State} {a0 : Array Value} (hw : oHw Z a0) : (Jvm.Cond.declares ({ cls := "java/util/Collection", name := "iterator", desc := z16 } : Jvm.MethodName)).before a0 Z = true := hw _ (List.mem_of_getElem? (i := 304) rfl)
theorem w305 {Z : State} {a0 : Array Value} (hw : oHw Z a0) : (Jvm.Cond.interfaceMethod "java/util/Collection" "java/util/Collection" "iterator" z16).before a0 Z = true := hw _ (List.mem_of_getElem? (i := 305) rfl)
theorem w306 {Z : State} {a0 : Array Value} (hw : oHw Z a0) : (Jvm.Cond.selects z6 ({ cls := "java/util/Collection", name := "iterator", desc := z16 } : Jvm.MethodName) ({ cls := z6, name := "iterator", desc := z16 } : Jvm.MethodName)).before a0 Z = true := hw _ (List.mem_of_getElem? (i := 306) rfl)
theorem w307 {Z : State} {a0 : Array Value} (hw : oHw Z a0) : (Jvm.Cond.instanceMethod ({ cls := z6, name := "iterator", desc := z16 } : Jvm.MethodName)).before a0 Z = true := hw _ (List.mem_of_getElem? (i := 307) rfl)
theorem w308 {Z : State} {a0 : Array Value} (hw : oHw Z a0) : (Jvm.Cond.publicMethod ({ cls := z6, name := "iterator", desc := z16 } : Jvm.MethodName)).before a0 Z = true := hw _ (List.mem_of_getElem? (i := 308) rfl)
theorem w309 {Z : State} {a0 : Array Value} (hw : oHw Z a0) : (Jvm.Cond.unhidden z6 "iterator" z16).before a0 Z = true := hw _ (List.mem_of_getElem? (i := 309) rfl)
theorem w310 {Z : State} {a0 : Array Value} (hw : oHw Z a0) : (Jvm.Cond.castable z6 "java/util/Collection").before a0 Z = true := hw _ (List.mem_of_getElem? (i := 310) rfl)
theorem w311 {Z : State} {a0 : Array Value} (hw : oHw Z a0) : (Jvm.Cond.code ({ cls := z6, name := "iterator", desc := z16 } : Jvm.MethodName) jdk_113_method_4_code (1 : Nat) (Option.some (Jvm.ClassFile.FieldType.object z21))).before a0 Z = true := hw _ (List.mem_of_getElem? (i := 311) rfl)
theorem w312 {Z : State} {a0 : Array Value} (hw : oHw Z a0) : (Jvm.Cond.classLink z6 (26 : Nat) z23).before a0 Z = true := hw _ (List.mem_of_getElem? (i := 312) rfl)
theorem w313 {Z : State} {a0 : Array Value} (hw : oHw Z a0) : (Jvm.Cond.instantiable z23 (5 : Nat)).before a0 Z = true := hw _ (List.mem_of_getElem? (i := 313) rfl)
theorem w314 {Z : State} {a0 : Array Value} (hw : oHw Z a0) : (Jvm.Cond.initialized z23).before a0 Z = true := hw _ (List.mem_of_getElem? (i := 314) rfl)
theorem w315 {Z : State} {a0 : Array Value} (hw : oHw Z a0) : (Jvm.Cond.methodLink z6 (28 : Nat) ({ cls := z23, name := "<init>", desc := z27 } : Jvm.MethodName)).before a0 Z = true := hw _ (List.mem_of_getElem? (i := 315) rfl)
theorem w316 {Z : State} {a0 : Array Value} (hw : oHw Z a0) : (Jvm.Cond.instanceMethod ({ cls := z23, name := "<init>", desc := z27 } : Jvm.MethodName)).before a0 Z = true := hw _ (List.mem_of_getElem? (i := 316) rfl)
theorem w318 {Z : State} {a0 : Array Value} (hw : oHw Z a0) : (Jvm.Cond.code ({ cls := z23, name := "<init>", desc := z27 } : Jvm.MethodName) jdk_2615_method_1_code (3 : Nat) (Option.none : Option Jvm.ClassFile.FieldType)).before a0 Z = true := hw _ (List.mem_of_getElem? (i := 318) rfl)
theorem w319 {Z : State} {a0 : Array Value} (hw : oHw Z a0) : (Jvm.Cond.methodLink z23 (1 : Nat) ({ cls := z9, name := "<init>", desc := z27 } : Jvm.MethodName)).before a0 Z = true := hw _ (List.mem_of_getElem? (i := 319) rfl)
theorem w320 {Z : State} {a0 : Array Value} (hw : oHw Z a0) : (Jvm.Cond.instanceMethod ({ cls := z9, name := "<init>", desc := z27 } : Jvm.MethodName)).before a0 Z = true := hw _ (List.mem_of_getElem? (i := 320) rfl)
theorem w323 {Z : State} {a0 : Array Value} (hw : oHw Z a0) : (Jvm.Cond.initialized z9).before a0 Z = true := hw _ (List.mem_of_getElem? (i := 323) rfl)
theorem w324 {Z : State} {a0 : Array Value} (hw : oHw Z a0) : (Jvm.Cond.code ({ cls := z9, name := "<init>", desc := z27 } : Jvm.MethodName) jdk_2616_method_1_code (3 : Nat) (Option.none : Option Jvm.ClassFile.FieldType)).before a0 Z = true := hw _ (List.mem_of_getElem? (i := 324) rfl)
theorem w325 {Z : State} {a0 : Array Value} (hw : oHw Z a0) : (Jvm.Cond.fieldLink z9 (1 : Nat) z9 "this$0" z22).before a0 Z = true := hw _ (List.mem_of_getElem? (i := 325) rfl)
theorem w326 {Z : State} {a0 : Array Value} (hw : oHw Z a0) : (Jvm.Cond.laysFinal z23 z9 "this$0" z22).before a0 Z = true := hw _ (List.mem_of_getElem? (i := 326) rfl)
theorem w327 {Z : State} {a0 : Array Value} (hw : oHw Z a0) : (Jvm.Cond.methodLink z9 (7 : Nat) ({ cls := z18, name := "<init>", desc := "()V" } : Jvm.MethodName)).before a0 Z = true := hw _ (List.mem_of_getElem? (i := 327) rfl)
theorem w328 {Z : State} {a0 : Array Value} (hw : oHw Z a0) : (Jvm.Cond.fieldLink z9 (13 : Nat) z9 "reversed" "Z").before a0 Z = true := hw _ (List.mem_of_getElem? (i := 328) rfl)
theorem w329 {Z : State} {a0 : Array Value} (hw : oHw Z a0) : (Jvm.Cond.lays z23 z9 "reversed" "Z").before a0 Z = true := hw _ (List.mem_of_getElem? (i := 329) rfl)
theorem w330 {Z : State} {a0 : Array Value} (hw : oHw Z a0) : (Jvm.Cond.fieldLink z9 (23 : Nat) z0 "head" z11).before a0 Z = true := hw _ (List.mem_of_getElem? (i := 330) rfl)
theorem w331 {Z : State} {a0 : Array Value} (hw : oHw Z a0) : (Jvm.Cond.lays z0 z0 "head" z11).before a0 Z = true := hw _ (List.mem_of_getElem? (i := 331) rfl)
theorem w332 {Z : State} {a0 : Array Value} (hw : oHw Z a0) : (Jvm.Cond.fieldLink z9 (26 : Nat) z9 "next" z11).before a0 Z = true := hw _ (List.mem_of_getElem? (i := 332) rfl)
theorem w333 {Z : State} {a0 : Array Value} (hw : oHw Z a0) : (Jvm.Cond.lays z23 z9 "next" z11).before a0 Z = true := hw _ (List.mem_of_getElem? (i := 333) rfl)
theorem w334 {Z : State} {a0 : Array Value} (hw : oHw Z a0) : (Jvm.Cond.fieldLink z9 (29 : Nat) z0 "modCount" "I").before a0 Z = true := hw _ (List.mem_of_getElem? (i := 334) rfl)
theorem w335 {Z : State} {a0 : Array Value} (hw : oHw Z a0) : (Jvm.Cond.sameField z0 z7 "modCount" "I").before a0 Z = true := hw _ (List.mem_of_getElem? (i := 335) rfl)
theorem w336 {Z : State} {a0 : Array Value} (hw : oHw Z a0) : (Jvm.Cond.lays z0 z7 "modCount" "I").before a0 Z = true := hw _ (List.mem_of_getElem? (i := 336) rfl)
theorem w337 {Z : State} {a0 : Array Value} (hw : oHw Z a0) : (Jvm.Cond.fieldLink z9 (33 : Nat) z9 "expectedModCount" "I").before a0 Z = true := hw _ (List.mem_of_getElem? (i := 337) rfl)
theorem w338 {Z : State} {a0 : Array Value} (hw : oHw Z a0) : (Jvm.Cond.lays z23 z9 "expectedModCount" "I").before a0 Z = true := hw _ (List.mem_of_getElem? (i := 338) rfl)
theorem w339 {Z : State} {a0 : Array Value} (hw : oHw Z a0) : (Jvm.Cond.fieldLink z9 (36 : Nat) z9 "current" z11).before a0 Z = true := hw _ (List.mem_of_getElem? (i := 339) rfl)
theorem w340 {Z : State} {a0 : Array Value} (hw : oHw Z a0) : (Jvm.Cond.lays z23 z9 "current" z11).before a0 Z = true := hw _ (List.mem_of_getElem? (i := 340) rfl)
theorem w341 {Z : State} {a0 : Array Value} (hw : oHw Z a0) : (Jvm.Cond.fieldLink z15 (25 : Nat) z15 "i" "Ljava/util/Iterator;").before a0 Z = true := hw _ (List.mem_of_getElem? (i := 341) rfl)
theorem w342 {Z : State} {a0 : Array Value} (hw : oHw Z a0) : (Jvm.Cond.laysFinal z15 z15 "i" "Ljava/util/Iterator;").before a0 Z = true := hw _ (List.mem_of_getElem? (i := 342) rfl)
theorem w343 {Z : State} {a0 : Array Value} (hw : oHw Z a0) : (Jvm.Cond.selects z15 ({ cls := z21, name := "hasNext", desc := "()Z" } : Jvm.MethodName) ({ cls := z15, name := "hasNext", desc := "()Z" } : Jvm.MethodName)).before a0 Z = true := hw _ (List.mem_of_getElem? (i := 343) rfl)
theorem w344 {Z : State} {a0 : Array Value} (hw : oHw Z a0) : (Jvm.Cond.instanceMethod ({ cls := z15, name := "hasNext", desc := "()Z" } : Jvm.MethodName)).before a0 Z = true := hw _ (List.mem_of_getElem? (i := 344) rfl)
theorem w345 {Z : State} {a0 : Array Value} (hw : oHw Z a0) : (Jvm.Cond.publicMethod ({ cls := z15, name := "hasNext", desc := "()Z" } : Jvm.MethodName)).before a0 Z = true := hw _ (List.mem_of_getElem? (i := 345) rfl)
theorem w346 {Z : State} {a0 : Array Value} (hw : oHw Z a0) : (Jvm.Cond.unhidden z15 "hasNext" "()Z").before a0 Z = true := hw _ (List.mem_of_getElem? (i := 346) rfl)
theorem w347 {Z : State} {a0 : Array Value} (hw : oHw Z a0) : (Jvm.Cond.castable z15 z21).before a0 Z = true := hw _ (List.mem_of_getElem? (i := 347) rfl)
theorem w348 {Z : State} {a0 : Array Value} (hw : oHw Z a0) : (Jvm.Cond.code ({ cls := z15, name := "hasNext", desc := "()Z" } : Jvm.MethodName) jdk_2502_method_2_code (1 : Nat) (Option.some Jvm.ClassFile.FieldType.boolean)).before a0 Z = true := hw _ (List.mem_of_getElem? (i := 348) rfl)
theorem w349 {Z : State} {a0 : Array Value} (hw : oHw Z a0) : (Jvm.Cond.methodLink z15 (29 : Nat) ({ cls := z21, name := "hasNext", desc := "()Z" } : Jvm.MethodName)).before a0 Z = true := hw _ (List.mem_of_getElem? (i := 349) rfl)
theorem w350 {Z : State} {a0 : Array Value} (hw : oHw Z a0) : (Jvm.Cond.selects z23 ({ cls := z21, name := "hasNext", desc := "()Z" } : Jvm.MethodName) ({ cls := z9, name := "hasNext", desc := "()Z" } : Jvm.MethodName)).before a0 Z = true := hw _ (List.mem_of_getElem? (i := 350) rfl)
theorem w351 {Z : State} {a0 : Array Value} (hw : oHw Z a0) : (Jvm.Cond.instanceMethod ({ cls := z9, name := "hasNext", desc := "()Z" } : Jvm.MethodName)).before a0 Z = true := hw _ (List.mem_of_getElem? (i := 351) rfl)
theorem w352 {Z : State} {a0 : Array Value} (hw : oHw Z a0) : (Jvm.Cond.publicMethod ({ cls := z9, name := "hasNext", desc := "()Z" } : Jvm.MethodName)).before a0 Z = true := hw _ (List.mem_of_getElem? (i := 352) rfl)
theorem w353 {Z : State} {a0 : Array Value} (hw : oHw Z a0) : (Jvm.Cond.unhidden z23 "hasNext" "()Z").before a0 Z = true := hw _ (List.mem_of_getElem? (i := 353) rfl)
theorem w354 {Z : State} {a0 : Array Value} (hw : oHw Z a0) : (Jvm.Cond.castable z23 z21).before a0 Z = true := hw _ (List.mem_of_getElem? (i := 354) rfl)
theorem w355 {Z : State} {a0 : Array Value} (hw : oHw Z a0) : (Jvm.Cond.code ({ cls := z9, name := "hasNext", desc := "()Z" } : Jvm.MethodName) jdk_2616_method_2_code (1 : Nat) (Option.some Jvm.ClassFile.FieldType.boolean)).before a0 Z = true := hw _ (List.mem_of_getElem? (i := 355) rfl)
theorem w356 {Z : State} {a0 : Array Value} (hw : oHw Z a0) : (Jvm.Cond.fieldLink z4 (1 : Nat) z4 "EMPTY" "Ljava/util/Optional;").before a0 Z = true := hw _ (List.mem_of_getElem? (i := 356) rfl)
theorem oSA {Z : State} {a0 : Array Value} (hw : oHw Z a0) : ∀ a ∈ Bundle.stringAtoms, a.before a0 Z = true := by
  intro a ha
  simp only [Bundle.stringAtoms, List.mem_cons, List.not_mem_nil, or_false] at ha
  rcases ha with rfl | rfl | rfl | rfl | rfl | rfl | rfl
  · exact w1 hw
  · exact w2 hw
  · exact w3 hw
  · exact w4 hw
  · exact w5 hw
  · exact w6 hw
  · exact w7 hw
theorem d0_0 : decode prog_35_method_1_code 0 = .ok (.aload_n 0, 1) := by decide +kernel
theorem d0_1 : decode prog_35_method_1_code 1 = .ok (.invokespecial 1, 3) := by decide +kernel
theorem d0_4 : decode prog_35_method_1_code 4 = .ok (.aload_n 0, 1) := by decide +kernel
theorem d0_5 : decode prog_35_method_1_code 5 = .ok (.aload_n 1, 1) := by decide +kernel
theorem d0_6 : decode prog_35_method_1_code 6 = .ok (.putfield 7, 3) := by decide +kernel
theorem d0_9 : decode prog_35_method_1_code 9 = .ok (.aload_n 0, 1) := by decide +kernel
theorem d0_10 : decode prog_35_method_1_code 10 = .ok (.aload_n 2, 1) := by decide +kernel
theorem d0_11 : decode prog_35_method_1_code 11 = .ok (.putfield 13, 3) := by decide +kernel
theorem d0_14 : decode prog_35_method_1_code 14 = .ok (.aload_n 0, 1) := by decide +kernel
theorem d0_15 : decode prog_35_method_1_code 15 = .ok (.aload_n 3, 1) := by decide +kernel
theorem d0_16 : decode prog_35_method_1_code 16 = .ok (.putfield 17, 3) := by decide +kernel
theorem d0_19 : decode prog_35_method_1_code 19 = .ok (.return_, 1) := by decide +kernel
def r_ccinit : Room := { frames := 1, cells := 0, slots := 0, locals := 12 }
def Q_ccinit (Z : State) (a : Addr) (n x y : Value) (h0 : Heap) (v : Option Value) (h : Heap) : Prop := v = none ∧ Keep h0 h [a] ∧ Exa Z h a z2 ∧ Fld Z h a z2 "name" "Ljava/lang/String;" n ∧ Fld Z h a z2 "report" z20 x ∧ Fld Z h a z2 "reason" "Ljava/lang/String;" y
theorem rm_ccinit (l : Launch) (Z : State) (a0 : Array Value) (hw : oHw Z a0) (a : Addr) (n x y : Value) (h0 : Heap) (q0 : Exa Z h0 a z2) (q1 : Z.heap.size ≤ a) (q2 : Fld Z h0 a z2 "name" "Ljava/lang/String;" .null) (q3 : Fld Z h0 a z2 "report" z20 .null) (q4 : Fld Z h0 a z2 "reason" "Ljava/lang/String;" .null) (q5 : n.isRef = true) (q6 : x.isRef = true) (q7 : y.isRef = true) : oMet l Z (⟨z2, "<init>", z30⟩ : MethodName) prog_35_method_1_code 4 none r_ccinit [] #[.ref a, n, x, y] h0 (Q_ccinit Z a n x y h0) := by
 refine oEnter (plainFor_of_name (by first | (simp [plainName, overriddenIn]; done) | decide +kernel)) (own := z2) (nm := "<init>") rfl rfl (L := #[.val (.ref a), .val n, .val x, .val y]) (fun m => by first | (simp [entryFrame, mkF, argsToLocals, oCat1, oCat2, oCat3, oCat4, oCatRef q5, oCatRef q6, oCatRef q7]; done) | rfl) ?_
 intro pp ee ss mm bb mtd cc T0 K X0
 have E0 := X0.ext0
 refine o_aloadN K X0 d0_0 rfl rfl rfl ?_
 refine o_initObj K X0 (w18 hw) (w19 hw) (w20 hw) d0_1 rfl rfl (by decide) (W := 0) rfl (by decide) ?_
 intro T1 X1
 refine o_aloadN K X1 d0_4 rfl rfl rfl ?_
 refine o_aloadN K X1 d0_5 rfl rfl q5 ?_
 refine o_putfield K X1 (host := "") (Or.inl (w21 hw)) Via.refl q2 q0 (Or.inr ⟨(w22 hw), rfl, rfl⟩) (w14 hw) (ty := (.object "java/lang/String")) (by decide) (oNarRef rfl q5) (oFitRef rfl q5) q1 d0_6 rfl ?_
 intro T2 h2 X2 W2
 have F2 := Fld.same W2 q2
 refine o_aloadN K X2 d0_9 rfl rfl rfl ?_
 refine o_aloadN K X2 d0_10 rfl rfl q6 ?_
 have m4 := (Fld.other W2 q3 (Or.inr (slot_ne (Or.inr (w24 hw)) (Or.inr (w22 hw)) (by decide) (t := (.object z5)) (t' := (.object "java/lang/String")) (by decide) (by decide))))
 have m5 := (Exa.wr W2 q0)
 refine o_putfield K X2 (host := "") (Or.inl (w23 hw)) Via.refl m4 m5 (Or.inr ⟨(w24 hw), rfl, rfl⟩) (w14 hw) (ty := (.object z5)) (by decide) (oNarRef rfl q6) (oFitRef rfl q6) q1 d0_11 rfl ?_
 intro T3 h3 X3 W3
 have F3 := Fld.same W3 m4
 refine o_aloadN K X3 d0_14 rfl rfl rfl ?_
 refine o_aloadN K X3 d0_15 rfl rfl q7 ?_
 have m7 := (Fld.other W3 (Fld.other W2 q4 (Or.inr (slot_ne (Or.inr (w26 hw)) (Or.inr (w22 hw)) (by decide) (t := (.object "java/lang/String")) (t' := (.object "java/lang/String")) (by decide) (by decide)))) (Or.inr (slot_ne (Or.inr (w26 hw)) (Or.inr (w24 hw)) (by decide) (t := (.object "java/lang/String")) (t' := (.object z5)) (by decide) (by decide))))
 have m8 := (Exa.wr W3 m5)
 refine o_putfield K X3 (host := "") (Or.inl (w25 hw)) Via.refl m7 m8 (Or.inr ⟨(w26 hw), rfl, rfl⟩) (w14 hw) (ty := (.object "java/lang/String")) (by decide) (oNarRef rfl q7) (oFitRef rfl q7) q1 d0_16 rfl ?_
 intro T6 h6 X6 W6
 have F6 := Fld.same W6 m7
 refine o_return K X6 d0_19 rfl ?_ (by decide) (by decide)
 have m9 := (Exa.wr W6 m8)
 have m10 := (Fld.other W6 (Fld.other W3 F2 (Or.inr (slot_ne (Or.inr (w22 hw)) (Or.inr (w24 hw)) (by decide) (t := (.object "java/lang/String")) (t' := (.object z5)) (by decide) (by decide)))) (Or.inr (slot_ne (Or.inr (w22 hw)) (Or.inr (w26 hw)) (by decide) (t := (.object "java/lang/String")) (t' := (.object "java/lang/String")) (by decide) (by decide))))
 have m11 := (Fld.other W6 F3 (Or.inr (slot_ne (Or.inr (w24 hw)) (Or.inr (w26 hw)) (by decide) (t := (.object z5)) (t' := (.object "java/lang/String")) (by decide) (by decide))))
 exact ⟨rfl, ((((Keep.refl h0 [a]).wr W2 (Or.inl me0)).wr W3 (Or.inl me0)).wr W6 (Or.inl me0)), m9, m10, m11, F6⟩
theorem d1_0 : decode prog_35_method_3_code 0 = .ok (.new 8, 3) := by decide +kernel
theorem d1_3 : decode prog_35_method_3_code 3 = .ok (.dup, 1) := by decide +kernel
theorem d1_4 : decode prog_35_method_3_code 4 = .ok (.aload_n 0, 1) := by decide +kernel
theorem d1_5 : decode prog_35_method_3_code 5 = .ok (.aconst_null, 1) := by decide +kernel
theorem d1_6 : decode prog_35_method_3_code 6 = .ok (.aload_n 1, 1) := by decide +kernel
theorem d1_7 : decode prog_35_method_3_code 7 = .ok (.invokespecial 20, 3) := by decide +kernel
theorem d1_10 : decode prog_35_method_3_code 10 = .ok (.areturn, 1) := by decide +kernel
theorem pd0 : parseMethodDescriptor z30 = some ⟨[(.object "java/lang/String"), (.object z5), (.object "java/lang/String")], none⟩ := by decide +kernel
def r_unus : Room := { frames := 2, cells := 1, slots := 3, locals := 28 }
def Q_unus (Z : State) (n y : Addr) (h0 : Heap) (v : Option Value) (h : Heap) : Prop := ∃ r : Addr, v = some (.ref r) ∧ Keep h0 h [] ∧ h0.size ≤ r ∧ Exa Z h r z2 ∧ Fld Z h r z2 "report" z20 .null
theorem rm_unus (l : Launch) (Z : State) (a0 : Array Value) (hw : oHw Z a0) (n y : Addr) (h0 : Heap) : oMet l Z (⟨z2, "unusable", z31⟩ : MethodName) prog_35_method_3_code 2 (some (.object z2)) r_unus [] #[.ref n, .ref y] h0 (Q_unus Z n y h0) := by
 refine oEnter (plainFor_of_name (by first | (simp [plainName, overriddenIn]; done) | decide +kernel)) (own := z2) (nm := "unusable") rfl rfl (L := #[.val (.ref n), .val (.ref y)]) (fun m => by first | (simp [entryFrame, mkF, argsToLocals, Value.category]; done) | rfl) ?_
 intro pp ee ss mm bb mtd cc T0 K X0
 have E0 := X0.ext0
 refine o_new K X0 (w13 hw) (w14 hw) (w11 hw) d1_0 rfl (by decide) (by decide) ?_
 intro T1 h1 b1 X1 g1 E1 A1 D1 G1
 have F1_name : Fld Z h1 b1 z2 "name" "Ljava/lang/String;" .null := (D1 (Or.inr (w22 hw)) (ty := (.object "java/lang/String")) (by decide))
 have F1_report : Fld Z h1 b1 z2 "report" z20 .null := (D1 (Or.inr (w24 hw)) (ty := (.object z5)) (by decide))
 have F1_reason : Fld Z h1 b1 z2 "reason" "Ljava/lang/String;" .null := (D1 (Or.inr (w26 hw)) (ty := (.object "java/lang/String")) (by decide))
 refine o_dup K X1 d1_3 rfl rfl ?_
 refine o_aloadN K X1 d1_4 rfl rfl rfl ?_
 refine o_aconst_null K X1 d1_5 rfl ?_
 refine o_aloadN K X1 d1_6 rfl rfl rfl ?_
 refine o_special K X1 (y := (⟨z2, "<init>", z30⟩ : MethodName)) rfl (w15 hw) (w16 hw) (w11 hw) (w17 hw) (by decide) (rm_ccinit l Z a0 hw b1 (.ref n) .null (.ref y) h1 A1 G1 F1_name F1_report F1_reason rfl rfl rfl) (by decide) rfl (argsL := [.ref n, .null, .ref y]) rfl (lenOf pd0 rfl) (W := 1) rfl (by decide) (by decide) (by decide) d1_7 rfl ?_
 intro v2 T2 h2 X2 U2
 obtain ⟨rfl, u2_0, u2_1, u2_2, u2_3, u2_4⟩ := U2
 show oGoes pp ee bb ss Z T2 (mkF mm 10 _ [.ref b1]) _ _ _
 refine o_areturn K X2 (t := (.object z2)) d1_10 rfl rfl rfl ?_ (by decide) (by decide)
 exact ⟨b1, rfl, (((Keep.refl h0 []).ext E1).trans u2_0 (allS (Or.inr (oLe g1)) all0)), (oLe g1), u2_1, u2_3⟩
theorem d2_0 : decode prog_35_method_2_code 0 = .ok (.new 8, 3) := by decide +kernel
theorem d2_3 : decode prog_35_method_2_code 3 = .ok (.dup, 1) := by decide +kernel
theorem d2_4 : decode prog_35_method_2_code 4 = .ok (.aload_n 0, 1) := by decide +kernel
theorem d2_5 : decode prog_35_method_2_code 5 = .ok (.aload_n 1, 1) := by decide +kernel
theorem d2_6 : decode prog_35_method_2_code 6 = .ok (.aconst_null, 1) := by decide +kernel
theorem d2_7 : decode prog_35_method_2_code 7 = .ok (.invokespecial 20, 3) := by decide +kernel
theorem d2_10 : decode prog_35_method_2_code 10 = .ok (.areturn, 1) := by decide +kernel
def r_judgd : Room := { frames := 2, cells := 1, slots := 3, locals := 28 }
def Q_judgd (Z : State) (n x : Addr) (h0 : Heap) (v : Option Value) (h : Heap) : Prop := ∃ r : Addr, v = some (.ref r) ∧ Keep h0 h [] ∧ h0.size ≤ r ∧ Exa Z h r z2 ∧ Fld Z h r z2 "report" z20 (.ref x)
theorem rm_judgd (l : Launch) (Z : State) (a0 : Array Value) (hw : oHw Z a0) (n x : Addr) (h0 : Heap) : oMet l Z (⟨z2, "judged", z33⟩ : MethodName) prog_35_method_2_code 2 (some (.object z2)) r_judgd [] #[.ref n, .ref x] h0 (Q_judgd Z n x h0) := by
 refine oEnter (plainFor_of_name (by first | (simp [plainName, overriddenIn]; done) | decide +kernel)) (own := z2) (nm := "judged") rfl rfl (L := #[.val (.ref n), .val (.ref x)]) (fun m => by first | (simp [entryFrame, mkF, argsToLocals, Value.category]; done) | rfl) ?_
 intro pp ee ss mm bb mtd cc T0 K X0
 have E0 := X0.ext0
 refine o_new K X0 (w13 hw) (w14 hw) (w11 hw) d2_0 rfl (by decide) (by decide) ?_
 intro T1 h1 b1 X1 g1 E1 A1 D1 G1
 have F1_name : Fld Z h1 b1 z2 "name" "Ljava/lang/String;" .null := (D1 (Or.inr (w22 hw)) (ty := (.object "java/lang/String")) (by decide))
 have F1_report : Fld Z h1 b1 z2 "report" z20 .null := (D1 (Or.inr (w24 hw)) (ty := (.object z5)) (by decide))
 have F1_reason : Fld Z h1 b1 z2 "reason" "Ljava/lang/String;" .null := (D1 (Or.inr (w26 hw)) (ty := (.object "java/lang/String")) (by decide))
 refine o_dup K X1 d2_3 rfl rfl ?_
 refine o_aloadN K X1 d2_4 rfl rfl rfl ?_
 refine o_aloadN K X1 d2_5 rfl rfl rfl ?_
 refine o_aconst_null K X1 d2_6 rfl ?_
 refine o_special K X1 (y := (⟨z2, "<init>", z30⟩ : MethodName)) rfl (w15 hw) (w16 hw) (w11 hw) (w17 hw) (by decide) (rm_ccinit l Z a0 hw b1 (.ref n) (.ref x) .null h1 A1 G1 F1_name F1_report F1_reason rfl rfl rfl) (by decide) rfl (argsL := [.ref n, .ref x, .null]) rfl (lenOf pd0 rfl) (W := 1) rfl (by decide) (by decide) (by decide) d2_7 rfl ?_
 intro v2 T2 h2 X2 U2
 obtain ⟨rfl, u2_0, u2_1, u2_2, u2_3, u2_4⟩ := U2
 show oGoes pp ee bb ss Z T2 (mkF mm 10 _ [.ref b1]) _ _ _
 refine o_areturn K X2 (t := (.object z2)) d2_10 rfl rfl rfl ?_ (by decide) (by decide)
 exact ⟨b1, rfl, (((Keep.refl h0 []).ext E1).trans u2_0 (allS (Or.inr (oLe g1)) all0)), (oLe g1), u2_1, u2_3⟩
theorem d3_0 : decode jdk_22_method_1_code 0 = .ok (.aload_n 0, 1) := by decide +kernel
theorem d3_1 : decode jdk_22_method_1_code 1 = .ok (.invokespecial 1, 3) := by decide +kernel
theorem d3_4 : decode jdk_22_method_1_code 4 = .ok (.return_, 1) := by decide +kernel
def r_abc : Room := { frames := 1, cells := 0, slots := 0, locals := 12 }
def Q_abc (Z : State) (a : Addr) (h0 : Heap) (v : Option Value) (h : Heap) : Prop := v = none ∧ h0 = h
theorem rm_abc (l : Launch) (Z : State) (a0 : Array Value) (hw : oHw Z a0) (a : Addr) (h0 : Heap) : oMet l Z (⟨"java/util/AbstractCollection", "<init>", "()V"⟩ : MethodName) jdk_22_method_1_code 1 none r_abc [] #[.ref a] h0 (Q_abc Z a h0) := by
 refine oEnter (plainFor_of_name (by first | (simp [plainName, overriddenIn]; done) | decide +kernel)) (own := "java/util/AbstractCollection") (nm := "<init>") rfl rfl (L := #[.val (.ref a)]) (fun m => by first | (simp [entryFrame, mkF, argsToLocals, Value.category]; done) | rfl) ?_
 intro pp ee ss mm bb mtd cc T0 K X0
 have E0 := X0.ext0
 refine o_aloadN K X0 d3_0 rfl rfl rfl ?_
 refine o_initObj K X0 (w45 hw) (w19 hw) (w20 hw) d3_1 rfl rfl (by decide) (W := 0) rfl (by decide) ?_
 intro T1 X1
 refine o_return K X1 d3_4 rfl ?_ (by decide) (by decide)
 exact ⟨rfl, rfl⟩
theorem d4_0 : decode jdk_39_method_1_code 0 = .ok (.aload_n 0, 1) := by decide +kernel
theorem d4_1 : decode jdk_39_method_1_code 1 = .ok (.invokespecial 1, 3) := by decide +kernel
theorem d4_4 : decode jdk_39_method_1_code 4 = .ok (.aload_n 0, 1) := by decide +kernel
theorem d4_5 : decode jdk_39_method_1_code 5 = .ok (.iconst 0, 1) := by decide +kernel
theorem d4_6 : decode jdk_39_method_1_code 6 = .ok (.putfield 7, 3) := by decide +kernel
theorem d4_9 : decode jdk_39_method_1_code 9 = .ok (.return_, 1) := by decide +kernel
theorem pd1 : parseMethodDescriptor "()V" = some ⟨[], none⟩ := by decide +kernel
def r_ablinit : Room := { frames := 2, cells := 0, slots := 0, locals := 24 }
def Q_ablinit (Z : State) (a : Addr) (h0 : Heap) (v : Option Value) (h : Heap) : Prop := v = none ∧ Keep h0 h [a] ∧ Exa Z h a z8 ∧ Fld Z h a z26 "modCount" "I" (.int 0) ∧ Fld Z h a z8 "elementData" "[Ljava/lang/Object;" .null ∧ Fld Z h a z8 "size" "I" (.int 0)
theorem rm_ablinit (l : Launch) (Z : State) (a0 : Array Value) (hw : oHw Z a0) (a : Addr) (h0 : Heap) (q0 : Exa Z h0 a z8) (q1 : Z.heap.size ≤ a) (q2 : Fld Z h0 a z26 "modCount" "I" (.int 0)) (q3 : Fld Z h0 a z8 "elementData" "[Ljava/lang/Object;" .null) (q4 : Fld Z h0 a z8 "size" "I" (.int 0)) : oMet l Z (⟨z26, "<init>", "()V"⟩ : MethodName) jdk_39_method_1_code 1 none r_ablinit [] #[.ref a] h0 (Q_ablinit Z a h0) := by
 refine oEnter (plainFor_of_name (by first | (simp [plainName, overriddenIn]; done) | decide +kernel)) (own := z26) (nm := "<init>") rfl rfl (L := #[.val (.ref a)]) (fun m => by first | (simp [entryFrame, mkF, argsToLocals, Value.category]; done) | rfl) ?_
 intro pp ee ss mm bb mtd cc T0 K X0
 have E0 := X0.ext0
 refine o_aloadN K X0 d4_0 rfl rfl rfl ?_
 refine o_special K X0 (y := (⟨"java/util/AbstractCollection", "<init>", "()V"⟩ : MethodName)) rfl (w39 hw) (w40 hw) (w43 hw) (w44 hw) (by decide) (rm_abc l Z a0 hw a h0) (by decide) rfl (argsL := []) rfl (lenOf pd1 rfl) (W := 0) rfl (by decide) (by decide) (by decide) d4_1 rfl ?_
 intro v1 T1 h1 X1 U1
 obtain ⟨rfl, rfl⟩ := U1
 show oGoes pp ee bb ss Z T1 (mkF mm 4 _ []) _ _ _
 refine o_aloadN K X1 d4_4 rfl rfl rfl ?_
 refine o_iconst K X1 d4_5 rfl (z := 0) rfl ?_
 refine o_putfield K X1 (host := "") (Or.inl (w46 hw)) Via.refl q2 q0 (Or.inl (w47 hw)) (w28 hw) (ty := .int) (by decide) rfl rfl q1 d4_6 rfl ?_
 intro T2 h2 X2 W2
 have F2 := Fld.same W2 q2
 refine o_return K X2 d4_9 rfl ?_ (by decide) (by decide)
 have m3 := (Exa.wr W2 q0)
 have m4 := (Fld.other W2 q3 (Or.inr (slot_ne (Or.inl (w50 hw)) (Or.inl (w47 hw)) (by decide) (t := (.array (.object z18))) (t' := .int) (by decide) (by decide))))
 have m5 := (Fld.other W2 q4 (Or.inr (slot_ne (Or.inl (w118 hw)) (Or.inl (w47 hw)) (by decide) (t := .int) (t' := .int) (by decide) (by decide))))
 exact ⟨rfl, ((Keep.refl h0 [a]).wr W2 (Or.inl me0)), m3, F2, m4, m5⟩
theorem d5_0 : decode jdk_38_method_2_code 0 = .ok (.aload_n 0, 1) := by decide +kernel
theorem d5_1 : decode jdk_38_method_2_code 1 = .ok (.invokespecial 1, 3) := by decide +kernel
theorem d5_4 : decode jdk_38_method_2_code 4 = .ok (.aload_n 0, 1) := by decide +kernel
theorem d5_5 : decode jdk_38_method_2_code 5 = .ok (.getstatic 39, 3) := by decide +kernel
theorem d5_8 : decode jdk_38_method_2_code 8 = .ok (.putfield 9, 3) := by decide +kernel
theorem d5_11 : decode jdk_38_method_2_code 11 = .ok (.return_, 1) := by decide +kernel
def r_alinit : Room := { frames := 3, cells := 0, slots := 0, locals := 36 }
def Q_alinit (Z : State) (a dce : Addr) (h0 : Heap) (v : Option Value) (h : Heap) : Prop := v = none ∧ Keep h0 h [a] ∧ Exa Z h a z8 ∧ Fld Z h a z26 "modCount" "I" (.int 0) ∧ Fld Z h a z8 "elementData" "[Ljava/lang/Object;" (.ref dce) ∧ Fld Z h a z8 "size" "I" (.int 0)
theorem rm_alinit (l : Launch) (Z : State) (a0 : Array Value) (hw : oHw Z a0) (a dce : Addr) (h0 : Heap) (q0 : Exa Z h0 a z8) (q1 : Z.heap.size ≤ a) (q2 : Fld Z h0 a z26 "modCount" "I" (.int 0)) (q3 : Fld Z h0 a z8 "elementData" "[Ljava/lang/Object;" .null) (q4 : Fld Z h0 a z8 "size" "I" (.int 0)) (q5 : Sta Z Z.heap z8 "DEFAULTCAPACITY_EMPTY_ELEMENTDATA" "[Ljava/lang/Object;" (.ref dce)) : oMet l Z (⟨z8, "<init>", "()V"⟩ : MethodName) jdk_38_method_2_code 1 none r_alinit [] #[.ref a] h0 (Q_alinit Z a dce h0) := by
 refine oEnter (plainFor_of_name (by first | (simp [plainName, overriddenIn]; done) | decide +kernel)) (own := z8) (nm := "<init>") rfl rfl (L := #[.val (.ref a)]) (fun m => by first | (simp [entryFrame, mkF, argsToLocals, Value.category]; done) | rfl) ?_
 intro pp ee ss mm bb mtd cc T0 K X0
 have E0 := X0.ext0
 refine o_aloadN K X0 d5_0 rfl rfl rfl ?_
 refine o_special K X0 (y := (⟨z26, "<init>", "()V"⟩ : MethodName)) rfl (w33 hw) (w34 hw) (w37 hw) (w38 hw) (by decide) (rm_ablinit l Z a0 hw a h0 q0 q1 q2 q3 q4) (by decide) rfl (argsL := []) rfl (lenOf pd1 rfl) (W := 0) rfl (by decide) (by decide) (by decide) d5_1 rfl ?_
 intro v1 T1 h1 X1 U1
 obtain ⟨rfl, u1_0, u1_1, u1_2, u1_3, u1_4⟩ := U1
 show oGoes pp ee bb ss Z T1 (mkF mm 4 _ []) _ _ _
 refine o_aloadN K X1 d5_4 rfl rfl rfl ?_
 refine o_getstatic K X1 (host := "") (Or.inl (w48 hw)) Via.refl (q5.ext X1.ext0) d5_5 rfl ?_
 intro T2 X2
 refine o_putfield K X2 (host := "") (Or.inl (w49 hw)) Via.refl u1_3 u1_1 (Or.inl (w50 hw)) (w28 hw) (ty := (.array (.object z18))) (by decide) rfl rfl q1 d5_8 rfl ?_
 intro T3 h3 X3 W3
 have F3 := Fld.same W3 u1_3
 refine o_return K X3 d5_11 rfl ?_ (by decide) (by decide)
 have m4 := (Exa.wr W3 u1_1)
 have m5 := (Fld.other W3 u1_2 (Or.inr (slot_ne (Or.inl (w47 hw)) (Or.inl (w50 hw)) (by decide) (t := .int) (t' := (.array (.object z18))) (by decide) (by decide))))
 have m6 := (Fld.other W3 u1_4 (Or.inr (slot_ne (Or.inl (w118 hw)) (Or.inl (w50 hw)) (by decide) (t := .int) (t' := (.array (.object z18))) (by decide) (by decide))))
 exact ⟨rfl, (((Keep.refl h0 [a]).trans u1_0 (allS (Or.inl me0) all0)).wr W3 (Or.inl me0)), m4, m5, F3, m6⟩
theorem d6_0 : decode jdk_71_method_1_code 0 = .ok (.aload_n 0, 1) := by decide +kernel
theorem d6_1 : decode jdk_71_method_1_code 1 = .ok (.invokespecial 1, 3) := by decide +kernel
theorem d6_4 : decode jdk_71_method_1_code 4 = .ok (.return_, 1) := by decide +kernel
def r_aminit : Room := { frames := 1, cells := 0, slots := 0, locals := 12 }
def Q_aminit (Z : State) (a : Addr) (h0 : Heap) (v : Option Value) (h : Heap) : Prop := v = none ∧ h0 = h
theorem rm_aminit (l : Launch) (Z : State) (a0 : Array Value) (hw : oHw Z a0) (a : Addr) (h0 : Heap) : oMet l Z (⟨"java/util/AbstractMap", "<init>", "()V"⟩ : MethodName) jdk_71_method_1_code 1 none r_aminit [] #[.ref a] h0 (Q_aminit Z a h0) := by
 refine oEnter (plainFor_of_name (by first | (simp [plainName, overriddenIn]; done) | decide +kernel)) (own := "java/util/AbstractMap") (nm := "<init>") rfl rfl (L := #[.val (.ref a)]) (fun m => by first | (simp [entryFrame, mkF, argsToLocals, Value.category]; done) | rfl) ?_
 intro pp ee ss mm bb mtd cc T0 K X0
 have E0 := X0.ext0
 refine o_aloadN K X0 d6_0 rfl rfl rfl ?_
 refine o_initObj K X0 (w73 hw) (w19 hw) (w20 hw) d6_1 rfl rfl (by decide) (W := 0) rfl (by decide) ?_
 intro T1 X1
 refine o_return K X1 d6_4 rfl ?_ (by decide) (by decide)
 exact ⟨rfl, rfl⟩
theorem d7_0 : decode jdk_69_method_7_code 0 = .ok (.aload_n 0, 1) := by decide +kernel
theorem d7_1 : decode jdk_69_method_7_code 1 = .ok (.invokespecial 43, 3) := by decide +kernel
theorem d7_4 : decode jdk_69_method_7_code 4 = .ok (.aload_n 0, 1) := by decide +kernel
theorem d7_5 : decode jdk_69_method_7_code 5 = .ok (.ldc 92, 2) := by decide +kernel
theorem d7_7 : decode jdk_69_method_7_code 7 = .ok (.putfield 81, 3) := by decide +kernel
theorem d7_10 : decode jdk_69_method_7_code 10 = .ok (.return_, 1) := by decide +kernel
def r_hminit : Room := { frames := 2, cells := 0, slots := 0, locals := 24 }
def Q_hminit (Z : State) (a : Addr) (h0 : Heap) (v : Option Value) (h : Heap) : Prop := v = none ∧ Keep h0 h [a] ∧ Exa Z h a z0 ∧ Fld Z h a z7 "loadFactor" "F" (.float (1061158912 : UInt32)) ∧ Fld Z h a z0 "putMode" "I" (.int 0) ∧ Fld Z h a z0 "accessOrder" "Z" (.int 0) ∧ Fld Z h a z7 "entrySet" z13 .null ∧ Fld Z h a z0 "head" z11 .null ∧ Fld Z h a z7 "modCount" "I" (.int 0)
theorem rm_hminit (l : Launch) (Z : State) (a0 : Array Value) (hw : oHw Z a0) (a : Addr) (h0 : Heap) (q0 : Exa Z h0 a z0) (q1 : Z.heap.size ≤ a) (q2 : Fld Z h0 a z7 "loadFactor" "F" (.float (0 : UInt32))) (q3 : Fld Z h0 a z0 "putMode" "I" (.int 0)) (q4 : Fld Z h0 a z0 "accessOrder" "Z" (.int 0)) (q5 : Fld Z h0 a z7 "entrySet" z13 .null) (q6 : Fld Z h0 a z0 "head" z11 .null) (q7 : Fld Z h0 a z7 "modCount" "I" (.int 0)) : oMet l Z (⟨z7, "<init>", "()V"⟩ : MethodName) jdk_69_method_7_code 1 none r_hminit [] #[.ref a] h0 (Q_hminit Z a h0) := by
 refine oEnter (plainFor_of_name (by first | (simp [plainName, overriddenIn]; done) | decide +kernel)) (own := z7) (nm := "<init>") rfl rfl (L := #[.val (.ref a)]) (fun m => by first | (simp [entryFrame, mkF, argsToLocals, Value.category]; done) | rfl) ?_
 intro pp ee ss mm bb mtd cc T0 K X0
 have E0 := X0.ext0
 refine o_aloadN K X0 d7_0 rfl rfl rfl ?_
 refine o_special K X0 (y := (⟨"java/util/AbstractMap", "<init>", "()V"⟩ : MethodName)) rfl (w67 hw) (w68 hw) (w71 hw) (w72 hw) (by decide) (rm_aminit l Z a0 hw a h0) (by decide) rfl (argsL := []) rfl (lenOf pd1 rfl) (W := 0) rfl (by decide) (by decide) (by decide) d7_1 rfl ?_
 intro v1 T1 h1 X1 U1
 obtain ⟨rfl, rfl⟩ := U1
 show oGoes pp ee bb ss Z T1 (mkF mm 4 _ []) _ _ _
 refine o_aloadN K X1 d7_4 rfl rfl rfl ?_
 refine o_ldcF K X1 (w74 hw) d7_5 rfl ?_
 refine o_putfield K X1 (host := "") (Or.inl (w75 hw)) Via.refl q2 q0 (Or.inr ⟨(w76 hw), rfl, rfl⟩) (w56 hw) (ty := .float) (by decide) rfl rfl q1 d7_7 rfl ?_
 intro T2 h2 X2 W2
 have F2 := Fld.same W2 q2
 refine o_return K X2 d7_10 rfl ?_ (by decide) (by decide)
 have m3 := (Exa.wr W2 q0)
 have m4 := (Fld.other W2 q3 (Or.inr (slot_ne (Or.inl (w78 hw)) (Or.inr (w76 hw)) (by decide) (t := .int) (t' := .float) (by decide) (by decide))))
 have m5 := (Fld.other W2 q4 (Or.inr (slot_ne (Or.inr (w80 hw)) (Or.inr (w76 hw)) (by decide) (t := .boolean) (t' := .float) (by decide) (by decide))))
 have m6 := (Fld.other W2 q5 (Or.inr (slot_ne (Or.inl (w243 hw)) (Or.inr (w76 hw)) (by decide) (t := (.object "java/util/Set")) (t' := .float) (by decide) (by decide))))
 have m7 := (Fld.other W2 q6 (Or.inr (slot_ne (Or.inl (w331 hw)) (Or.inr (w76 hw)) (by decide) (t := (.object z24)) (t' := .float) (by decide) (by decide))))
 have m8 := (Fld.other W2 q7 (Or.inr (slot_ne (Or.inl (w336 hw)) (Or.inr (w76 hw)) (by decide) (t := .int) (t' := .float) (by decide) (by decide))))
 exact ⟨rfl, ((Keep.refl h0 [a]).wr W2 (Or.inl me0)), m3, F2, m4, m5, m6, m7, m8⟩
theorem d8_0 : decode jdk_94_method_16_code 0 = .ok (.aload_n 0, 1) := by decide +kernel
theorem d8_1 : decode jdk_94_method_16_code 1 = .ok (.invokespecial 87, 3) := by decide +kernel
theorem d8_4 : decode jdk_94_method_16_code 4 = .ok (.aload_n 0, 1) := by decide +kernel
theorem d8_5 : decode jdk_94_method_16_code 5 = .ok (.iconst 0, 1) := by decide +kernel
theorem d8_6 : decode jdk_94_method_16_code 6 = .ok (.putfield 1, 3) := by decide +kernel
theorem d8_9 : decode jdk_94_method_16_code 9 = .ok (.aload_n 0, 1) := by decide +kernel
theorem d8_10 : decode jdk_94_method_16_code 10 = .ok (.iconst 0, 1) := by decide +kernel
theorem d8_11 : decode jdk_94_method_16_code 11 = .ok (.putfield 64, 3) := by decide +kernel
theorem d8_14 : decode jdk_94_method_16_code 14 = .ok (.return_, 1) := by decide +kernel
def r_lhminit : Room := { frames := 3, cells := 0, slots := 0, locals := 36 }
def Q_lhminit (Z : State) (a : Addr) (h0 : Heap) (v : Option Value) (h : Heap) : Prop := v = none ∧ Keep h0 h [a] ∧ Exa Z h a z0 ∧ Fld Z h a z7 "loadFactor" "F" (.float (1061158912 : UInt32)) ∧ Fld Z h a z0 "putMode" "I" (.int 0) ∧ Fld Z h a z0 "accessOrder" "Z" (.int 0) ∧ Fld Z h a z7 "entrySet" z13 .null ∧ Fld Z h a z0 "head" z11 .null ∧ Fld Z h a z7 "modCount" "I" (.int 0)
theorem rm_lhminit (l : Launch) (Z : State) (a0 : Array Value) (hw : oHw Z a0) (a : Addr) (h0 : Heap) (q0 : Exa Z h0 a z0) (q1 : Z.heap.size ≤ a) (q2 : Fld Z h0 a z7 "loadFactor" "F" (.float (0 : UInt32))) (q3 : Fld Z h0 a z0 "putMode" "I" (.int 0)) (q4 : Fld Z h0 a z0 "accessOrder" "Z" (.int 0)) (q5 : Fld Z h0 a z7 "entrySet" z13 .null) (q6 : Fld Z h0 a z0 "head" z11 .null) (q7 : Fld Z h0 a z7 "modCount" "I" (.int 0)) : oMet l Z (⟨z0, "<init>", "()V"⟩ : MethodName) jdk_94_method_16_code 1 none r_lhminit [] #[.ref a] h0 (Q_lhminit Z a h0) := by
 refine oEnter (plainFor_of_name (by first | (simp [plainName, overriddenIn]; done) | decide +kernel)) (own := z0) (nm := "<init>") rfl rfl (L := #[.val (.ref a)]) (fun m => by first | (simp [entryFrame, mkF, argsToLocals, Value.category]; done) | rfl) ?_
 intro pp ee ss mm bb mtd cc T0 K X0
 have E0 := X0.ext0
 refine o_aloadN K X0 d8_0 rfl rfl rfl ?_
 refine o_special K X0 (y := (⟨z7, "<init>", "()V"⟩ : MethodName)) rfl (w61 hw) (w62 hw) (w65 hw) (w66 hw) (by decide) (rm_hminit l Z a0 hw a h0 q0 q1 q2 q3 q4 q5 q6 q7) (by decide) rfl (argsL := []) rfl (lenOf pd1 rfl) (W := 0) rfl (by decide) (by decide) (by decide) d8_1 rfl ?_
 intro v1 T1 h1 X1 U1
 obtain ⟨rfl, u1_0, u1_1, u1_2, u1_3, u1_4, u1_5, u1_6, u1_7⟩ := U1
 show oGoes pp ee bb ss Z T1 (mkF mm 4 _ []) _ _ _
 refine o_aloadN K X1 d8_4 rfl rfl rfl ?_
 refine o_iconst K X1 d8_5 rfl (z := 0) rfl ?_
 refine o_putfield K X1 (host := "") (Or.inl (w77 hw)) Via.refl u1_3 u1_1 (Or.inl (w78 hw)) (w56 hw) (ty := .int) (by decide) rfl rfl q1 d8_6 rfl ?_
 intro T2 h2 X2 W2
 have F2 := Fld.same W2 u1_3
 refine o_aloadN K X2 d8_9 rfl rfl rfl ?_
 refine o_iconst K X2 d8_10 rfl (z := 0) rfl ?_
 have m4 := (Fld.other W2 u1_4 (Or.inr (slot_ne (Or.inr (w80 hw)) (Or.inl (w78 hw)) (by decide) (t := .boolean) (t' := .int) (by decide) (by decide))))
 have m5 := (Exa.wr W2 u1_1)
 refine o_putfieldN K X2 (w79 hw) Via.refl m4 m5 (Or.inr ⟨(w80 hw), rfl, rfl⟩) (w56 hw) (ty := .boolean) (by decide) (v' := (.int 0)) (congrArg Value.int (by decide)) (oFitboolean (x := (0 : Int32)) (by decide)) q1 d8_11 rfl ?_
 intro T3 h3 X3 W3
 have F3 := Fld.same W3 m4
 refine o_return K X3 d8_14 rfl ?_ (by decide) (by decide)
 have m6 := (Exa.wr W3 m5)
 have m7 := (Fld.other W3 (Fld.other W2 u1_2 (Or.inr (slot_ne (Or.inr (w76 hw)) (Or.inl (w78 hw)) (by decide) (t := .float) (t' := .int) (by decide) (by decide)))) (Or.inr (slot_ne (Or.inr (w76 hw)) (Or.inr (w80 hw)) (by decide) (t := .float) (t' := .boolean) (by decide) (by decide))))
 have m8 := (Fld.other W3 F2 (Or.inr (slot_ne (Or.inl (w78 hw)) (Or.inr (w80 hw)) (by decide) (t := .int) (t' := .boolean) (by decide) (by decide))))
 have m9 := (Fld.other W3 (Fld.other W2 u1_5 (Or.inr (slot_ne (Or.inl (w243 hw)) (Or.inl (w78 hw)) (by decide) (t := (.object "java/util/Set")) (t' := .int) (by decide) (by decide)))) (Or.inr (slot_ne (Or.inl (w243 hw)) (Or.inr (w80 hw)) (by decide) (t := (.object "java/util/Set")) (t' := .boolean) (by decide) (by decide))))
 have m10 := (Fld.other W3 (Fld.other W2 u1_6 (Or.inr (slot_ne (Or.inl (w331 hw)) (Or.inl (w78 hw)) (by decide) (t := (.object z24)) (t' := .int) (by decide) (by decide)))) (Or.inr (slot_ne (Or.inl (w331 hw)) (Or.inr (w80 hw)) (by decide) (t := (.object z24)) (t' := .boolean) (by decide) (by decide))))
 have m11 := (Fld.other W3 (Fld.other W2 u1_7 (Or.inr (slot_ne (Or.inl (w336 hw)) (Or.inl (w78 hw)) (by decide) (t := .int) (t' := .int) (by decide) (by decide)))) (Or.inr (slot_ne (Or.inl (w336 hw)) (Or.inr (w80 hw)) (by decide) (t := .int) (t' := .boolean) (by decide) (by decide))))
 exact ⟨rfl, ((((Keep.refl h0 [a]).trans u1_0 (allS (Or.inl me0) all0)).wr W2 (Or.inl me0)).wr W3 (Or.inl me0)), m6, m7, m8, F3, m9, m10, m11⟩
theorem d9_0 : decode jdk_49_method_1_code 0 = .ok (.aload_n 0, 1) := by decide +kernel
theorem d9_1 : decode jdk_49_method_1_code 1 = .ok (.aload_n 1, 1) := by decide +kernel
theorem d9_2 : decode jdk_49_method_1_code 2 = .ok (.putfield 1, 3) := by decide +kernel
theorem d9_5 : decode jdk_49_method_1_code 5 = .ok (.aload_n 0, 1) := by decide +kernel
theorem d9_6 : decode jdk_49_method_1_code 6 = .ok (.invokespecial 7, 3) := by decide +kernel
theorem d9_9 : decode jdk_49_method_1_code 9 = .ok (.aload_n 0, 1) := by decide +kernel
theorem d9_10 : decode jdk_49_method_1_code 10 = .ok (.iconst (-1), 1) := by decide +kernel
theorem d9_11 : decode jdk_49_method_1_code 11 = .ok (.putfield 13, 3) := by decide +kernel
theorem d9_14 : decode jdk_49_method_1_code 14 = .ok (.aload_n 0, 1) := by decide +kernel
theorem d9_15 : decode jdk_49_method_1_code 15 = .ok (.aload_n 0, 1) := by decide +kernel
theorem d9_16 : decode jdk_49_method_1_code 16 = .ok (.getfield 1, 3) := by decide +kernel
theorem d9_19 : decode jdk_49_method_1_code 19 = .ok (.getfield 17, 3) := by decide +kernel
theorem d9_22 : decode jdk_49_method_1_code 22 = .ok (.putfield 22, 3) := by decide +kernel
theorem d9_25 : decode jdk_49_method_1_code 25 = .ok (.return_, 1) := by decide +kernel
def r_itrinit : Room := { frames := 1, cells := 0, slots := 0, locals := 12 }
def Q_itrinit (Z : State) (a li : Addr) (mc : Int32) (h0 : Heap) (v : Option Value) (h : Heap) : Prop := v = none ∧ Keep h0 h [a] ∧ Exa Z h a z10 ∧ Fld Z h a z10 "this$0" "Ljava/util/ArrayList;" (.ref li) ∧ Fld Z h a z10 "lastRet" "I" (.int (-1)) ∧ Fld Z h a z10 "expectedModCount" "I" (.int mc) ∧ Fld Z h a z10 "cursor" "I" (.int 0)
theorem rm_itrinit (l : Launch) (Z : State) (a0 : Array Value) (hw : oHw Z a0) (a li : Addr) (mc : Int32) (h0 : Heap) (q0 : Exa Z h0 a z10) (q1 : Z.heap.size ≤ a) (q2 : Fld Z h0 a z10 "this$0" "Ljava/util/ArrayList;" .null) (q3 : Fld Z h0 a z10 "lastRet" "I" (.int 0)) (q4 : Fld Z h0 a z10 "expectedModCount" "I" (.int 0)) (q5 : Fld Z h0 a z10 "cursor" "I" (.int 0)) (q6 : Exa Z h0 li z8) (q7 : Fld Z h0 li z8 "size" "I" (.int 0)) (q8 : Fld Z h0 li z26 "modCount" "I" (.int mc)) (q9 : li ≠ a) : oMet l Z (⟨z10, "<init>", "(Ljava/util/ArrayList;)V"⟩ : MethodName) jdk_49_method_1_code 2 none r_itrinit [] #[.ref a, .ref li] h0 (Q_itrinit Z a li mc h0) := by
 refine oEnter (plainFor_of_name (by first | (simp [plainName, overriddenIn]; done) | decide +kernel)) (own := z10) (nm := "<init>") rfl rfl (L := #[.val (.ref a), .val (.ref li)]) (fun m => by first | (simp [entryFrame, mkF, argsToLocals, Value.category]; done) | rfl) ?_
 intro pp ee ss mm bb mtd cc T0 K X0
 have E0 := X0.ext0
 refine o_aloadN K X0 d9_0 rfl rfl rfl ?_
 refine o_aloadN K X0 d9_1 rfl rfl rfl ?_
 refine o_putfield K X0 (host := "") (Or.inl (w97 hw)) Via.refl q2 q0 (Or.inr ⟨(w98 hw), rfl, rfl⟩) (w91 hw) (ty := (.object z8)) (by decide) rfl rfl q1 d9_2 rfl ?_
 intro T1 h1 X1 W1
 have F1 := Fld.same W1 q2
 refine o_aloadN K X1 d9_5 rfl rfl rfl ?_
 refine o_initObj K X1 (w99 hw) (w19 hw) (w20 hw) d9_6 rfl rfl (by decide) (W := 0) rfl (by decide) ?_
 intro T2 X2
 refine o_aloadN K X2 d9_9 rfl rfl rfl ?_
 refine o_iconst K X2 d9_10 rfl (z := -1) rfl ?_
 have m4 := (Fld.other W1 q3 (Or.inr (slot_ne (Or.inl (w101 hw)) (Or.inr (w98 hw)) (by decide) (t := .int) (t' := (.object z8)) (by decide) (by decide))))
 have m5 := (Exa.wr W1 q0)
 refine o_putfield K X2 (host := "") (Or.inl (w100 hw)) Via.refl m4 m5 (Or.inl (w101 hw)) (w91 hw) (ty := .int) (by decide) rfl rfl q1 d9_11 rfl ?_
 intro T3 h3 X3 W3
 have F3 := Fld.same W3 m4
 refine o_aloadN K X3 d9_14 rfl rfl rfl ?_
 refine o_aloadN K X3 d9_15 rfl rfl rfl ?_
 have m7 := (Fld.other W3 F1 (Or.inr (slot_ne (Or.inr (w98 hw)) (Or.inl (w101 hw)) (by decide) (t := (.object z8)) (t' := .int) (by decide) (by decide))))
 refine o_getfield K X3 (host := "") (Or.inl (w97 hw)) Via.refl m7 d9_16 rfl ?_
 intro T6 X6
 have m9 := (Fld.other W3 (Fld.other W1 q8 (Or.inl q9)) (Or.inl q9))
 refine o_getfield K X6 (host := "") (Or.inl (w102 hw)) (Via.of (w103 hw)) m9 d9_19 rfl ?_
 intro T8 X8
 have m11 := (Fld.other W3 (Fld.other W1 q4 (Or.inr (slot_ne (Or.inl (w105 hw)) (Or.inr (w98 hw)) (by decide) (t := .int) (t' := (.object z8)) (by decide) (by decide)))) (Or.inr (slot_ne (Or.inl (w105 hw)) (Or.inl (w101 hw)) (by decide) (t := .int) (t' := .int) (by decide) (by decide))))
 have m12 := (Exa.wr W3 m5)
 refine o_putfield K X8 (host := "") (Or.inl (w104 hw)) Via.refl m11 m12 (Or.inl (w105 hw)) (w91 hw) (ty := .int) (by decide) rfl rfl q1 d9_22 rfl ?_
 intro T10 h10 X10 W10
 have F10 := Fld.same W10 m11
 refine o_return K X10 d9_25 rfl ?_ (by decide) (by decide)
 have m13 := (Exa.wr W10 m12)
 have m14 := (Fld.other W10 m7 (Or.inr (slot_ne (Or.inr (w98 hw)) (Or.inl (w105 hw)) (by decide) (t := (.object z8)) (t' := .int) (by decide) (by decide))))
 have m15 := (Fld.other W10 F3 (Or.inr (slot_ne (Or.inl (w101 hw)) (Or.inl (w105 hw)) (by decide) (t := .int) (t' := .int) (by decide) (by decide))))
 have m16 := (Fld.other W10 (Fld.other W3 (Fld.other W1 q5 (Or.inr (slot_ne (Or.inl (w116 hw)) (Or.inr (w98 hw)) (by decide) (t := .int) (t' := (.object z8)) (by decide) (by decide)))) (Or.inr (slot_ne (Or.inl (w116 hw)) (Or.inl (w101 hw)) (by decide) (t := .int) (t' := .int) (by decide) (by decide)))) (Or.inr (slot_ne (Or.inl (w116 hw)) (Or.inl (w105 hw)) (by decide) (t := .int) (t' := .int) (by decide) (by decide))))
 exact ⟨rfl, ((((Keep.refl h0 [a]).wr W1 (Or.inl me0)).wr W3 (Or.inl me0)).wr W10 (Or.inl me0)), m13, m14, m15, F10, m16⟩
theorem d10_0 : decode jdk_38_method_55_code 0 = .ok (.new 267, 3) := by decide +kernel
theorem d10_3 : decode jdk_38_method_55_code 3 = .ok (.dup, 1) := by decide +kernel
theorem d10_4 : decode jdk_38_method_55_code 4 = .ok (.aload_n 0, 1) := by decide +kernel
theorem d10_5 : decode jdk_38_method_55_code 5 = .ok (.invokespecial 269, 3) := by decide +kernel
theorem d10_8 : decode jdk_38_method_55_code 8 = .ok (.areturn, 1) := by decide +kernel
theorem pd2 : parseMethodDescriptor "(Ljava/util/ArrayList;)V" = some ⟨[(.object z8)], none⟩ := by decide +kernel
def r_aliter : Room := { frames := 2, cells := 1, slots := 4, locals := 26 }
def Q_aliter (Z : State) (li : Addr) (mc : Int32) (h0 : Heap) (v : Option Value) (h : Heap) : Prop := ∃ r : Addr, v = some (.ref r) ∧ Keep h0 h [] ∧ h0.size ≤ r ∧ Exa Z h r z10 ∧ Fld Z h r z10 "this$0" "Ljava/util/ArrayList;" (.ref li) ∧ Fld Z h r z10 "cursor" "I" (.int 0)
theorem rm_aliter (l : Launch) (Z : State) (a0 : Array Value) (hw : oHw Z a0) (li : Addr) (mc : Int32) (h0 : Heap) (q0 : Exa Z h0 li z8) (q1 : Fld Z h0 li z8 "size" "I" (.int 0)) (q2 : Fld Z h0 li z26 "modCount" "I" (.int mc)) : oMet l Z (⟨z8, "iterator", z16⟩ : MethodName) jdk_38_method_55_code 1 (some (.object z21)) r_aliter [] #[.ref li] h0 (Q_aliter Z li mc h0) := by
 refine oEnter (plainFor_of_name (by first | (simp [plainName, overriddenIn]; done) | decide +kernel)) (own := z8) (nm := "iterator") rfl rfl (L := #[.val (.ref li)]) (fun m => by first | (simp [entryFrame, mkF, argsToLocals, Value.category]; done) | rfl) ?_
 intro pp ee ss mm bb mtd cc T0 K X0
 have E0 := X0.ext0
 refine o_new K X0 (w90 hw) (w91 hw) (w92 hw) d10_0 rfl (by decide) (by decide) ?_
 intro T1 h1 b1 X1 g1 E1 A1 D1 G1
 have F1_this_0 : Fld Z h1 b1 z10 "this$0" "Ljava/util/ArrayList;" .null := (D1 (Or.inr (w98 hw)) (ty := (.object z8)) (by decide))
 have F1_lastRet : Fld Z h1 b1 z10 "lastRet" "I" (.int 0) := (D1 (Or.inl (w101 hw)) (ty := .int) (by decide))
 have F1_expectedModCount : Fld Z h1 b1 z10 "expectedModCount" "I" (.int 0) := (D1 (Or.inl (w105 hw)) (ty := .int) (by decide))
 have F1_cursor : Fld Z h1 b1 z10 "cursor" "I" (.int 0) := (D1 (Or.inl (w116 hw)) (ty := .int) (by decide))
 refine o_dup K X1 d10_3 rfl rfl ?_
 refine o_aloadN K X1 d10_4 rfl rfl rfl ?_
 have m2 := (q0.ext E1)
 have m3 := (q1.ext E1)
 have m4 := (q2.ext E1)
 have n5 := oLz q0.lt (oLe g1)
 refine o_special K X1 (y := (⟨z10, "<init>", "(Ljava/util/ArrayList;)V"⟩ : MethodName)) rfl (w93 hw) (w94 hw) (w92 hw) (w96 hw) (by decide) (rm_itrinit l Z a0 hw b1 li mc h1 A1 G1 F1_this_0 F1_lastRet F1_expectedModCount F1_cursor m2 m3 m4 n5) (by decide) rfl (argsL := [.ref li]) rfl (lenOf pd2 rfl) (W := 1) rfl (by decide) (by decide) (by decide) d10_5 rfl ?_
 intro v6 T6 h6 X6 U6
 obtain ⟨rfl, u6_0, u6_1, u6_2, u6_3, u6_4, u6_5⟩ := U6
 show oGoes pp ee bb ss Z T6 (mkF mm 8 _ [.ref b1]) _ _ _
 refine o_areturn K X6 (t := (.object z21)) d10_8 rfl rfl rfl ?_ (by decide) (by decide)
 exact ⟨b1, rfl, (((Keep.refl h0 []).ext E1).trans u6_0 (allS (Or.inr (oLe g1)) all0)), (oLe g1), u6_1, u6_2, u6_5⟩
theorem d11_0 : decode jdk_49_method_2_code 0 = .ok (.aload_n 0, 1) := by decide +kernel
theorem d11_1 : decode jdk_49_method_2_code 1 = .ok (.getfield 25, 3) := by decide +kernel
theorem d11_4 : decode jdk_49_method_2_code 4 = .ok (.aload_n 0, 1) := by decide +kernel
theorem d11_5 : decode jdk_49_method_2_code 5 = .ok (.getfield 1, 3) := by decide +kernel
theorem d11_8 : decode jdk_49_method_2_code 8 = .ok (.getfield 28, 3) := by decide +kernel
theorem d11_11 : decode jdk_49_method_2_code 11 = .ok (.if_icmp .eq 7, 3) := by decide +kernel
theorem d11_18 : decode jdk_49_method_2_code 18 = .ok (.iconst 0, 1) := by decide +kernel
theorem d11_19 : decode jdk_49_method_2_code 19 = .ok (.ireturn, 1) := by decide +kernel
def r_itrhas : Room := { frames := 0, cells := 0, slots := 0, locals := 0 }
def Q_itrhas (Z : State) (a li : Addr) (h0 : Heap) (v : Option Value) (h : Heap) : Prop := v = some (.int 0) ∧ h0 = h
theorem rm_itrhas (l : Launch) (Z : State) (a0 : Array Value) (hw : oHw Z a0) (a li : Addr) (h0 : Heap) (q0 : Fld Z h0 a z10 "cursor" "I" (.int 0)) (q1 : Fld Z h0 a z10 "this$0" "Ljava/util/ArrayList;" (.ref li)) (q2 : Fld Z h0 li z8 "size" "I" (.int 0)) : oMet l Z (⟨z10, "hasNext", "()Z"⟩ : MethodName) jdk_49_method_2_code 1 (some .boolean) r_itrhas [] #[.ref a] h0 (Q_itrhas Z a li h0) := by
 refine oEnter (plainFor_of_name (by first | (simp [plainName, overriddenIn]; done) | decide +kernel)) (own := z10) (nm := "hasNext") rfl rfl (L := #[.val (.ref a)]) (fun m => by first | (simp [entryFrame, mkF, argsToLocals, Value.category]; done) | rfl) ?_
 intro pp ee ss mm bb mtd cc T0 K X0
 have E0 := X0.ext0
 refine o_aloadN K X0 d11_0 rfl rfl rfl ?_
 refine o_getfield K X0 (host := "") (Or.inl (w115 hw)) Via.refl q0 d11_1 rfl ?_
 intro T1 X1
 refine o_aloadN K X1 d11_4 rfl rfl rfl ?_
 refine o_getfield K X1 (host := "") (Or.inl (w97 hw)) Via.refl q1 d11_5 rfl ?_
 intro T2 X2
 refine o_getfield K X2 (Or.inr (w117 hw)) Via.refl q2 d11_8 rfl ?_
 intro T3 X3
 refine o_icmp_eq_t K X3 d11_11 (by decide) (pc' := 18) (by decide) (by decide) ?_
 refine o_iconst K X3 d11_18 rfl (z := 0) rfl ?_
 refine o_ireturnN K X3 .boolean d11_19 rfl (by simp) (z' := 0) (by decide) ?_ (by decide) (by decide)
 exact ⟨rfl, rfl⟩
theorem d12_0 : decode jdk_2500_method_1_code 0 = .ok (.aload_n 0, 1) := by decide +kernel
theorem d12_1 : decode jdk_2500_method_1_code 1 = .ok (.invokespecial 1, 3) := by decide +kernel
theorem d12_4 : decode jdk_2500_method_1_code 4 = .ok (.aload_n 1, 1) := by decide +kernel
theorem d12_5 : decode jdk_2500_method_1_code 5 = .ok (.ifnonnull 11, 3) := by decide +kernel
theorem d12_16 : decode jdk_2500_method_1_code 16 = .ok (.aload_n 0, 1) := by decide +kernel
theorem d12_17 : decode jdk_2500_method_1_code 17 = .ok (.aload_n 1, 1) := by decide +kernel
theorem d12_18 : decode jdk_2500_method_1_code 18 = .ok (.putfield 10, 3) := by decide +kernel
theorem d12_21 : decode jdk_2500_method_1_code 21 = .ok (.return_, 1) := by decide +kernel
def r_uminit : Room := { frames := 1, cells := 0, slots := 0, locals := 12 }
def Q_uminit (Z : State) (a m : Addr) (h0 : Heap) (v : Option Value) (h : Heap) : Prop := v = none ∧ Keep h0 h [a] ∧ Exa Z h a z3 ∧ Fld Z h a z3 "m" z14 (.ref m) ∧ Fld Z h a z3 "entrySet" z13 .null
theorem rm_uminit (l : Launch) (Z : State) (a0 : Array Value) (hw : oHw Z a0) (a m : Addr) (h0 : Heap) (q0 : Exa Z h0 a z3) (q1 : Z.heap.size ≤ a) (q2 : Fld Z h0 a z3 "m" z14 .null) (q3 : Fld Z h0 a z3 "entrySet" z13 .null) : oMet l Z (⟨z3, "<init>", "(Ljava/util/Map;)V"⟩ : MethodName) jdk_2500_method_1_code 2 none r_uminit [] #[.ref a, .ref m] h0 (Q_uminit Z a m h0) := by
 refine oEnter (plainFor_of_name (by first | (simp [plainName, overriddenIn]; done) | decide +kernel)) (own := z3) (nm := "<init>") rfl rfl (L := #[.val (.ref a), .val (.ref m)]) (fun m => by first | (simp [entryFrame, mkF, argsToLocals, Value.category]; done) | rfl) ?_
 intro pp ee ss mm bb mtd cc T0 K X0
 have E0 := X0.ext0
 refine o_aloadN K X0 d12_0 rfl rfl rfl ?_
 refine o_initObj K X0 (w146 hw) (w19 hw) (w20 hw) d12_1 rfl rfl (by decide) (W := 0) rfl (by decide) ?_
 intro T1 X1
 refine o_aloadN K X1 d12_4 rfl rfl rfl ?_
 refine o_ifnonnull_t K X1 d12_5 (by decide) (pc' := 16) (by decide) ?_
 refine o_aloadN K X1 d12_16 rfl rfl rfl ?_
 refine o_aloadN K X1 d12_17 rfl rfl rfl ?_
 refine o_putfield K X1 (host := "") (Or.inl (w147 hw)) Via.refl q2 q0 (Or.inr ⟨(w148 hw), rfl, rfl⟩) (w141 hw) (ty := (.object "java/util/Map")) (by decide) rfl rfl q1 d12_18 rfl ?_
 intro T2 h2 X2 W2
 have F2 := Fld.same W2 q2
 refine o_return K X2 d12_21 rfl ?_ (by decide) (by decide)
 have m3 := (Exa.wr W2 q0)
 have m4 := (Fld.other W2 q3 (Or.inr (slot_ne (Or.inl (w226 hw)) (Or.inr (w148 hw)) (by decide) (t := (.object "java/util/Set")) (t' := (.object "java/util/Map")) (by decide) (by decide))))
 exact ⟨rfl, ((Keep.refl h0 [a]).wr W2 (Or.inl me0)), m3, F2, m4⟩
theorem d13_0 : decode jdk_79_method_36_code 0 = .ok (.aload_n 0, 1) := by decide +kernel
theorem d13_1 : decode jdk_79_method_36_code 1 = .ok (.invokeinterface 220 1, 5) := by decide +kernel
theorem d13_6 : decode jdk_79_method_36_code 6 = .ok (.ldc 223, 2) := by decide +kernel
theorem d13_8 : decode jdk_79_method_36_code 8 = .ok (.if_acmp .ne 5, 3) := by decide +kernel
theorem d13_13 : decode jdk_79_method_36_code 13 = .ok (.new 223, 3) := by decide +kernel
theorem d13_16 : decode jdk_79_method_36_code 16 = .ok (.dup, 1) := by decide +kernel
theorem d13_17 : decode jdk_79_method_36_code 17 = .ok (.aload_n 0, 1) := by decide +kernel
theorem d13_18 : decode jdk_79_method_36_code 18 = .ok (.invokespecial 225, 3) := by decide +kernel
theorem d13_21 : decode jdk_79_method_36_code 21 = .ok (.areturn, 1) := by decide +kernel
theorem pd3 : parseMethodDescriptor "(Ljava/util/Map;)V" = some ⟨[(.object "java/util/Map")], none⟩ := by decide +kernel
def r_umap : Room := { frames := 2, cells := 1, slots := 4, locals := 26 }
def Q_umap (Z : State) (m ma mb : Addr) (h0 : Heap) (v : Option Value) (h : Heap) : Prop := ∃ r : Addr, v = some (.ref r) ∧ Keep h0 h [] ∧ h0.size ≤ r ∧ Exa Z h r z3 ∧ Fld Z h r z3 "m" z14 (.ref m) ∧ Fld Z h r z3 "entrySet" z13 .null
theorem rm_umap (l : Launch) (Z : State) (a0 : Array Value) (hw : oHw Z a0) (m ma mb : Addr) (h0 : Heap) (q0 : Exa Z h0 m z0) (q1 : oMir Z z0 ma) (q2 : oMir Z z3 mb) (q3 : ma ≠ mb) : oMet l Z (⟨"java/util/Collections", "unmodifiableMap", "(Ljava/util/Map;)Ljava/util/Map;"⟩ : MethodName) jdk_79_method_36_code 1 (some (.object "java/util/Map")) r_umap [] #[.ref m] h0 (Q_umap Z m ma mb h0) := by
 refine oEnter (plainFor_of_name (by first | (simp [plainName, overriddenIn]; done) | decide +kernel)) (own := "java/util/Collections") (nm := "unmodifiableMap") rfl rfl (L := #[.val (.ref m)]) (fun m => by first | (simp [entryFrame, mkF, argsToLocals, Value.category]; done) | rfl) ?_
 intro pp ee ss mm bb mtd cc T0 K X0
 have E0 := X0.ext0
 refine o_aloadN K X0 d13_0 rfl rfl rfl ?_
 refine o_getClassI K X0 (xi := (⟨"java/util/Map", "getClass", "()Ljava/lang/Class;"⟩ : MethodName)) (w129 hw) (w130 hw) (w131 hw) (w132 hw) (w133 hw) (w134 hw) (w135 hw) (w136 hw) (w137 hw) (by decide) (by decide) rfl rfl q0 q1 d13_1 rfl rfl (by decide) (W := 0) rfl (by decide) ?_
 intro T1 X1
 refine o_ldcClass K X1 (w139 hw) q2 d13_6 rfl ?_
 intro T2 X2
 refine o_acmp K X2 false d13_8 (by decide) rfl rfl (decide_eq_false fun q => q3 (Value.ref.inj q)) (pc' := 13) (by decide) ?_
 refine o_new K X2 (w139 hw) (w141 hw) (w142 hw) d13_13 rfl (by decide) (by decide) ?_
 intro T3 h3 b3 X3 g3 E3 A3 D3 G3
 have F3_m : Fld Z h3 b3 z3 "m" z14 .null := (D3 (Or.inr (w148 hw)) (ty := (.object "java/util/Map")) (by decide))
 have F3_entrySet : Fld Z h3 b3 z3 "entrySet" z13 .null := (D3 (Or.inl (w226 hw)) (ty := (.object "java/util/Set")) (by decide))
 refine o_dup K X3 d13_16 rfl rfl ?_
 refine o_aloadN K X3 d13_17 rfl rfl rfl ?_
 refine o_special K X3 (y := (⟨z3, "<init>", "(Ljava/util/Map;)V"⟩ : MethodName)) rfl (w143 hw) (w144 hw) (w142 hw) (w145 hw) (by decide) (rm_uminit l Z a0 hw b3 m h3 A3 G3 F3_m F3_entrySet) (by decide) rfl (argsL := [.ref m]) rfl (lenOf pd3 rfl) (W := 1) rfl (by decide) (by decide) (by decide) d13_18 rfl ?_
 intro v4 T4 h4 X4 U4
 obtain ⟨rfl, u4_0, u4_1, u4_2, u4_3⟩ := U4
 show oGoes pp ee bb ss Z T4 (mkF mm 21 _ [.ref b3]) _ _ _
 refine o_areturn K X4 (t := (.object "java/util/Map")) d13_21 rfl rfl rfl ?_ (by decide) (by decide)
 exact ⟨b3, rfl, (((Keep.refl h0 []).ext E3).trans u4_0 (allS (Or.inr (oLe g3)) all0)), (oLe g3), u4_1, u4_2, u4_3⟩
theorem d14_0 : decode prog_32_method_1_code 0 = .ok (.aload_n 0, 1) := by decide +kernel
theorem d14_1 : decode prog_32_method_1_code 1 = .ok (.invokespecial 1, 3) := by decide +kernel
theorem d14_4 : decode prog_32_method_1_code 4 = .ok (.aload_n 0, 1) := by decide +kernel
theorem d14_5 : decode prog_32_method_1_code 5 = .ok (.aload_n 1, 1) := by decide +kernel
theorem d14_6 : decode prog_32_method_1_code 6 = .ok (.invokestatic 7, 3) := by decide +kernel
theorem d14_9 : decode prog_32_method_1_code 9 = .ok (.putfield 13, 3) := by decide +kernel
theorem d14_12 : decode prog_32_method_1_code 12 = .ok (.return_, 1) := by decide +kernel
theorem pd4 : parseMethodDescriptor "(Ljava/util/Map;)Ljava/util/Map;" = some ⟨[(.object "java/util/Map")], some (.object "java/util/Map")⟩ := by decide +kernel
def r_rpinit : Room := { frames := 3, cells := 1, slots := 4, locals := 39 }
def Q_rpinit (Z : State) (a m ma mb : Addr) (h0 : Heap) (v : Option Value) (h : Heap) : Prop := ∃ u : Addr, v = none ∧ Keep h0 h [a] ∧ Exa Z h a z5 ∧ Fld Z h a z5 "findings" z14 (.ref u) ∧ h0.size ≤ u ∧ Exa Z h u z3 ∧ Fld Z h u z3 "m" z14 (.ref m) ∧ Fld Z h u z3 "entrySet" z13 .null
theorem rm_rpinit (l : Launch) (Z : State) (a0 : Array Value) (hw : oHw Z a0) (a m ma mb : Addr) (h0 : Heap) (q0 : Exa Z h0 a z5) (q1 : Z.heap.size ≤ a) (q2 : Exa Z h0 m z0) (q3 : Fld Z h0 a z5 "findings" z14 .null) (q4 : oMir Z z0 ma) (q5 : oMir Z z3 mb) (q6 : ma ≠ mb) : oMet l Z (⟨z5, "<init>", "(Ljava/util/Map;)V"⟩ : MethodName) prog_32_method_1_code 2 none r_rpinit [] #[.ref a, .ref m] h0 (Q_rpinit Z a m ma mb h0) := by
 refine oEnter (plainFor_of_name (by first | (simp [plainName, overriddenIn]; done) | decide +kernel)) (own := z5) (nm := "<init>") rfl rfl (L := #[.val (.ref a), .val (.ref m)]) (fun m => by first | (simp [entryFrame, mkF, argsToLocals, Value.category]; done) | rfl) ?_
 intro pp ee ss mm bb mtd cc T0 K X0
 have E0 := X0.ext0
 refine o_aloadN K X0 d14_0 rfl rfl rfl ?_
 refine o_initObj K X0 (w124 hw) (w19 hw) (w20 hw) d14_1 rfl rfl (by decide) (W := 0) rfl (by decide) ?_
 intro T1 X1
 refine o_aloadN K X1 d14_4 rfl rfl rfl ?_
 refine o_aloadN K X1 d14_5 rfl rfl rfl ?_
 refine o_static K X1  (w125 hw) (w126 hw) (w127 hw) (w128 hw) (by decide) (rm_umap l Z a0 hw m ma mb h0 q2 q4 q5 q6) (by decide) rfl (argsL := [.ref m]) rfl (lenOf pd4 rfl) (W := 1) rfl (by decide) (by decide) (by decide) d14_6 rfl ?_
 intro v2 T2 h2 X2 U2
 obtain ⟨r_2, rfl, u2_0, u2_1, u2_2, u2_3, u2_4⟩ := U2
 have G2_r : Z.heap.size ≤ r_2 := Nat.le_trans X1.ext0.1 u2_1
 show oGoes pp ee bb ss Z T2 (mkF mm 9 _ [.ref r_2, .ref a]) _ _ _
 have m4 := (q3.keep u2_0 nin0)
 have m5 := (q0.keep u2_0)
 refine o_putfield K X2 (host := "") (Or.inl (w149 hw)) Via.refl m4 m5 (Or.inr ⟨(w150 hw), rfl, rfl⟩) (w120 hw) (ty := (.object "java/util/Map")) (by decide) rfl rfl q1 d14_9 rfl ?_
 intro T3 h3 X3 W3
 have F3 := Fld.same W3 m4
 refine o_return K X3 d14_12 rfl ?_ (by decide) (by decide)
 have m6 := (Exa.wr W3 m5)
 have m7 := (Exa.wr W3 u2_2)
 have n8 := oLsz q0.lt u2_1
 have m9 := (Fld.other W3 u2_3 (Or.inl n8))
 have m10 := (Fld.other W3 u2_4 (Or.inl n8))
 exact ⟨r_2, rfl, (((Keep.refl h0 [a]).trans u2_0 all0).wr W3 (Or.inl me0)), m6, F3, u2_1, m7, m9, m10⟩
theorem d15_0 : decode prog_32_method_2_code 0 = .ok (.new 19, 3) := by decide +kernel
theorem d15_3 : decode prog_32_method_2_code 3 = .ok (.dup, 1) := by decide +kernel
theorem d15_4 : decode prog_32_method_2_code 4 = .ok (.invokespecial 21, 3) := by decide +kernel
theorem d15_7 : decode prog_32_method_2_code 7 = .ok (.astore_n 2, 1) := by decide +kernel
theorem d15_8 : decode prog_32_method_2_code 8 = .ok (.aload_n 0, 1) := by decide +kernel
theorem d15_9 : decode prog_32_method_2_code 9 = .ok (.invokeinterface 22 1, 5) := by decide +kernel
theorem d15_14 : decode prog_32_method_2_code 14 = .ok (.astore_n 3, 1) := by decide +kernel
theorem d15_15 : decode prog_32_method_2_code 15 = .ok (.aload_n 3, 1) := by decide +kernel
theorem d15_16 : decode prog_32_method_2_code 16 = .ok (.invokeinterface 28 1, 5) := by decide +kernel
theorem d15_21 : decode prog_32_method_2_code 21 = .ok (.ifCond .eq 52, 3) := by decide +kernel
theorem d15_73 : decode prog_32_method_2_code 73 = .ok (.new 14, 3) := by decide +kernel
theorem d15_76 : decode prog_32_method_2_code 76 = .ok (.dup, 1) := by decide +kernel
theorem d15_77 : decode prog_32_method_2_code 77 = .ok (.aload_n 2, 1) := by decide +kernel
theorem d15_78 : decode prog_32_method_2_code 78 = .ok (.invokespecial 65, 3) := by decide +kernel
theorem d15_81 : decode prog_32_method_2_code 81 = .ok (.areturn, 1) := by decide +kernel
theorem pd5 : parseMethodDescriptor z16 = some ⟨[], some (.object z21)⟩ := by decide +kernel
theorem pd6 : parseMethodDescriptor "()Z" = some ⟨[], some .boolean⟩ := by decide +kernel
def r_judge : Room := { frames := 4, cells := 4, slots := 21, locals := 53 }
def Q_judge (Z : State) (li : Addr) (mc : Int32) (ma mb : Addr) (h0 : Heap) (v : Option Value) (h : Heap) : Prop := ∃ r u m : Addr, v = some (.ref r) ∧ Keep h0 h [] ∧ h0.size ≤ r ∧ Exa Z h r z5 ∧ Fld Z h r z5 "findings" z14 (.ref u) ∧ h0.size ≤ u ∧ Exa Z h u z3 ∧ Fld Z h u z3 "m" z14 (.ref m) ∧ Fld Z h u z3 "entrySet" z13 .null ∧ h0.size ≤ m ∧ Exa Z h m z0 ∧ Fld Z h m z7 "entrySet" z13 .null ∧ Fld Z h m z0 "head" z11 .null ∧ Fld Z h m z7 "modCount" "I" (.int 0) ∧ u ≠ m ∧ r ≠ u ∧ r ≠ m
theorem rm_judge (l : Launch) (Z : State) (a0 : Array Value) (hw : oHw Z a0) (li : Addr) (mc : Int32) (ma mb : Addr) (h0 : Heap) (q0 : Exa Z h0 li z8) (q1 : Fld Z h0 li z8 "size" "I" (.int 0)) (q2 : Fld Z h0 li z26 "modCount" "I" (.int mc)) (q3 : oMir Z z0 ma) (q4 : oMir Z z3 mb) (q5 : ma ≠ mb) : oMet l Z (⟨z5, "judge", z32⟩ : MethodName) prog_32_method_2_code 5 (some (.object z5)) r_judge [] #[.ref li, .null] h0 (Q_judge Z li mc ma mb h0) := by
 refine oEnter (plainFor_of_name (by first | (simp [plainName, overriddenIn]; done) | decide +kernel)) (own := z5) (nm := "judge") rfl rfl (L := #[.val (.ref li), .val .null, .unset, .unset, .unset]) (fun m => by first | (simp [entryFrame, mkF, argsToLocals, Value.category]; done) | rfl) ?_
 intro pp ee ss mm bb mtd cc T0 K X0
 have E0 := X0.ext0
 refine o_new K X0 (w55 hw) (w56 hw) (w57 hw) d15_0 rfl (by decide) (by decide) ?_
 intro T1 h1 b1 X1 g1 E1 A1 D1 G1
 have F1_loadFactor : Fld Z h1 b1 z7 "loadFactor" "F" (.float (0 : UInt32)) := (D1 (Or.inr (w76 hw)) (ty := .float) (by decide))
 have F1_putMode : Fld Z h1 b1 z0 "putMode" "I" (.int 0) := (D1 (Or.inl (w78 hw)) (ty := .int) (by decide))
 have F1_accessOrder : Fld Z h1 b1 z0 "accessOrder" "Z" (.int 0) := (D1 (Or.inr (w80 hw)) (ty := .boolean) (by decide))
 have F1_entrySet : Fld Z h1 b1 z7 "entrySet" z13 .null := (D1 (Or.inl (w243 hw)) (ty := (.object "java/util/Set")) (by decide))
 have F1_head : Fld Z h1 b1 z0 "head" z11 .null := (D1 (Or.inl (w331 hw)) (ty := (.object z24)) (by decide))
 have F1_modCount : Fld Z h1 b1 z7 "modCount" "I" (.int 0) := (D1 (Or.inl (w336 hw)) (ty := .int) (by decide))
 refine o_dup K X1 d15_3 rfl rfl ?_
 refine o_special K X1 (y := (⟨z0, "<init>", "()V"⟩ : MethodName)) rfl (w58 hw) (w59 hw) (w57 hw) (w60 hw) (by decide) (rm_lhminit l Z a0 hw b1 h1 A1 G1 F1_loadFactor F1_putMode F1_accessOrder F1_entrySet F1_head F1_modCount) (by decide) rfl (argsL := []) rfl (lenOf pd1 rfl) (W := 1) rfl (by decide) (by decide) (by decide) d15_4 rfl ?_
 intro v2 T2 h2 X2 U2
 obtain ⟨rfl, u2_0, u2_1, u2_2, u2_3, u2_4, u2_5, u2_6, u2_7⟩ := U2
 show oGoes pp ee bb ss Z T2 (mkF mm 7 _ [.ref b1]) _ _ _
 refine o_astoreN K X2 d15_7 rfl rfl (L' := #[vR li, vN, vR b1, uS, uS]) rfl ?_
 refine o_aloadN K X2 d15_8 rfl rfl rfl ?_
 have m3 := ((q0.ext E1).keep u2_0)
 have n4 := oLz q0.lt (oLe g1)
 have m5 := ((q1.ext E1).keep u2_0 (ninS n4 nin0))
 have m6 := ((q2.ext E1).keep u2_0 (ninS n4 nin0))
 refine o_interface K X2 (y := (⟨"java/util/List", "iterator", z16⟩ : MethodName)) (z := (⟨z8, "iterator", z16⟩ : MethodName)) (w81 hw) (w82 hw) (w83 hw) rfl (w84 hw) (w85 hw) (w86 hw) (w87 hw) (w88 hw) (w29 hw) (w89 hw) (by decide) m3 (rm_aliter l Z a0 hw li mc h2 m3 m5 m6) (by decide) rfl (argsL := []) rfl (lenOf pd5 rfl) (W := 0) rfl (by decide) (by decide) (by decide) d15_9 rfl ?_
 intro v7 T7 h7 X7 U7
 obtain ⟨r_7, rfl, u7_0, u7_1, u7_2, u7_3, u7_4⟩ := U7
 have G7_r : Z.heap.size ≤ r_7 := Nat.le_trans X2.ext0.1 u7_1
 show oGoes pp ee bb ss Z T7 (mkF mm 14 _ [.ref r_7]) _ _ _
 refine o_astoreN K X7 d15_14 rfl rfl (L' := #[vR li, vN, vR b1, vR r_7, uS]) rfl ?_
 refine o_aloadN K X7 d15_15 rfl rfl rfl ?_
 have m8 := (m5.keep u7_0 nin0)
 refine o_interface K X7 (y := (⟨z21, "hasNext", "()Z"⟩ : MethodName)) (z := (⟨z10, "hasNext", "()Z"⟩ : MethodName)) (w106 hw) (w107 hw) (w108 hw) rfl (w109 hw) (w110 hw) (w111 hw) (w112 hw) (w113 hw) (w92 hw) (w114 hw) (by decide) u7_2 (rm_itrhas l Z a0 hw r_7 li h7 u7_4 u7_3 m8) (by decide) rfl (argsL := []) rfl (lenOf pd6 rfl) (W := 0) rfl (by decide) (by decide) (by decide) d15_16 rfl ?_
 intro v9 T9 h9 X9 U9
 obtain ⟨rfl, rfl⟩ := U9
 show oGoes pp ee bb ss Z T9 (mkF mm 21 _ [.int 0]) _ _ _
 refine o_if_eq_t K X9 d15_21 (by decide) (pc' := 73) (by decide) (by decide) ?_
 refine o_new K X9 (w119 hw) (w120 hw) (w53 hw) d15_73 rfl (by decide) (by decide) ?_
 intro T10 h10 b10 X10 g10 E10 A10 D10 G10
 have F10_findings : Fld Z h10 b10 z5 "findings" z14 .null := (D10 (Or.inr (w150 hw)) (ty := (.object "java/util/Map")) (by decide))
 refine o_dup K X10 d15_76 rfl rfl ?_
 refine o_aloadN K X10 d15_77 rfl rfl rfl ?_
 have m11 := ((u2_1.keep u7_0).ext E10)
 refine o_special K X10 (y := (⟨z5, "<init>", "(Ljava/util/Map;)V"⟩ : MethodName)) rfl (w121 hw) (w122 hw) (w53 hw) (w123 hw) (by decide) (rm_rpinit l Z a0 hw b10 b1 ma mb h10 A10 G10 m11 F10_findings q3 q4 q5) (by decide) rfl (argsL := [.ref b1]) rfl (lenOf pd3 rfl) (W := 1) rfl (by decide) (by decide) (by decide) d15_78 rfl ?_
 intro v12 T12 h12 X12 U12
 obtain ⟨u_12, rfl, u12_0, u12_1, u12_2, u12_3, u12_4, u12_5, u12_6⟩ := U12
 have G12_u : Z.heap.size ≤ u_12 := Nat.le_trans X10.ext0.1 u12_3
 show oGoes pp ee bb ss Z T12 (mkF mm 81 _ [.ref b10]) _ _ _
 refine o_areturn K X12 (t := (.object z5)) d15_81 rfl rfl rfl ?_ (by decide) (by decide)
 have y0_3 := Nat.le_trans (Nat.le_trans E1.1 u2_0.1) u7_0.1
 have m13 := (m11.keep u12_0)
 have n14 := oLn A1.lt (Nat.le_trans u2_0.1 u7_0.1) (oLe g10)
 have m15 := (((u2_5.keep u7_0 nin0).ext E10).keep u12_0 (ninS n14 nin0))
 have m16 := (((u2_6.keep u7_0 nin0).ext E10).keep u12_0 (ninS n14 nin0))
 have m17 := (((u2_7.keep u7_0 nin0).ext E10).keep u12_0 (ninS n14 nin0))
 have y1_4 := Nat.le_trans (Nat.le_trans u2_0.1 u7_0.1) E10.1
 have n18 := oLsn A1.lt y1_4 u12_3
 have n19 := oLz A10.lt u12_3
 exact ⟨b10, u_12, b1, rfl, ((((((Keep.refl h0 []).ext E1).trans u2_0 (allS (Or.inr (oLe g1)) all0)).trans u7_0 all0).ext E10).trans u12_0 (allS (Or.inr (Nat.le_trans y0_3 (oLe g10))) all0)), (Nat.le_trans y0_3 (oLe g10)), u12_1, u12_2, (Nat.le_trans (Nat.le_trans y0_3 E10.1) u12_3), u12_4, u12_5, u12_6, (oLe g1), m13, m15, m16, m17, n18, n19, (Ne.symm n14)⟩
theorem d16_0 : decode prog_42_method_1_code 0 = .ok (.aload_n 0, 1) := by decide +kernel
theorem d16_1 : decode prog_42_method_1_code 1 = .ok (.invokespecial 1, 3) := by decide +kernel
theorem d16_4 : decode prog_42_method_1_code 4 = .ok (.return_, 1) := by decide +kernel
def r_toinit : Room := { frames := 1, cells := 0, slots := 0, locals := 12 }
def Q_toinit (Z : State) (a : Addr) (h0 : Heap) (v : Option Value) (h : Heap) : Prop := v = none ∧ Keep h0 h [a] ∧ Exa Z h a z1 ∧ Fld Z h a z1 "passed" "I" (.int 0) ∧ Fld Z h a z1 "failed" "I" (.int 0) ∧ Fld Z h a z1 "unusable" "I" (.int 0)
theorem rm_toinit (l : Launch) (Z : State) (a0 : Array Value) (hw : oHw Z a0) (a : Addr) (h0 : Heap) (q0 : Exa Z h0 a z1) (q1 : Z.heap.size ≤ a) (q2 : Fld Z h0 a z1 "passed" "I" (.int 0)) (q3 : Fld Z h0 a z1 "failed" "I" (.int 0)) (q4 : Fld Z h0 a z1 "unusable" "I" (.int 0)) : oMet l Z (⟨z1, "<init>", "()V"⟩ : MethodName) prog_42_method_1_code 1 none r_toinit [] #[.ref a] h0 (Q_toinit Z a h0) := by
 refine oEnter (plainFor_of_name (by first | (simp [plainName, overriddenIn]; done) | decide +kernel)) (own := z1) (nm := "<init>") rfl rfl (L := #[.val (.ref a)]) (fun m => by first | (simp [entryFrame, mkF, argsToLocals, Value.category]; done) | rfl) ?_
 intro pp ee ss mm bb mtd cc T0 K X0
 have E0 := X0.ext0
 refine o_aloadN K X0 d16_0 rfl rfl rfl ?_
 refine o_initObj K X0 (w160 hw) (w19 hw) (w20 hw) d16_1 rfl rfl (by decide) (W := 0) rfl (by decide) ?_
 intro T1 X1
 refine o_return K X1 d16_4 rfl ?_ (by decide) (by decide)
 exact ⟨rfl, (Keep.refl h0 [a]), q0, q2, q3, q4⟩
theorem d17_0 : decode prog_42_method_3_code 0 = .ok (.aload_n 0, 1) := by decide +kernel
theorem d17_1 : decode prog_42_method_3_code 1 = .ok (.getfield 37, 3) := by decide +kernel
theorem d17_4 : decode prog_42_method_3_code 4 = .ok (.aload_n 0, 1) := by decide +kernel
theorem d17_5 : decode prog_42_method_3_code 5 = .ok (.getfield 34, 3) := by decide +kernel
theorem d17_8 : decode prog_42_method_3_code 8 = .ok (.iadd, 1) := by decide +kernel
theorem d17_9 : decode prog_42_method_3_code 9 = .ok (.aload_n 0, 1) := by decide +kernel
theorem d17_10 : decode prog_42_method_3_code 10 = .ok (.getfield 19, 3) := by decide +kernel
theorem d17_13 : decode prog_42_method_3_code 13 = .ok (.iadd, 1) := by decide +kernel
theorem d17_14 : decode prog_42_method_3_code 14 = .ok (.ireturn, 1) := by decide +kernel
def r_gcap0 : Room := { frames := 0, cells := 0, slots := 0, locals := 0 }
def Q_gcap0 (Z : State) (a : Addr) (h0 : Heap) (v : Option Value) (h : Heap) : Prop := v = some (.int 0) ∧ h0 = h
theorem rm_gcap0 (l : Launch) (Z : State) (a0 : Array Value) (hw : oHw Z a0) (a : Addr) (h0 : Heap) (q0 : Fld Z h0 a z1 "passed" "I" (.int 0)) (q1 : Fld Z h0 a z1 "failed" "I" (.int 0)) (q2 : Fld Z h0 a z1 "unusable" "I" (.int 0)) : oMet l Z (⟨z1, "getCaptures", "()I"⟩ : MethodName) prog_42_method_3_code 1 (some .int) r_gcap0 [] #[.ref a] h0 (Q_gcap0 Z a h0) := by
 refine oEnter (plainFor_of_name (by first | (simp [plainName, overriddenIn]; done) | decide +kernel)) (own := z1) (nm := "getCaptures") rfl rfl (L := #[.val (.ref a)]) (fun m => by first | (simp [entryFrame, mkF, argsToLocals, Value.category]; done) | rfl) ?_
 intro pp ee ss mm bb mtd cc T0 K X0
 have E0 := X0.ext0
 refine o_aloadN K X0 d17_0 rfl rfl rfl ?_
 refine o_getfield K X0 (host := "") (Or.inl (w166 hw)) Via.refl q0 d17_1 rfl ?_
 intro T1 X1
 refine o_aloadN K X1 d17_4 rfl rfl rfl ?_
 refine o_getfield K X1 (host := "") (Or.inl (w168 hw)) Via.refl q1 d17_5 rfl ?_
 intro T2 X2
 refine o_iadd K X2 d17_8 rfl (z := 0) (by decide) ?_
 refine o_aloadN K X2 d17_9 rfl rfl rfl ?_
 refine o_getfield K X2 (host := "") (Or.inl (w170 hw)) Via.refl q2 d17_10 rfl ?_
 intro T3 X3
 refine o_iadd K X3 d17_13 rfl (z := 0) (by decide) ?_
 refine o_ireturn K X3 d17_14 rfl ?_ (by decide) (by decide)
 exact ⟨rfl, rfl⟩
def r_gcap : Room := { frames := 0, cells := 0, slots := 0, locals := 0 }
def Q_gcap (Z : State) (a : Addr) (p f u : Int32) (h0 : Heap) (v : Option Value) (h : Heap) : Prop := v = some (.int ((p + f) + u)) ∧ h0 = h
theorem rm_gcap (l : Launch) (Z : State) (a0 : Array Value) (hw : oHw Z a0) (a : Addr) (p f u : Int32) (h0 : Heap) (q0 : Fld Z h0 a z1 "passed" "I" (.int p)) (q1 : Fld Z h0 a z1 "failed" "I" (.int f)) (q2 : Fld Z h0 a z1 "unusable" "I" (.int u)) : oMet l Z (⟨z1, "getCaptures", "()I"⟩ : MethodName) prog_42_method_3_code 1 (some .int) r_gcap [] #[.ref a] h0 (Q_gcap Z a p f u h0) := by
 refine oEnter (plainFor_of_name (by first | (simp [plainName, overriddenIn]; done) | decide +kernel)) (own := z1) (nm := "getCaptures") rfl rfl (L := #[.val (.ref a)]) (fun m => by first | (simp [entryFrame, mkF, argsToLocals, Value.category]; done) | rfl) ?_
 intro pp ee ss mm bb mtd cc T0 K X0
 have E0 := X0.ext0
 refine o_aloadN K X0 d17_0 rfl rfl rfl ?_
 refine o_getfield K X0 (host := "") (Or.inl (w166 hw)) Via.refl q0 d17_1 rfl ?_
 intro T1 X1
 refine o_aloadN K X1 d17_4 rfl rfl rfl ?_
 refine o_getfield K X1 (host := "") (Or.inl (w168 hw)) Via.refl q1 d17_5 rfl ?_
 intro T2 X2
 refine o_iadd K X2 d17_8 rfl (z := (p + f)) rfl ?_
 refine o_aloadN K X2 d17_9 rfl rfl rfl ?_
 refine o_getfield K X2 (host := "") (Or.inl (w170 hw)) Via.refl q2 d17_10 rfl ?_
 intro T3 X3
 refine o_iadd K X3 d17_13 rfl (z := ((p + f) + u)) rfl ?_
 refine o_ireturn K X3 d17_14 rfl ?_ (by decide) (by decide)
 exact ⟨rfl, rfl⟩
theorem d18_0 : decode jdk_32_method_2_code 0 = .ok (.aload_n 0, 1) := by decide +kernel
theorem d18_1 : decode jdk_32_method_2_code 1 = .ok (.invokespecial 7, 3) := by decide +kernel
theorem d18_4 : decode jdk_32_method_2_code 4 = .ok (.aload_n 0, 1) := by decide +kernel
theorem d18_5 : decode jdk_32_method_2_code 5 = .ok (.aload_n 1, 1) := by decide +kernel
theorem d18_6 : decode jdk_32_method_2_code 6 = .ok (.putfield 13, 3) := by decide +kernel
theorem d18_9 : decode jdk_32_method_2_code 9 = .ok (.return_, 1) := by decide +kernel
def r_optinit : Room := { frames := 1, cells := 0, slots := 0, locals := 12 }
def Q_optinit (Z : State) (a x : Addr) (h0 : Heap) (v : Option Value) (h : Heap) : Prop := v = none ∧ Keep h0 h [a] ∧ Exa Z h a z4 ∧ Fld Z h a z4 "value" "Ljava/lang/Object;" (.ref x)
theorem rm_optinit (l : Launch) (Z : State) (a0 : Array Value) (hw : oHw Z a0) (a x : Addr) (h0 : Heap) (q0 : Exa Z h0 a z4) (q1 : Z.heap.size ≤ a) (q2 : Fld Z h0 a z4 "value" "Ljava/lang/Object;" .null) : oMet l Z (⟨z4, "<init>", "(Ljava/lang/Object;)V"⟩ : MethodName) jdk_32_method_2_code 2 none r_optinit [] #[.ref a, .ref x] h0 (Q_optinit Z a x h0) := by
 refine oEnter (plainFor_of_name (by first | (simp [plainName, overriddenIn]; done) | decide +kernel)) (own := z4) (nm := "<init>") rfl rfl (L := #[.val (.ref a), .val (.ref x)]) (fun m => by first | (simp [entryFrame, mkF, argsToLocals, Value.category]; done) | rfl) ?_
 intro pp ee ss mm bb mtd cc T0 K X0
 have E0 := X0.ext0
 refine o_aloadN K X0 d18_0 rfl rfl rfl ?_
 refine o_initObj K X0 (w196 hw) (w19 hw) (w20 hw) d18_1 rfl rfl (by decide) (W := 0) rfl (by decide) ?_
 intro T1 X1
 refine o_aloadN K X1 d18_4 rfl rfl rfl ?_
 refine o_aloadN K X1 d18_5 rfl rfl rfl ?_
 refine o_putfield K X1 (host := "") (Or.inl (w197 hw)) Via.refl q2 q0 (Or.inr ⟨(w198 hw), rfl, rfl⟩) (w191 hw) (ty := (.object z18)) (by decide) rfl rfl q1 d18_6 rfl ?_
 intro T2 h2 X2 W2
 have F2 := Fld.same W2 q2
 refine o_return K X2 d18_9 rfl ?_ (by decide) (by decide)
 have m3 := (Exa.wr W2 q0)
 exact ⟨rfl, ((Keep.refl h0 [a]).wr W2 (Or.inl me0)), m3, F2⟩
theorem d19_0 : decode jdk_32_method_4_code 0 = .ok (.aload_n 0, 1) := by decide +kernel
theorem d19_1 : decode jdk_32_method_4_code 1 = .ok (.ifnonnull 9, 3) := by decide +kernel
theorem d19_4 : decode jdk_32_method_4_code 4 = .ok (.getstatic 1, 3) := by decide +kernel
theorem d19_7 : decode jdk_32_method_4_code 7 = .ok (.goto 11, 3) := by decide +kernel
theorem d19_18 : decode jdk_32_method_4_code 18 = .ok (.areturn, 1) := by decide +kernel
def r_ofn0 : Room := { frames := 0, cells := 0, slots := 0, locals := 0 }
def Q_ofn0 (Z : State) (em : Addr) (h0 : Heap) (v : Option Value) (h : Heap) : Prop := v = some (.ref em) ∧ h0 = h
theorem rm_ofn0 (l : Launch) (Z : State) (a0 : Array Value) (hw : oHw Z a0) (em : Addr) (h0 : Heap) (q0 : Sta Z Z.heap z4 "EMPTY" "Ljava/util/Optional;" (.ref em)) : oMet l Z (⟨z4, "ofNullable", "(Ljava/lang/Object;)Ljava/util/Optional;"⟩ : MethodName) jdk_32_method_4_code 1 (some (.object z4)) r_ofn0 [] #[.null] h0 (Q_ofn0 Z em h0) := by
 refine oEnter (plainFor_of_name (by first | (simp [plainName, overriddenIn]; done) | decide +kernel)) (own := z4) (nm := "ofNullable") rfl rfl (L := #[.val .null]) (fun m => by first | (simp [entryFrame, mkF, argsToLocals, Value.category]; done) | rfl) ?_
 intro pp ee ss mm bb mtd cc T0 K X0
 have E0 := X0.ext0
 refine o_aloadN K X0 d19_0 rfl rfl rfl ?_
 refine o_ifnonnull_f K X0 d19_1 rfl ?_
 refine o_getstatic K X0 (host := "") (Or.inl (w356 hw)) Via.refl (q0.ext X0.ext0) d19_4 rfl ?_
 intro T1 X1
 refine o_goto K X1 d19_7 (by decide) (pc' := 18) (by decide) ?_
 refine o_areturn K X1 (t := (.object z4)) d19_18 rfl rfl rfl ?_ (by decide) (by decide)
 exact ⟨rfl, rfl⟩
theorem d19_10 : decode jdk_32_method_4_code 10 = .ok (.new 2, 3) := by decide +kernel
theorem d19_13 : decode jdk_32_method_4_code 13 = .ok (.dup, 1) := by decide +kernel
theorem d19_14 : decode jdk_32_method_4_code 14 = .ok (.aload_n 0, 1) := by decide +kernel
theorem d19_15 : decode jdk_32_method_4_code 15 = .ok (.invokespecial 23, 3) := by decide +kernel
theorem pd7 : parseMethodDescriptor "(Ljava/lang/Object;)V" = some ⟨[(.object z18)], none⟩ := by decide +kernel
def r_ofn1 : Room := { frames := 2, cells := 1, slots := 1, locals := 26 }
def Q_ofn1 (Z : State) (x : Addr) (h0 : Heap) (v : Option Value) (h : Heap) : Prop := ∃ r : Addr, v = some (.ref r) ∧ Keep h0 h [] ∧ h0.size ≤ r ∧ Exa Z h r z4 ∧ Fld Z h r z4 "value" "Ljava/lang/Object;" (.ref x)
theorem rm_ofn1 (l : Launch) (Z : State) (a0 : Array Value) (hw : oHw Z a0) (x : Addr) (h0 : Heap) : oMet l Z (⟨z4, "ofNullable", "(Ljava/lang/Object;)Ljava/util/Optional;"⟩ : MethodName) jdk_32_method_4_code 1 (some (.object z4)) r_ofn1 [] #[.ref x] h0 (Q_ofn1 Z x h0) := by
 refine oEnter (plainFor_of_name (by first | (simp [plainName, overriddenIn]; done) | decide +kernel)) (own := z4) (nm := "ofNullable") rfl rfl (L := #[.val (.ref x)]) (fun m => by first | (simp [entryFrame, mkF, argsToLocals, Value.category]; done) | rfl) ?_
 intro pp ee ss mm bb mtd cc T0 K X0
 have E0 := X0.ext0
 refine o_aloadN K X0 d19_0 rfl rfl rfl ?_
 refine o_ifnonnull_t K X0 d19_1 (by decide) (pc' := 10) (by decide) ?_
 refine o_new K X0 (w190 hw) (w191 hw) (w188 hw) d19_10 rfl (by decide) (by decide) ?_
 intro T1 h1 b1 X1 g1 E1 A1 D1 G1
 have F1_value : Fld Z h1 b1 z4 "value" "Ljava/lang/Object;" .null := (D1 (Or.inr (w198 hw)) (ty := (.object z18)) (by decide))
 refine o_dup K X1 d19_13 rfl rfl ?_
 refine o_aloadN K X1 d19_14 rfl rfl rfl ?_
 refine o_special K X1 (y := (⟨z4, "<init>", "(Ljava/lang/Object;)V"⟩ : MethodName)) rfl (w192 hw) (w193 hw) (w188 hw) (w195 hw) (by decide) (rm_optinit l Z a0 hw b1 x h1 A1 G1 F1_value) (by decide) rfl (argsL := [.ref x]) rfl (lenOf pd7 rfl) (W := 1) rfl (by decide) (by decide) (by decide) d19_15 rfl ?_
 intro v2 T2 h2 X2 U2
 obtain ⟨rfl, u2_0, u2_1, u2_2⟩ := U2
 show oGoes pp ee bb ss Z T2 (mkF mm 18 _ [.ref b1]) _ _ _
 refine o_areturn K X2 (t := (.object z4)) d19_18 rfl rfl rfl ?_ (by decide) (by decide)
 exact ⟨b1, rfl, (((Keep.refl h0 []).ext E1).trans u2_0 (allS (Or.inr (oLe g1)) all0)), (oLe g1), u2_1, u2_2⟩
theorem d20_0 : decode jdk_32_method_7_code 0 = .ok (.aload_n 0, 1) := by decide +kernel
theorem d20_1 : decode jdk_32_method_7_code 1 = .ok (.getfield 13, 3) := by decide +kernel
theorem d20_4 : decode jdk_32_method_7_code 4 = .ok (.ifnonnull 7, 3) := by decide +kernel
theorem d20_7 : decode jdk_32_method_7_code 7 = .ok (.iconst 1, 1) := by decide +kernel
theorem d20_8 : decode jdk_32_method_7_code 8 = .ok (.goto 4, 3) := by decide +kernel
theorem d20_12 : decode jdk_32_method_7_code 12 = .ok (.ireturn, 1) := by decide +kernel
def r_oemp1 : Room := { frames := 0, cells := 0, slots := 0, locals := 0 }
def Q_oemp1 (Z : State) (a : Addr) (h0 : Heap) (v : Option Value) (h : Heap) : Prop := v = some (.int 1) ∧ h0 = h
theorem rm_oemp1 (l : Launch) (Z : State) (a0 : Array Value) (hw : oHw Z a0) (a : Addr) (h0 : Heap) (q0 : Fld Z h0 a z4 "value" "Ljava/lang/Object;" .null) : oMet l Z (⟨z4, "isEmpty", "()Z"⟩ : MethodName) jdk_32_method_7_code 1 (some .boolean) r_oemp1 [] #[.ref a] h0 (Q_oemp1 Z a h0) := by
 refine oEnter (plainFor_of_name (by first | (simp [plainName, overriddenIn]; done) | decide +kernel)) (own := z4) (nm := "isEmpty") rfl rfl (L := #[.val (.ref a)]) (fun m => by first | (simp [entryFrame, mkF, argsToLocals, Value.category]; done) | rfl) ?_
 intro pp ee ss mm bb mtd cc T0 K X0
 have E0 := X0.ext0
 refine o_aloadN K X0 d20_0 rfl rfl rfl ?_
 refine o_getfield K X0 (host := "") (Or.inl (w197 hw)) Via.refl q0 d20_1 rfl ?_
 intro T1 X1
 refine o_ifnonnull_f K X1 d20_4 rfl ?_
 refine o_iconst K X1 d20_7 rfl (z := 1) rfl ?_
 refine o_goto K X1 d20_8 (by decide) (pc' := 12) (by decide) ?_
 refine o_ireturnN K X1 .boolean d20_12 rfl (by simp) (z' := 1) (by decide) ?_ (by decide) (by decide)
 exact ⟨rfl, rfl⟩
theorem d20_11 : decode jdk_32_method_7_code 11 = .ok (.iconst 0, 1) := by decide +kernel
def r_oemp0 : Room := { frames := 0, cells := 0, slots := 0, locals := 0 }
def Q_oemp0 (Z : State) (a x : Addr) (h0 : Heap) (v : Option Value) (h : Heap) : Prop := v = some (.int 0) ∧ h0 = h
theorem rm_oemp0 (l : Launch) (Z : State) (a0 : Array Value) (hw : oHw Z a0) (a x : Addr) (h0 : Heap) (q0 : Fld Z h0 a z4 "value" "Ljava/lang/Object;" (.ref x)) : oMet l Z (⟨z4, "isEmpty", "()Z"⟩ : MethodName) jdk_32_method_7_code 1 (some .boolean) r_oemp0 [] #[.ref a] h0 (Q_oemp0 Z a x h0) := by
 refine oEnter (plainFor_of_name (by first | (simp [plainName, overriddenIn]; done) | decide +kernel)) (own := z4) (nm := "isEmpty") rfl rfl (L := #[.val (.ref a)]) (fun m => by first | (simp [entryFrame, mkF, argsToLocals, Value.category]; done) | rfl) ?_
 intro pp ee ss mm bb mtd cc T0 K X0
 have E0 := X0.ext0
 refine o_aloadN K X0 d20_0 rfl rfl rfl ?_
 refine o_getfield K X0 (host := "") (Or.inl (w197 hw)) Via.refl q0 d20_1 rfl ?_
 intro T1 X1
 refine o_ifnonnull_t K X1 d20_4 (by decide) (pc' := 11) (by decide) ?_
 refine o_iconst K X1 d20_11 rfl (z := 0) rfl ?_
 refine o_ireturnN K X1 .boolean d20_12 rfl (by simp) (z' := 0) (by decide) ?_ (by decide) (by decide)
 exact ⟨rfl, rfl⟩
theorem d21_0 : decode jdk_32_method_5_code 0 = .ok (.aload_n 0, 1) := by decide +kernel
theorem d21_1 : decode jdk_32_method_5_code 1 = .ok (.getfield 13, 3) := by decide +kernel
theorem d21_4 : decode jdk_32_method_5_code 4 = .ok (.ifnonnull 13, 3) := by decide +kernel
theorem d21_17 : decode jdk_32_method_5_code 17 = .ok (.aload_n 0, 1) := by decide +kernel
theorem d21_18 : decode jdk_32_method_5_code 18 = .ok (.getfield 13, 3) := by decide +kernel
theorem d21_21 : decode jdk_32_method_5_code 21 = .ok (.areturn, 1) := by decide +kernel
def r_oget : Room := { frames := 0, cells := 0, slots := 0, locals := 0 }
def Q_oget (Z : State) (a x : Addr) (h0 : Heap) (v : Option Value) (h : Heap) : Prop := v = some (.ref x) ∧ h0 = h
theorem rm_oget (l : Launch) (Z : State) (a0 : Array Value) (hw : oHw Z a0) (a x : Addr) (h0 : Heap) (q0 : Fld Z h0 a z4 "value" "Ljava/lang/Object;" (.ref x)) : oMet l Z (⟨z4, "get", "()Ljava/lang/Object;"⟩ : MethodName) jdk_32_method_5_code 1 (some (.object z18)) r_oget [] #[.ref a] h0 (Q_oget Z a x h0) := by
 refine oEnter (plainFor_of_name (by first | (simp [plainName, overriddenIn]; done) | decide +kernel)) (own := z4) (nm := "get") rfl rfl (L := #[.val (.ref a)]) (fun m => by first | (simp [entryFrame, mkF, argsToLocals, Value.category]; done) | rfl) ?_
 intro pp ee ss mm bb mtd cc T0 K X0
 have E0 := X0.ext0
 refine o_aloadN K X0 d21_0 rfl rfl rfl ?_
 refine o_getfield K X0 (host := "") (Or.inl (w197 hw)) Via.refl q0 d21_1 rfl ?_
 intro T1 X1
 refine o_ifnonnull_t K X1 d21_4 (by decide) (pc' := 17) (by decide) ?_
 refine o_aloadN K X1 d21_17 rfl rfl rfl ?_
 refine o_getfield K X1 (host := "") (Or.inl (w197 hw)) Via.refl q0 d21_18 rfl ?_
 intro T2 X2
 refine o_areturn K X2 (t := (.object z18)) d21_21 rfl rfl rfl ?_ (by decide) (by decide)
 exact ⟨rfl, rfl⟩
theorem d22_0 : decode prog_35_method_5_code 0 = .ok (.aload_n 0, 1) := by decide +kernel
theorem d22_1 : decode prog_35_method_5_code 1 = .ok (.getfield 13, 3) := by decide +kernel
theorem d22_4 : decode prog_35_method_5_code 4 = .ok (.invokestatic 23, 3) := by decide +kernel
theorem d22_7 : decode prog_35_method_5_code 7 = .ok (.areturn, 1) := by decide +kernel
theorem pd8 : parseMethodDescriptor "(Ljava/lang/Object;)Ljava/util/Optional;" = some ⟨[(.object z18)], some (.object z4)⟩ := by decide +kernel
def r_grep0 : Room := { frames := 1, cells := 0, slots := 0, locals := 12 }
def Q_grep0 (Z : State) (a em : Addr) (h0 : Heap) (v : Option Value) (h : Heap) : Prop := v = some (.ref em) ∧ h0 = h
theorem rm_grep0 (l : Launch) (Z : State) (a0 : Array Value) (hw : oHw Z a0) (a em : Addr) (h0 : Heap) (q0 : Fld Z h0 a z2 "report" z20 .null) (q1 : Sta Z Z.heap z4 "EMPTY" "Ljava/util/Optional;" (.ref em)) : oMet l Z (⟨z2, "getReport", "()Ljava/util/Optional;"⟩ : MethodName) prog_35_method_5_code 1 (some (.object z4)) r_grep0 [] #[.ref a] h0 (Q_grep0 Z a em h0) := by
 refine oEnter (plainFor_of_name (by first | (simp [plainName, overriddenIn]; done) | decide +kernel)) (own := z2) (nm := "getReport") rfl rfl (L := #[.val (.ref a)]) (fun m => by first | (simp [entryFrame, mkF, argsToLocals, Value.category]; done) | rfl) ?_
 intro pp ee ss mm bb mtd cc T0 K X0
 have E0 := X0.ext0
 refine o_aloadN K X0 d22_0 rfl rfl rfl ?_
 refine o_getfield K X0 (host := "") (Or.inl (w23 hw)) Via.refl q0 d22_1 rfl ?_
 intro T1 X1
 refine o_static K X1  (w186 hw) (w187 hw) (w188 hw) (w189 hw) (by decide) (rm_ofn0 l Z a0 hw em h0 q1) (by decide) rfl (argsL := [.null]) rfl (lenOf pd8 rfl) (W := 0) rfl (by decide) (by decide) (by decide) d22_4 rfl ?_
 intro v2 T2 h2 X2 U2
 obtain ⟨rfl, rfl⟩ := U2
 show oGoes pp ee bb ss Z T2 (mkF mm 7 _ [.ref em]) _ _ _
 refine o_areturn K X2 (t := (.object z4)) d22_7 rfl rfl rfl ?_ (by decide) (by decide)
 exact ⟨rfl, rfl⟩
def r_grep1 : Room := { frames := 3, cells := 1, slots := 1, locals := 38 }
def Q_grep1 (Z : State) (a x : Addr) (h0 : Heap) (v : Option Value) (h : Heap) : Prop := ∃ r : Addr, v = some (.ref r) ∧ Keep h0 h [] ∧ h0.size ≤ r ∧ Exa Z h r z4 ∧ Fld Z h r z4 "value" "Ljava/lang/Object;" (.ref x)
theorem rm_grep1 (l : Launch) (Z : State) (a0 : Array Value) (hw : oHw Z a0) (a x : Addr) (h0 : Heap) (q0 : Fld Z h0 a z2 "report" z20 (.ref x)) : oMet l Z (⟨z2, "getReport", "()Ljava/util/Optional;"⟩ : MethodName) prog_35_method_5_code 1 (some (.object z4)) r_grep1 [] #[.ref a] h0 (Q_grep1 Z a x h0) := by
 refine oEnter (plainFor_of_name (by first | (simp [plainName, overriddenIn]; done) | decide +kernel)) (own := z2) (nm := "getReport") rfl rfl (L := #[.val (.ref a)]) (fun m => by first | (simp [entryFrame, mkF, argsToLocals, Value.category]; done) | rfl) ?_
 intro pp ee ss mm bb mtd cc T0 K X0
 have E0 := X0.ext0
 refine o_aloadN K X0 d22_0 rfl rfl rfl ?_
 refine o_getfield K X0 (host := "") (Or.inl (w23 hw)) Via.refl q0 d22_1 rfl ?_
 intro T1 X1
 refine o_static K X1  (w186 hw) (w187 hw) (w188 hw) (w189 hw) (by decide) (rm_ofn1 l Z a0 hw x h0) (by decide) rfl (argsL := [.ref x]) rfl (lenOf pd8 rfl) (W := 0) rfl (by decide) (by decide) (by decide) d22_4 rfl ?_
 intro v2 T2 h2 X2 U2
 obtain ⟨r_2, rfl, u2_0, u2_1, u2_2, u2_3⟩ := U2
 have G2_r : Z.heap.size ≤ r_2 := Nat.le_trans X1.ext0.1 u2_1
 show oGoes pp ee bb ss Z T2 (mkF mm 7 _ [.ref r_2]) _ _ _
 refine o_areturn K X2 (t := (.object z4)) d22_7 rfl rfl rfl ?_ (by decide) (by decide)
 exact ⟨r_2, rfl, ((Keep.refl h0 []).trans u2_0 all0), u2_1, u2_2, u2_3⟩
theorem d23_0 : decode jdk_91_method_1_code 0 = .ok (.aload_n 0, 1) := by decide +kernel
theorem d23_1 : decode jdk_91_method_1_code 1 = .ok (.invokespecial 1, 3) := by decide +kernel
theorem d23_4 : decode jdk_91_method_1_code 4 = .ok (.return_, 1) := by decide +kernel
def r_absinit : Room := { frames := 2, cells := 0, slots := 0, locals := 24 }
def Q_absinit (Z : State) (a : Addr) (h0 : Heap) (v : Option Value) (h : Heap) : Prop := v = none ∧ h0 = h
theorem rm_absinit (l : Launch) (Z : State) (a0 : Array Value) (hw : oHw Z a0) (a : Addr) (h0 : Heap) : oMet l Z (⟨"java/util/AbstractSet", "<init>", "()V"⟩ : MethodName) jdk_91_method_1_code 1 none r_absinit [] #[.ref a] h0 (Q_absinit Z a h0) := by
 refine oEnter (plainFor_of_name (by first | (simp [plainName, overriddenIn]; done) | decide +kernel)) (own := "java/util/AbstractSet") (nm := "<init>") rfl rfl (L := #[.val (.ref a)]) (fun m => by first | (simp [entryFrame, mkF, argsToLocals, Value.category]; done) | rfl) ?_
 intro pp ee ss mm bb mtd cc T0 K X0
 have E0 := X0.ext0
 refine o_aloadN K X0 d23_0 rfl rfl rfl ?_
 refine o_special K X0 (y := (⟨"java/util/AbstractCollection", "<init>", "()V"⟩ : MethodName)) rfl (w259 hw) (w40 hw) (w43 hw) (w44 hw) (by decide) (rm_abc l Z a0 hw a h0) (by decide) rfl (argsL := []) rfl (lenOf pd1 rfl) (W := 0) rfl (by decide) (by decide) (by decide) d23_1 rfl ?_
 intro v1 T1 h1 X1 U1
 obtain ⟨rfl, rfl⟩ := U1
 show oGoes pp ee bb ss Z T1 (mkF mm 4 _ []) _ _ _
 refine o_return K X1 d23_4 rfl ?_ (by decide) (by decide)
 exact ⟨rfl, rfl⟩
theorem d24_0 : decode jdk_113_method_1_code 0 = .ok (.aload_n 0, 1) := by decide +kernel
theorem d24_1 : decode jdk_113_method_1_code 1 = .ok (.aload_n 1, 1) := by decide +kernel
theorem d24_2 : decode jdk_113_method_1_code 2 = .ok (.putfield 1, 3) := by decide +kernel
theorem d24_5 : decode jdk_113_method_1_code 5 = .ok (.aload_n 0, 1) := by decide +kernel
theorem d24_6 : decode jdk_113_method_1_code 6 = .ok (.invokespecial 7, 3) := by decide +kernel
theorem d24_9 : decode jdk_113_method_1_code 9 = .ok (.aload_n 0, 1) := by decide +kernel
theorem d24_10 : decode jdk_113_method_1_code 10 = .ok (.iload_n 2, 1) := by decide +kernel
theorem d24_11 : decode jdk_113_method_1_code 11 = .ok (.putfield 13, 3) := by decide +kernel
theorem d24_14 : decode jdk_113_method_1_code 14 = .ok (.return_, 1) := by decide +kernel
def r_lesinit : Room := { frames := 3, cells := 0, slots := 0, locals := 36 }
def Q_lesinit (Z : State) (a m : Addr) (h0 : Heap) (v : Option Value) (h : Heap) : Prop := v = none ∧ Keep h0 h [a] ∧ Exa Z h a z6 ∧ Fld Z h a z6 "this$0" z22 (.ref m) ∧ Fld Z h a z6 "reversed" "Z" (.int 0)
theorem rm_lesinit (l : Launch) (Z : State) (a0 : Array Value) (hw : oHw Z a0) (a m : Addr) (h0 : Heap) (q0 : Exa Z h0 a z6) (q1 : Z.heap.size ≤ a) (q2 : Fld Z h0 a z6 "this$0" z22 .null) (q3 : Fld Z h0 a z6 "reversed" "Z" (.int 0)) : oMet l Z (⟨z6, "<init>", z27⟩ : MethodName) jdk_113_method_1_code 3 none r_lesinit [] #[.ref a, .ref m, .int 0] h0 (Q_lesinit Z a m h0) := by
 refine oEnter (plainFor_of_name (by first | (simp [plainName, overriddenIn]; done) | decide +kernel)) (own := z6) (nm := "<init>") rfl rfl (L := #[.val (.ref a), .val (.ref m), .val (.int 0)]) (fun m => by first | (simp [entryFrame, mkF, argsToLocals, Value.category]; done) | rfl) ?_
 intro pp ee ss mm bb mtd cc T0 K X0
 have E0 := X0.ext0
 refine o_aloadN K X0 d24_0 rfl rfl rfl ?_
 refine o_aloadN K X0 d24_1 rfl rfl rfl ?_
 refine o_putfield K X0 (host := "") (Or.inl (w251 hw)) Via.refl q2 q0 (Or.inr ⟨(w252 hw), rfl, rfl⟩) (w245 hw) (ty := (.object z0)) (by decide) rfl rfl q1 d24_2 rfl ?_
 intro T1 h1 X1 W1
 have F1 := Fld.same W1 q2
 refine o_aloadN K X1 d24_5 rfl rfl rfl ?_
 refine o_special K X1 (y := (⟨"java/util/AbstractSet", "<init>", "()V"⟩ : MethodName)) rfl (w253 hw) (w254 hw) (w257 hw) (w258 hw) (by decide) (rm_absinit l Z a0 hw a h1) (by decide) rfl (argsL := []) rfl (lenOf pd1 rfl) (W := 0) rfl (by decide) (by decide) (by decide) d24_6 rfl ?_
 intro v2 T2 h2 X2 U2
 obtain ⟨rfl, rfl⟩ := U2
 show oGoes pp ee bb ss Z T2 (mkF mm 9 _ []) _ _ _
 refine o_aloadN K X2 d24_9 rfl rfl rfl ?_
 refine o_iloadN K X2 d24_10 rfl rfl ?_
 have m4 := (Fld.other W1 q3 (Or.inr (slot_ne (Or.inr (w262 hw)) (Or.inr (w252 hw)) (by decide) (t := .boolean) (t' := (.object z0)) (by decide) (by decide))))
 have m5 := (Exa.wr W1 q0)
 refine o_putfieldN K X2 (w261 hw) Via.refl m4 m5 (Or.inr ⟨(w262 hw), rfl, rfl⟩) (w245 hw) (ty := .boolean) (by decide) (v' := (.int 0)) (congrArg Value.int (by decide)) (oFitboolean (x := (0 : Int32)) (by decide)) q1 d24_11 rfl ?_
 intro T3 h3 X3 W3
 have F3 := Fld.same W3 m4
 refine o_return K X3 d24_14 rfl ?_ (by decide) (by decide)
 have m6 := (Exa.wr W3 m5)
 have m7 := (Fld.other W3 F1 (Or.inr (slot_ne (Or.inr (w252 hw)) (Or.inr (w262 hw)) (by decide) (t := (.object z0)) (t' := .boolean) (by decide) (by decide))))
 exact ⟨rfl, (((Keep.refl h0 [a]).wr W1 (Or.inl me0)).wr W3 (Or.inl me0)), m6, m7, F3⟩
theorem d25_0 : decode jdk_119_method_1_code 0 = .ok (.aload_n 0, 1) := by decide +kernel
theorem d25_1 : decode jdk_119_method_1_code 1 = .ok (.invokespecial 1, 3) := by decide +kernel
theorem d25_4 : decode jdk_119_method_1_code 4 = .ok (.aload_n 1, 1) := by decide +kernel
theorem d25_5 : decode jdk_119_method_1_code 5 = .ok (.ifnonnull 11, 3) := by decide +kernel
theorem d25_16 : decode jdk_119_method_1_code 16 = .ok (.aload_n 0, 1) := by decide +kernel
theorem d25_17 : decode jdk_119_method_1_code 17 = .ok (.aload_n 1, 1) := by decide +kernel
theorem d25_18 : decode jdk_119_method_1_code 18 = .ok (.putfield 10, 3) := by decide +kernel
theorem d25_21 : decode jdk_119_method_1_code 21 = .ok (.return_, 1) := by decide +kernel
def r_ucinit : Room := { frames := 1, cells := 0, slots := 0, locals := 12 }
def Q_ucinit (Z : State) (a c : Addr) (h0 : Heap) (v : Option Value) (h : Heap) : Prop := v = none ∧ Keep h0 h [a] ∧ Exa Z h a z12 ∧ Fld Z h a z19 "c" z25 (.ref c)
theorem rm_ucinit (l : Launch) (Z : State) (a0 : Array Value) (hw : oHw Z a0) (a c : Addr) (h0 : Heap) (q0 : Exa Z h0 a z12) (q1 : Z.heap.size ≤ a) (q2 : Fld Z h0 a z19 "c" z25 .null) : oMet l Z (⟨z19, "<init>", "(Ljava/util/Collection;)V"⟩ : MethodName) jdk_119_method_1_code 2 none r_ucinit [] #[.ref a, .ref c] h0 (Q_ucinit Z a c h0) := by
 refine oEnter (plainFor_of_name (by first | (simp [plainName, overriddenIn]; done) | decide +kernel)) (own := z19) (nm := "<init>") rfl rfl (L := #[.val (.ref a), .val (.ref c)]) (fun m => by first | (simp [entryFrame, mkF, argsToLocals, Value.category]; done) | rfl) ?_
 intro pp ee ss mm bb mtd cc T0 K X0
 have E0 := X0.ext0
 refine o_aloadN K X0 d25_0 rfl rfl rfl ?_
 refine o_initObj K X0 (w279 hw) (w19 hw) (w20 hw) d25_1 rfl rfl (by decide) (W := 0) rfl (by decide) ?_
 intro T1 X1
 refine o_aloadN K X1 d25_4 rfl rfl rfl ?_
 refine o_ifnonnull_t K X1 d25_5 (by decide) (pc' := 16) (by decide) ?_
 refine o_aloadN K X1 d25_16 rfl rfl rfl ?_
 refine o_aloadN K X1 d25_17 rfl rfl rfl ?_
 refine o_putfield K X1 (host := "") (Or.inl (w280 hw)) Via.refl q2 q0 (Or.inr ⟨(w281 hw), rfl, rfl⟩) (w228 hw) (ty := (.object "java/util/Collection")) (by decide) rfl rfl q1 d25_18 rfl ?_
 intro T2 h2 X2 W2
 have F2 := Fld.same W2 q2
 refine o_return K X2 d25_21 rfl ?_ (by decide) (by decide)
 have m3 := (Exa.wr W2 q0)
 exact ⟨rfl, ((Keep.refl h0 [a]).wr W2 (Or.inl me0)), m3, F2⟩
theorem d26_0 : decode jdk_122_method_1_code 0 = .ok (.aload_n 0, 1) := by decide +kernel
theorem d26_1 : decode jdk_122_method_1_code 1 = .ok (.aload_n 1, 1) := by decide +kernel
theorem d26_2 : decode jdk_122_method_1_code 2 = .ok (.invokespecial 1, 3) := by decide +kernel
theorem d26_5 : decode jdk_122_method_1_code 5 = .ok (.return_, 1) := by decide +kernel
theorem pd9 : parseMethodDescriptor "(Ljava/util/Collection;)V" = some ⟨[(.object "java/util/Collection")], none⟩ := by decide +kernel
def r_usinit : Room := { frames := 2, cells := 0, slots := 0, locals := 25 }
def Q_usinit (Z : State) (a c : Addr) (h0 : Heap) (v : Option Value) (h : Heap) : Prop := v = none ∧ Keep h0 h [a] ∧ Exa Z h a z12 ∧ Fld Z h a z19 "c" z25 (.ref c)
theorem rm_usinit (l : Launch) (Z : State) (a0 : Array Value) (hw : oHw Z a0) (a c : Addr) (h0 : Heap) (q0 : Exa Z h0 a z12) (q1 : Z.heap.size ≤ a) (q2 : Fld Z h0 a z19 "c" z25 .null) : oMet l Z (⟨"java/util/Collections$UnmodifiableSet", "<init>", "(Ljava/util/Set;)V"⟩ : MethodName) jdk_122_method_1_code 2 none r_usinit [] #[.ref a, .ref c] h0 (Q_usinit Z a c h0) := by
 refine oEnter (plainFor_of_name (by first | (simp [plainName, overriddenIn]; done) | decide +kernel)) (own := "java/util/Collections$UnmodifiableSet") (nm := "<init>") rfl rfl (L := #[.val (.ref a), .val (.ref c)]) (fun m => by first | (simp [entryFrame, mkF, argsToLocals, Value.category]; done) | rfl) ?_
 intro pp ee ss mm bb mtd cc T0 K X0
 have E0 := X0.ext0
 refine o_aloadN K X0 d26_0 rfl rfl rfl ?_
 refine o_aloadN K X0 d26_1 rfl rfl rfl ?_
 refine o_special K X0 (y := (⟨z19, "<init>", "(Ljava/util/Collection;)V"⟩ : MethodName)) rfl (w273 hw) (w274 hw) (w277 hw) (w278 hw) (by decide) (rm_ucinit l Z a0 hw a c h0 q0 q1 q2) (by decide) rfl (argsL := [.ref c]) rfl (lenOf pd9 rfl) (W := 0) rfl (by decide) (by decide) (by decide) d26_2 rfl ?_
 intro v1 T1 h1 X1 U1
 obtain ⟨rfl, u1_0, u1_1, u1_2⟩ := U1
 show oGoes pp ee bb ss Z T1 (mkF mm 5 _ []) _ _ _
 refine o_return K X1 d26_5 rfl ?_ (by decide) (by decide)
 exact ⟨rfl, ((Keep.refl h0 [a]).trans u1_0 (allS (Or.inl me0) all0)), u1_1, u1_2⟩
theorem d27_0 : decode jdk_2501_method_1_code 0 = .ok (.aload_n 0, 1) := by decide +kernel
theorem d27_1 : decode jdk_2501_method_1_code 1 = .ok (.aload_n 1, 1) := by decide +kernel
theorem d27_2 : decode jdk_2501_method_1_code 2 = .ok (.invokespecial 1, 3) := by decide +kernel
theorem d27_5 : decode jdk_2501_method_1_code 5 = .ok (.return_, 1) := by decide +kernel
theorem pd10 : parseMethodDescriptor "(Ljava/util/Set;)V" = some ⟨[(.object "java/util/Set")], none⟩ := by decide +kernel
def r_uesinit : Room := { frames := 3, cells := 0, slots := 0, locals := 38 }
def Q_uesinit (Z : State) (a c : Addr) (h0 : Heap) (v : Option Value) (h : Heap) : Prop := v = none ∧ Keep h0 h [a] ∧ Exa Z h a z12 ∧ Fld Z h a z19 "c" z25 (.ref c)
theorem rm_uesinit (l : Launch) (Z : State) (a0 : Array Value) (hw : oHw Z a0) (a c : Addr) (h0 : Heap) (q0 : Exa Z h0 a z12) (q1 : Z.heap.size ≤ a) (q2 : Fld Z h0 a z19 "c" z25 .null) : oMet l Z (⟨z12, "<init>", "(Ljava/util/Set;)V"⟩ : MethodName) jdk_2501_method_1_code 2 none r_uesinit [] #[.ref a, .ref c] h0 (Q_uesinit Z a c h0) := by
 refine oEnter (plainFor_of_name (by first | (simp [plainName, overriddenIn]; done) | decide +kernel)) (own := z12) (nm := "<init>") rfl rfl (L := #[.val (.ref a), .val (.ref c)]) (fun m => by first | (simp [entryFrame, mkF, argsToLocals, Value.category]; done) | rfl) ?_
 intro pp ee ss mm bb mtd cc T0 K X0
 have E0 := X0.ext0
 refine o_aloadN K X0 d27_0 rfl rfl rfl ?_
 refine o_aloadN K X0 d27_1 rfl rfl rfl ?_
 refine o_special K X0 (y := (⟨"java/util/Collections$UnmodifiableSet", "<init>", "(Ljava/util/Set;)V"⟩ : MethodName)) rfl (w267 hw) (w268 hw) (w271 hw) (w272 hw) (by decide) (rm_usinit l Z a0 hw a c h0 q0 q1 q2) (by decide) rfl (argsL := [.ref c]) rfl (lenOf pd10 rfl) (W := 0) rfl (by decide) (by decide) (by decide) d27_2 rfl ?_
 intro v1 T1 h1 X1 U1
 obtain ⟨rfl, u1_0, u1_1, u1_2⟩ := U1
 show oGoes pp ee bb ss Z T1 (mkF mm 5 _ []) _ _ _
 refine o_return K X1 d27_5 rfl ?_ (by decide) (by decide)
 exact ⟨rfl, ((Keep.refl h0 [a]).trans u1_0 (allS (Or.inl me0) all0)), u1_1, u1_2⟩
theorem d28_0 : decode jdk_94_method_33_code 0 = .ok (.aload_n 0, 1) := by decide +kernel
theorem d28_1 : decode jdk_94_method_33_code 1 = .ok (.getfield 151, 3) := by decide +kernel
theorem d28_4 : decode jdk_94_method_33_code 4 = .ok (.astore_n 1, 1) := by decide +kernel
theorem d28_5 : decode jdk_94_method_33_code 5 = .ok (.aload_n 1, 1) := by decide +kernel
theorem d28_6 : decode jdk_94_method_33_code 6 = .ok (.ifnonnull 20, 3) := by decide +kernel
theorem d28_9 : decode jdk_94_method_33_code 9 = .ok (.new 154, 3) := by decide +kernel
theorem d28_12 : decode jdk_94_method_33_code 12 = .ok (.dup, 1) := by decide +kernel
theorem d28_13 : decode jdk_94_method_33_code 13 = .ok (.aload_n 0, 1) := by decide +kernel
theorem d28_14 : decode jdk_94_method_33_code 14 = .ok (.iconst 0, 1) := by decide +kernel
theorem d28_15 : decode jdk_94_method_33_code 15 = .ok (.invokespecial 156, 3) := by decide +kernel
theorem d28_18 : decode jdk_94_method_33_code 18 = .ok (.astore_n 2, 1) := by decide +kernel
theorem d28_19 : decode jdk_94_method_33_code 19 = .ok (.aload_n 0, 1) := by decide +kernel
theorem d28_20 : decode jdk_94_method_33_code 20 = .ok (.aload_n 2, 1) := by decide +kernel
theorem d28_21 : decode jdk_94_method_33_code 21 = .ok (.putfield 151, 3) := by decide +kernel
theorem d28_24 : decode jdk_94_method_33_code 24 = .ok (.aload_n 2, 1) := by decide +kernel
theorem d28_25 : decode jdk_94_method_33_code 25 = .ok (.areturn, 1) := by decide +kernel
theorem pd11 : parseMethodDescriptor z27 = some ⟨[(.object z0), .boolean], none⟩ := by decide +kernel
def r_seq : Room := { frames := 4, cells := 1, slots := 2, locals := 51 }
def Q_seq (Z : State) (m : Addr) (h0 : Heap) (v : Option Value) (h : Heap) : Prop := ∃ r : Addr, v = some (.ref r) ∧ Keep h0 h [m] ∧ Exa Z h m z0 ∧ Fld Z h m z7 "entrySet" z13 (.ref r) ∧ Fld Z h m z0 "head" z11 .null ∧ Fld Z h m z7 "modCount" "I" (.int 0) ∧ h0.size ≤ r ∧ Exa Z h r z6 ∧ Fld Z h r z6 "this$0" z22 (.ref m) ∧ Fld Z h r z6 "reversed" "Z" (.int 0)
theorem rm_seq (l : Launch) (Z : State) (a0 : Array Value) (hw : oHw Z a0) (m : Addr) (h0 : Heap) (q0 : Exa Z h0 m z0) (q1 : Fld Z h0 m z7 "entrySet" z13 .null) (q2 : Fld Z h0 m z0 "head" z11 .null) (q3 : Fld Z h0 m z7 "modCount" "I" (.int 0)) (q4 : Z.heap.size ≤ m) : oMet l Z (⟨z0, "sequencedEntrySet", "()Ljava/util/SequencedSet;"⟩ : MethodName) jdk_94_method_33_code 3 (some (.object "java/util/SequencedSet")) r_seq [] #[.ref m] h0 (Q_seq Z m h0) := by
 refine oEnter (plainFor_of_name (by first | (simp [plainName, overriddenIn]; done) | decide +kernel)) (own := z0) (nm := "sequencedEntrySet") rfl rfl (L := #[.val (.ref m), .unset, .unset]) (fun m => by first | (simp [entryFrame, mkF, argsToLocals, Value.category]; done) | rfl) ?_
 intro pp ee ss mm bb mtd cc T0 K X0
 have E0 := X0.ext0
 refine o_aloadN K X0 d28_0 rfl rfl rfl ?_
 refine o_getfield K X0 (host := "") (Or.inl (w241 hw)) (Via.of (w242 hw)) q1 d28_1 rfl ?_
 intro T1 X1
 refine o_astoreN K X1 d28_4 rfl rfl (L' := #[vR m, vN, uS]) rfl ?_
 refine o_aloadN K X1 d28_5 rfl rfl rfl ?_
 refine o_ifnonnull_f K X1 d28_6 rfl ?_
 refine o_new K X1 (w244 hw) (w245 hw) (w246 hw) d28_9 rfl (by decide) (by decide) ?_
 intro T2 h2 b2 X2 g2 E2 A2 D2 G2
 have F2_this_0 : Fld Z h2 b2 z6 "this$0" z22 .null := (D2 (Or.inr (w252 hw)) (ty := (.object z0)) (by decide))
 have F2_reversed : Fld Z h2 b2 z6 "reversed" "Z" (.int 0) := (D2 (Or.inr (w262 hw)) (ty := .boolean) (by decide))
 refine o_dup K X2 d28_12 rfl rfl ?_
 refine o_aloadN K X2 d28_13 rfl rfl rfl ?_
 refine o_iconst K X2 d28_14 rfl (z := 0) rfl ?_
 refine o_special K X2 (y := (⟨z6, "<init>", z27⟩ : MethodName)) rfl (w247 hw) (w248 hw) (w246 hw) (w250 hw) (by decide) (rm_lesinit l Z a0 hw b2 m h2 A2 G2 F2_this_0 F2_reversed) (by decide) rfl (argsL := [.ref m, .int 0]) rfl (lenOf pd11 rfl) (W := 1) rfl (by decide) (by decide) (by decide) d28_15 rfl ?_
 intro v3 T3 h3 X3 U3
 obtain ⟨rfl, u3_0, u3_1, u3_2, u3_3⟩ := U3
 show oGoes pp ee bb ss Z T3 (mkF mm 18 _ [.ref b2]) _ _ _
 refine o_astoreN K X3 d28_18 rfl rfl (L' := #[vR m, vN, vR b2]) rfl ?_
 refine o_aloadN K X3 d28_19 rfl rfl rfl ?_
 refine o_aloadN K X3 d28_20 rfl rfl rfl ?_
 have n5 := oLz q0.lt (oLe g2)
 have m6 := ((q1.ext E2).keep u3_0 (ninS n5 nin0))
 have m7 := ((q0.ext E2).keep u3_0)
 refine o_putfield K X3 (host := "") (Or.inl (w241 hw)) (Via.of (w242 hw)) m6 m7 (Or.inl (w243 hw)) (w56 hw) (ty := (.object "java/util/Set")) (by decide) rfl rfl q4 d28_21 rfl ?_
 intro T4 h4 X4 W4
 have F4 := Fld.same W4 m6
 refine o_aloadN K X4 d28_24 rfl rfl rfl ?_
 refine o_areturn K X4 (t := (.object "java/util/SequencedSet")) d28_25 rfl rfl rfl ?_ (by decide) (by decide)
 have m8 := (Exa.wr W4 m7)
 have m9 := (Fld.other W4 ((q2.ext E2).keep u3_0 (ninS n5 nin0)) (Or.inr (slot_ne (Or.inl (w331 hw)) (Or.inl (w243 hw)) (by decide) (t := (.object z24)) (t' := (.object "java/util/Set")) (by decide) (by decide))))
 have m10 := (Fld.other W4 ((q3.ext E2).keep u3_0 (ninS n5 nin0)) (Or.inr (slot_ne (Or.inl (w336 hw)) (Or.inl (w243 hw)) (by decide) (t := .int) (t' := (.object "java/util/Set")) (by decide) (by decide))))
 have m11 := (Exa.wr W4 u3_1)
 have m12 := (Fld.other W4 u3_2 (Or.inl (Ne.symm n5)))
 have m13 := (Fld.other W4 u3_3 (Or.inl (Ne.symm n5)))
 exact ⟨b2, rfl, ((((Keep.refl h0 [m]).ext E2).trans u3_0 (allS (Or.inr (oLe g2)) all0)).wr W4 (Or.inl me0)), m8, F4, m9, m10, (oLe g2), m11, m12, m13⟩
theorem d29_0 : decode jdk_94_method_32_code 0 = .ok (.aload_n 0, 1) := by decide +kernel
theorem d29_1 : decode jdk_94_method_32_code 1 = .ok (.invokevirtual 148, 3) := by decide +kernel
theorem d29_4 : decode jdk_94_method_32_code 4 = .ok (.areturn, 1) := by decide +kernel
theorem pd12 : parseMethodDescriptor "()Ljava/util/SequencedSet;" = some ⟨[], some (.object "java/util/SequencedSet")⟩ := by decide +kernel
def r_lmes : Room := { frames := 5, cells := 1, slots := 2, locals := 65 }
def Q_lmes (Z : State) (m : Addr) (h0 : Heap) (v : Option Value) (h : Heap) : Prop := ∃ r : Addr, v = some (.ref r) ∧ Keep h0 h [m] ∧ Exa Z h m z0 ∧ Fld Z h m z7 "entrySet" z13 (.ref r) ∧ Fld Z h m z0 "head" z11 .null ∧ Fld Z h m z7 "modCount" "I" (.int 0) ∧ h0.size ≤ r ∧ Exa Z h r z6 ∧ Fld Z h r z6 "this$0" z22 (.ref m) ∧ Fld Z h r z6 "reversed" "Z" (.int 0)
theorem rm_lmes (l : Launch) (Z : State) (a0 : Array Value) (hw : oHw Z a0) (m : Addr) (h0 : Heap) (q0 : Exa Z h0 m z0) (q1 : Fld Z h0 m z7 "entrySet" z13 .null) (q2 : Fld Z h0 m z0 "head" z11 .null) (q3 : Fld Z h0 m z7 "modCount" "I" (.int 0)) (q4 : Z.heap.size ≤ m) : oMet l Z (⟨z0, "entrySet", "()Ljava/util/Set;"⟩ : MethodName) jdk_94_method_32_code 1 (some (.object "java/util/Set")) r_lmes [] #[.ref m] h0 (Q_lmes Z m h0) := by
 refine oEnter (plainFor_of_name (by first | (simp [plainName, overriddenIn]; done) | decide +kernel)) (own := z0) (nm := "entrySet") rfl rfl (L := #[.val (.ref m)]) (fun m => by first | (simp [entryFrame, mkF, argsToLocals, Value.category]; done) | rfl) ?_
 intro pp ee ss mm bb mtd cc T0 K X0
 have E0 := X0.ext0
 refine o_aloadN K X0 d29_0 rfl rfl rfl ?_
 refine o_virtual K X0   (w236 hw) (w237 hw) (oNF (w239 hw)) (w239 hw) (w238 hw) (w57 hw) (w240 hw) (by decide) q0 (rm_seq l Z a0 hw m h0 q0 q1 q2 q3 q4) (by decide) rfl (argsL := []) rfl (lenOf pd12 rfl) (W := 0) rfl (by decide) (by decide) (by decide) d29_1 rfl ?_
 intro v1 T1 h1 X1 U1
 obtain ⟨r_1, rfl, u1_0, u1_1, u1_2, u1_3, u1_4, u1_5, u1_6, u1_7, u1_8⟩ := U1
 have G1_r : Z.heap.size ≤ r_1 := Nat.le_trans X0.ext0.1 u1_5
 show oGoes pp ee bb ss Z T1 (mkF mm 4 _ [.ref r_1]) _ _ _
 refine o_areturn K X1 (t := (.object "java/util/Set")) d29_4 rfl rfl rfl ?_ (by decide) (by decide)
 exact ⟨r_1, rfl, ((Keep.refl h0 [m]).trans u1_0 (allS (Or.inl me0) all0)), u1_1, u1_2, u1_3, u1_4, u1_5, u1_6, u1_7, u1_8⟩
theorem d30_0 : decode jdk_2500_method_12_code 0 = .ok (.aload_n 0, 1) := by decide +kernel
theorem d30_1 : decode jdk_2500_method_12_code 1 = .ok (.getfield 53, 3) := by decide +kernel
theorem d30_4 : decode jdk_2500_method_12_code 4 = .ok (.ifnonnull 23, 3) := by decide +kernel
theorem d30_7 : decode jdk_2500_method_12_code 7 = .ok (.aload_n 0, 1) := by decide +kernel
theorem d30_8 : decode jdk_2500_method_12_code 8 = .ok (.new 56, 3) := by decide +kernel
theorem d30_11 : decode jdk_2500_method_12_code 11 = .ok (.dup, 1) := by decide +kernel
theorem d30_12 : decode jdk_2500_method_12_code 12 = .ok (.aload_n 0, 1) := by decide +kernel
theorem d30_13 : decode jdk_2500_method_12_code 13 = .ok (.getfield 10, 3) := by decide +kernel
theorem d30_16 : decode jdk_2500_method_12_code 16 = .ok (.invokeinterface 58 1, 5) := by decide +kernel
theorem d30_21 : decode jdk_2500_method_12_code 21 = .ok (.invokespecial 60, 3) := by decide +kernel
theorem d30_24 : decode jdk_2500_method_12_code 24 = .ok (.putfield 53, 3) := by decide +kernel
theorem d30_27 : decode jdk_2500_method_12_code 27 = .ok (.aload_n 0, 1) := by decide +kernel
theorem d30_28 : decode jdk_2500_method_12_code 28 = .ok (.getfield 53, 3) := by decide +kernel
theorem d30_31 : decode jdk_2500_method_12_code 31 = .ok (.areturn, 1) := by decide +kernel
theorem pd13 : parseMethodDescriptor "()Ljava/util/Set;" = some ⟨[], some (.object "java/util/Set")⟩ := by decide +kernel
def r_umesA : Room := { frames := 6, cells := 2, slots := 3, locals := 80 }
def Q_umesA (Z : State) (u m : Addr) (h0 : Heap) (v : Option Value) (h : Heap) : Prop := ∃ e c : Addr, v = some (.ref e) ∧ Keep h0 h [u, m] ∧ Exa Z h u z3 ∧ Fld Z h u z3 "m" z14 (.ref m) ∧ Fld Z h u z3 "entrySet" z13 (.ref e) ∧ Exa Z h m z0 ∧ Fld Z h m z7 "entrySet" z13 (.ref c) ∧ Fld Z h m z0 "head" z11 .null ∧ Fld Z h m z7 "modCount" "I" (.int 0) ∧ h0.size ≤ e ∧ Exa Z h e z12 ∧ Fld Z h e z19 "c" z25 (.ref c) ∧ h0.size ≤ c ∧ Exa Z h c z6 ∧ Fld Z h c z6 "this$0" z22 (.ref m) ∧ Fld Z h c z6 "reversed" "Z" (.int 0)
theorem rm_umesA (l : Launch) (Z : State) (a0 : Array Value) (hw : oHw Z a0) (u m : Addr) (h0 : Heap) (q0 : Exa Z h0 u z3) (q1 : Fld Z h0 u z3 "m" z14 (.ref m)) (q2 : Fld Z h0 u z3 "entrySet" z13 .null) (q3 : Exa Z h0 m z0) (q4 : Fld Z h0 m z7 "entrySet" z13 .null) (q5 : Fld Z h0 m z0 "head" z11 .null) (q6 : Fld Z h0 m z7 "modCount" "I" (.int 0)) (q7 : Z.heap.size ≤ u) (q8 : Z.heap.size ≤ m) (q9 : u ≠ m) : oMet l Z (⟨z3, "entrySet", "()Ljava/util/Set;"⟩ : MethodName) jdk_2500_method_12_code 1 (some (.object "java/util/Set")) r_umesA [] #[.ref u] h0 (Q_umesA Z u m h0) := by
 refine oEnter (plainFor_of_name (by first | (simp [plainName, overriddenIn]; done) | decide +kernel)) (own := z3) (nm := "entrySet") rfl rfl (L := #[.val (.ref u)]) (fun m => by first | (simp [entryFrame, mkF, argsToLocals, Value.category]; done) | rfl) ?_
 intro pp ee ss mm bb mtd cc T0 K X0
 have E0 := X0.ext0
 refine o_aloadN K X0 d30_0 rfl rfl rfl ?_
 refine o_getfield K X0 (host := "") (Or.inl (w225 hw)) Via.refl q2 d30_1 rfl ?_
 intro T1 X1
 refine o_ifnonnull_f K X1 d30_4 rfl ?_
 refine o_aloadN K X1 d30_7 rfl rfl rfl ?_
 refine o_new K X1 (w227 hw) (w228 hw) (w229 hw) d30_8 rfl (by decide) (by decide) ?_
 intro T2 h2 b2 X2 g2 E2 A2 D2 G2
 have F2_c : Fld Z h2 b2 z19 "c" z25 .null := (D2 (Or.inr (w281 hw)) (ty := (.object "java/util/Collection")) (by decide))
 refine o_dup K X2 d30_11 rfl rfl ?_
 refine o_aloadN K X2 d30_12 rfl rfl rfl ?_
 have m4 := (q1.ext E2)
 refine o_getfield K X2 (host := "") (Or.inl (w147 hw)) Via.refl m4 d30_13 rfl ?_
 intro T3 X3
 have m5 := (q3.ext E2)
 have m6 := (q4.ext E2)
 have m7 := (q5.ext E2)
 have m8 := (q6.ext E2)
 refine o_interface K X3 (y := (⟨"java/util/Map", "entrySet", "()Ljava/util/Set;"⟩ : MethodName)) (z := (⟨z0, "entrySet", "()Ljava/util/Set;"⟩ : MethodName)) (w230 hw) (w217 hw) (w218 hw) rfl (w231 hw) (w232 hw) (w233 hw) (w234 hw) (w136 hw) (w57 hw) (w235 hw) (by decide) m5 (rm_lmes l Z a0 hw m h2 m5 m6 m7 m8 q8) (by decide) rfl (argsL := []) rfl (lenOf pd13 rfl) (W := 3) rfl (by decide) (by decide) (by decide) d30_16 rfl ?_
 intro v9 T9 h9 X9 U9
 obtain ⟨r_9, rfl, u9_0, u9_1, u9_2, u9_3, u9_4, u9_5, u9_6, u9_7, u9_8⟩ := U9
 have G9_r : Z.heap.size ≤ r_9 := Nat.le_trans X3.ext0.1 u9_5
 show oGoes pp ee bb ss Z T9 (mkF mm 21 _ [.ref r_9, .ref b2, .ref b2, .ref u]) _ _ _
 have m10 := (A2.keep u9_0)
 have n11 := oLsz q3.lt (oLe g2)
 have m12 := (F2_c.keep u9_0 (ninS n11 nin0))
 refine o_special K X9 (y := (⟨z12, "<init>", "(Ljava/util/Set;)V"⟩ : MethodName)) rfl (w263 hw) (w264 hw) (w229 hw) (w266 hw) (by decide) (rm_uesinit l Z a0 hw b2 r_9 h9 m10 G2 m12) (by decide) rfl (argsL := [.ref r_9]) rfl (lenOf pd10 rfl) (W := 2) rfl (by decide) (by decide) (by decide) d30_21 rfl ?_
 intro v13 T13 h13 X13 U13
 obtain ⟨rfl, u13_0, u13_1, u13_2⟩ := U13
 show oGoes pp ee bb ss Z T13 (mkF mm 24 _ [.ref b2, .ref u]) _ _ _
 have n15 := oLz q0.lt (oLe g2)
 have m16 := (((q2.ext E2).keep u9_0 (ninS q9 nin0)).keep u13_0 (ninS n15 nin0))
 have m17 := (((q0.ext E2).keep u9_0).keep u13_0)
 refine o_putfield K X13 (host := "") (Or.inl (w225 hw)) Via.refl m16 m17 (Or.inl (w226 hw)) (w141 hw) (ty := (.object "java/util/Set")) (by decide) rfl rfl q7 d30_24 rfl ?_
 intro T14 h14 X14 W14
 have F14 := Fld.same W14 m16
 refine o_aloadN K X14 d30_27 rfl rfl rfl ?_
 refine o_getfield K X14 (host := "") (Or.inl (w225 hw)) Via.refl F14 d30_28 rfl ?_
 intro T18 X18
 refine o_areturn K X18 (t := (.object "java/util/Set")) d30_31 rfl rfl rfl ?_ (by decide) (by decide)
 have m19 := (Exa.wr W14 m17)
 have m20 := (Fld.other W14 ((m4.keep u9_0 (ninS q9 nin0)).keep u13_0 (ninS n15 nin0)) (Or.inr (slot_ne (Or.inr (w148 hw)) (Or.inl (w226 hw)) (by decide) (t := (.object "java/util/Map")) (t' := (.object "java/util/Set")) (by decide) (by decide))))
 have m21 := (Exa.wr W14 (u9_1.keep u13_0))
 have m22 := (Fld.other W14 (u9_2.keep u13_0 (ninS (Ne.symm n11) nin0)) (Or.inl (Ne.symm q9)))
 have m23 := (Fld.other W14 (u9_3.keep u13_0 (ninS (Ne.symm n11) nin0)) (Or.inl (Ne.symm q9)))
 have m24 := (Fld.other W14 (u9_4.keep u13_0 (ninS (Ne.symm n11) nin0)) (Or.inl (Ne.symm q9)))
 have m25 := (Exa.wr W14 u13_1)
 have m26 := (Fld.other W14 u13_2 (Or.inl (Ne.symm n15)))
 have m27 := (Exa.wr W14 (u9_6.keep u13_0))
 have n28 := oLsz A2.lt u9_5
 have n29 := oLsn q0.lt E2.1 u9_5
 have m30 := (Fld.other W14 (u9_7.keep u13_0 (ninS n28 nin0)) (Or.inl n29))
 have m31 := (Fld.other W14 (u9_8.keep u13_0 (ninS n28 nin0)) (Or.inl n29))
 exact ⟨b2, r_9, rfl, (((((Keep.refl h0 [u, m]).ext E2).trans u9_0 (allS (Or.inl me1) all0)).trans u13_0 (allS (Or.inr (oLe g2)) all0)).wr W14 (Or.inl me0)), m19, m20, F14, m21, m22, m23, m24, (oLe g2), m25, m26, (Nat.le_trans E2.1 u9_5), m27, m30, m31⟩
def r_umesB : Room := { frames := 0, cells := 0, slots := 0, locals := 0 }
def Q_umesB (Z : State) (u m e : Addr) (h0 : Heap) (v : Option Value) (h : Heap) : Prop := v = some (.ref e) ∧ h0 = h
theorem rm_umesB (l : Launch) (Z : State) (a0 : Array Value) (hw : oHw Z a0) (u m e : Addr) (h0 : Heap) (q0 : Exa Z h0 u z3) (q1 : Fld Z h0 u z3 "m" z14 (.ref m)) (q2 : Fld Z h0 u z3 "entrySet" z13 (.ref e)) : oMet l Z (⟨z3, "entrySet", "()Ljava/util/Set;"⟩ : MethodName) jdk_2500_method_12_code 1 (some (.object "java/util/Set")) r_umesB [] #[.ref u] h0 (Q_umesB Z u m e h0) := by
 refine oEnter (plainFor_of_name (by first | (simp [plainName, overriddenIn]; done) | decide +kernel)) (own := z3) (nm := "entrySet") rfl rfl (L := #[.val (.ref u)]) (fun m => by first | (simp [entryFrame, mkF, argsToLocals, Value.category]; done) | rfl) ?_
 intro pp ee ss mm bb mtd cc T0 K X0
 have E0 := X0.ext0
 refine o_aloadN K X0 d30_0 rfl rfl rfl ?_
 refine o_getfield K X0 (host := "") (Or.inl (w225 hw)) Via.refl q2 d30_1 rfl ?_
 intro T1 X1
 refine o_ifnonnull_t K X1 d30_4 (by decide) (pc' := 27) (by decide) ?_
 refine o_aloadN K X1 d30_27 rfl rfl rfl ?_
 refine o_getfield K X1 (host := "") (Or.inl (w225 hw)) Via.refl q2 d30_28 rfl ?_
 intro T2 X2
 refine o_areturn K X2 (t := (.object "java/util/Set")) d30_31 rfl rfl rfl ?_ (by decide) (by decide)
 exact ⟨rfl, rfl⟩
theorem d31_0 : decode jdk_2616_method_1_code 0 = .ok (.aload_n 0, 1) := by decide +kernel
theorem d31_1 : decode jdk_2616_method_1_code 1 = .ok (.aload_n 1, 1) := by decide +kernel
theorem d31_2 : decode jdk_2616_method_1_code 2 = .ok (.putfield 1, 3) := by decide +kernel
theorem d31_5 : decode jdk_2616_method_1_code 5 = .ok (.aload_n 0, 1) := by decide +kernel
theorem d31_6 : decode jdk_2616_method_1_code 6 = .ok (.invokespecial 7, 3) := by decide +kernel
theorem d31_9 : decode jdk_2616_method_1_code 9 = .ok (.aload_n 0, 1) := by decide +kernel
theorem d31_10 : decode jdk_2616_method_1_code 10 = .ok (.iload_n 2, 1) := by decide +kernel
theorem d31_11 : decode jdk_2616_method_1_code 11 = .ok (.putfield 13, 3) := by decide +kernel
theorem d31_14 : decode jdk_2616_method_1_code 14 = .ok (.aload_n 0, 1) := by decide +kernel
theorem d31_15 : decode jdk_2616_method_1_code 15 = .ok (.iload_n 2, 1) := by decide +kernel
theorem d31_16 : decode jdk_2616_method_1_code 16 = .ok (.ifCond .eq 10, 3) := by decide +kernel
theorem d31_26 : decode jdk_2616_method_1_code 26 = .ok (.aload_n 1, 1) := by decide +kernel
theorem d31_27 : decode jdk_2616_method_1_code 27 = .ok (.getfield 23, 3) := by decide +kernel
theorem d31_30 : decode jdk_2616_method_1_code 30 = .ok (.putfield 26, 3) := by decide +kernel
theorem d31_33 : decode jdk_2616_method_1_code 33 = .ok (.aload_n 0, 1) := by decide +kernel
theorem d31_34 : decode jdk_2616_method_1_code 34 = .ok (.aload_n 1, 1) := by decide +kernel
theorem d31_35 : decode jdk_2616_method_1_code 35 = .ok (.getfield 29, 3) := by decide +kernel
theorem d31_38 : decode jdk_2616_method_1_code 38 = .ok (.putfield 33, 3) := by decide +kernel
theorem d31_41 : decode jdk_2616_method_1_code 41 = .ok (.aload_n 0, 1) := by decide +kernel
theorem d31_42 : decode jdk_2616_method_1_code 42 = .ok (.aconst_null, 1) := by decide +kernel
theorem d31_43 : decode jdk_2616_method_1_code 43 = .ok (.putfield 36, 3) := by decide +kernel
theorem d31_46 : decode jdk_2616_method_1_code 46 = .ok (.return_, 1) := by decide +kernel
def r_lhiinit : Room := { frames := 1, cells := 0, slots := 0, locals := 12 }
def Q_lhiinit (Z : State) (a m : Addr) (h0 : Heap) (v : Option Value) (h : Heap) : Prop := v = none ∧ Keep h0 h [a] ∧ Exa Z h a z23 ∧ Fld Z h a z9 "this$0" z22 (.ref m) ∧ Fld Z h a z9 "reversed" "Z" (.int 0) ∧ Fld Z h a z9 "next" z11 .null ∧ Fld Z h a z9 "expectedModCount" "I" (.int 0) ∧ Fld Z h a z9 "current" z11 .null
theorem rm_lhiinit (l : Launch) (Z : State) (a0 : Array Value) (hw : oHw Z a0) (a m : Addr) (h0 : Heap) (q0 : Exa Z h0 a z23) (q1 : Z.heap.size ≤ a) (q2 : Fld Z h0 a z9 "this$0" z22 .null) (q3 : Fld Z h0 a z9 "reversed" "Z" (.int 0)) (q4 : Fld Z h0 a z9 "next" z11 .null) (q5 : Fld Z h0 a z9 "expectedModCount" "I" (.int 0)) (q6 : Fld Z h0 a z9 "current" z11 .null) (q7 : Exa Z h0 m z0) (q8 : Fld Z h0 m z0 "head" z11 .null) (q9 : Fld Z h0 m z7 "modCount" "I" (.int 0)) (q10 : m ≠ a) : oMet l Z (⟨z9, "<init>", z27⟩ : MethodName) jdk_2616_method_1_code 3 none r_lhiinit [] #[.ref a, .ref m, .int 0] h0 (Q_lhiinit Z a m h0) := by
 refine oEnter (plainFor_of_name (by first | (simp [plainName, overriddenIn]; done) | decide +kernel)) (own := z9) (nm := "<init>") rfl rfl (L := #[.val (.ref a), .val (.ref m), .val (.int 0)]) (fun m => by first | (simp [entryFrame, mkF, argsToLocals, Value.category]; done) | rfl) ?_
 intro pp ee ss mm bb mtd cc T0 K X0
 have E0 := X0.ext0
 refine o_aloadN K X0 d31_0 rfl rfl rfl ?_
 refine o_aloadN K X0 d31_1 rfl rfl rfl ?_
 refine o_putfield K X0 (host := "") (Or.inl (w325 hw)) Via.refl q2 q0 (Or.inr ⟨(w326 hw), rfl, rfl⟩) (w313 hw) (ty := (.object z0)) (by decide) rfl rfl q1 d31_2 rfl ?_
 intro T1 h1 X1 W1
 have F1 := Fld.same W1 q2
 refine o_aloadN K X1 d31_5 rfl rfl rfl ?_
 refine o_initObj K X1 (w327 hw) (w19 hw) (w20 hw) d31_6 rfl rfl (by decide) (W := 0) rfl (by decide) ?_
 intro T2 X2
 refine o_aloadN K X2 d31_9 rfl rfl rfl ?_
 refine o_iloadN K X2 d31_10 rfl rfl ?_
 have m4 := (Fld.other W1 q3 (Or.inr (slot_ne (Or.inl (w329 hw)) (Or.inr (w326 hw)) (by decide) (t := .boolean) (t' := (.object z0)) (by decide) (by decide))))
 have m5 := (Exa.wr W1 q0)
 refine o_putfieldN K X2 (w328 hw) Via.refl m4 m5 (Or.inl (w329 hw)) (w313 hw) (ty := .boolean) (by decide) (v' := (.int 0)) (congrArg Value.int (by decide)) (oFitboolean (x := (0 : Int32)) (by decide)) q1 d31_11 rfl ?_
 intro T3 h3 X3 W3
 have F3 := Fld.same W3 m4
 refine o_aloadN K X3 d31_14 rfl rfl rfl ?_
 refine o_iloadN K X3 d31_15 rfl rfl ?_
 refine o_if_eq_t K X3 d31_16 (by decide) (pc' := 26) (by decide) (by decide) ?_
 refine o_aloadN K X3 d31_26 rfl rfl rfl ?_
 have m7 := (Fld.other W3 (Fld.other W1 q8 (Or.inl q10)) (Or.inl q10))
 refine o_getfield K X3 (host := "") (Or.inl (w330 hw)) Via.refl m7 d31_27 rfl ?_
 intro T6 X6
 have m9 := (Fld.other W3 (Fld.other W1 q4 (Or.inr (slot_ne (Or.inl (w333 hw)) (Or.inr (w326 hw)) (by decide) (t := (.object z24)) (t' := (.object z0)) (by decide) (by decide)))) (Or.inr (slot_ne (Or.inl (w333 hw)) (Or.inl (w329 hw)) (by decide) (t := (.object z24)) (t' := .boolean) (by decide) (by decide))))
 have m10 := (Exa.wr W3 m5)
 refine o_putfield K X6 (host := "") (Or.inl (w332 hw)) Via.refl m9 m10 (Or.inl (w333 hw)) (w313 hw) (ty := (.object z24)) (by decide) rfl rfl q1 d31_30 rfl ?_
 intro T8 h8 X8 W8
 have F8 := Fld.same W8 m9
 refine o_aloadN K X8 d31_33 rfl rfl rfl ?_
 refine o_aloadN K X8 d31_34 rfl rfl rfl ?_
 have m12 := (Fld.other W8 (Fld.other W3 (Fld.other W1 q9 (Or.inl q10)) (Or.inl q10)) (Or.inl q10))
 refine o_getfield K X8 (host := "") (Or.inl (w334 hw)) (Via.of (w335 hw)) m12 d31_35 rfl ?_
 intro T11 X11
 have m14 := (Fld.other W8 (Fld.other W3 (Fld.other W1 q5 (Or.inr (slot_ne (Or.inl (w338 hw)) (Or.inr (w326 hw)) (by decide) (t := .int) (t' := (.object z0)) (by decide) (by decide)))) (Or.inr (slot_ne (Or.inl (w338 hw)) (Or.inl (w329 hw)) (by decide) (t := .int) (t' := .boolean) (by decide) (by decide)))) (Or.inr (slot_ne (Or.inl (w338 hw)) (Or.inl (w333 hw)) (by decide) (t := .int) (t' := (.object z24)) (by decide) (by decide))))
 have m15 := (Exa.wr W8 m10)
 refine o_putfield K X11 (host := "") (Or.inl (w337 hw)) Via.refl m14 m15 (Or.inl (w338 hw)) (w313 hw) (ty := .int) (by decide) rfl rfl q1 d31_38 rfl ?_
 intro T13 h13 X13 W13
 have F13 := Fld.same W13 m14
 refine o_aloadN K X13 d31_41 rfl rfl rfl ?_
 refine o_aconst_null K X13 d31_42 rfl ?_
 have m17 := (Fld.other W13 (Fld.other W8 (Fld.other W3 (Fld.other W1 q6 (Or.inr (slot_ne (Or.inl (w340 hw)) (Or.inr (w326 hw)) (by decide) (t := (.object z24)) (t' := (.object z0)) (by decide) (by decide)))) (Or.inr (slot_ne (Or.inl (w340 hw)) (Or.inl (w329 hw)) (by decide) (t := (.object z24)) (t' := .boolean) (by decide) (by decide)))) (Or.inr (slot_ne (Or.inl (w340 hw)) (Or.inl (w333 hw)) (by decide) (t := (.object z24)) (t' := (.object z24)) (by decide) (by decide)))) (Or.inr (slot_ne (Or.inl (w340 hw)) (Or.inl (w338 hw)) (by decide) (t := (.object z24)) (t' := .int) (by decide) (by decide))))
 have m18 := (Exa.wr W13 m15)
 refine o_putfield K X13 (host := "") (Or.inl (w339 hw)) Via.refl m17 m18 (Or.inl (w340 hw)) (w313 hw) (ty := (.object z24)) (by decide) rfl rfl q1 d31_43 rfl ?_
 intro T16 h16 X16 W16
 have F16 := Fld.same W16 m17
 refine o_return K X16 d31_46 rfl ?_ (by decide) (by decide)
 have m19 := (Exa.wr W16 m18)
 have m20 := (Fld.other W16 (Fld.other W13 (Fld.other W8 (Fld.other W3 F1 (Or.inr (slot_ne (Or.inr (w326 hw)) (Or.inl (w329 hw)) (by decide) (t := (.object z0)) (t' := .boolean) (by decide) (by decide)))) (Or.inr (slot_ne (Or.inr (w326 hw)) (Or.inl (w333 hw)) (by decide) (t := (.object z0)) (t' := (.object z24)) (by decide) (by decide)))) (Or.inr (slot_ne (Or.inr (w326 hw)) (Or.inl (w338 hw)) (by decide) (t := (.object z0)) (t' := .int) (by decide) (by decide)))) (Or.inr (slot_ne (Or.inr (w326 hw)) (Or.inl (w340 hw)) (by decide) (t := (.object z0)) (t' := (.object z24)) (by decide) (by decide))))
 have m21 := (Fld.other W16 (Fld.other W13 (Fld.other W8 F3 (Or.inr (slot_ne (Or.inl (w329 hw)) (Or.inl (w333 hw)) (by decide) (t := .boolean) (t' := (.object z24)) (by decide) (by decide)))) (Or.inr (slot_ne (Or.inl (w329 hw)) (Or.inl (w338 hw)) (by decide) (t := .boolean) (t' := .int) (by decide) (by decide)))) (Or.inr (slot_ne (Or.inl (w329 hw)) (Or.inl (w340 hw)) (by decide) (t := .boolean) (t' := (.object z24)) (by decide) (by decide))))
 have m22 := (Fld.other W16 (Fld.other W13 F8 (Or.inr (slot_ne (Or.inl (w333 hw)) (Or.inl (w338 hw)) (by decide) (t := (.object z24)) (t' := .int) (by decide) (by decide)))) (Or.inr (slot_ne (Or.inl (w333 hw)) (Or.inl (w340 hw)) (by decide) (t := (.object z24)) (t' := (.object z24)) (by decide) (by decide))))
 have m23 := (Fld.other W16 F13 (Or.inr (slot_ne (Or.inl (w338 hw)) (Or.inl (w340 hw)) (by decide) (t := .int) (t' := (.object z24)) (by decide) (by decide))))
 exact ⟨rfl, ((((((Keep.refl h0 [a]).wr W1 (Or.inl me0)).wr W3 (Or.inl me0)).wr W8 (Or.inl me0)).wr W13 (Or.inl me0)).wr W16 (Or.inl me0)), m19, m20, m21, m22, m23, F16⟩
theorem d32_0 : decode jdk_2615_method_1_code 0 = .ok (.aload_n 0, 1) := by decide +kernel
theorem d32_1 : decode jdk_2615_method_1_code 1 = .ok (.aload_n 1, 1) := by decide +kernel
theorem d32_2 : decode jdk_2615_method_1_code 2 = .ok (.iload_n 2, 1) := by decide +kernel
theorem d32_3 : decode jdk_2615_method_1_code 3 = .ok (.invokespecial 1, 3) := by decide +kernel
theorem d32_6 : decode jdk_2615_method_1_code 6 = .ok (.return_, 1) := by decide +kernel
def r_leiinit : Room := { frames := 2, cells := 0, slots := 0, locals := 26 }
def Q_leiinit (Z : State) (a m : Addr) (h0 : Heap) (v : Option Value) (h : Heap) : Prop := v = none ∧ Keep h0 h [a] ∧ Exa Z h a z23 ∧ Fld Z h a z9 "this$0" z22 (.ref m) ∧ Fld Z h a z9 "reversed" "Z" (.int 0) ∧ Fld Z h a z9 "next" z11 .null ∧ Fld Z h a z9 "expectedModCount" "I" (.int 0) ∧ Fld Z h a z9 "current" z11 .null
theorem rm_leiinit (l : Launch) (Z : State) (a0 : Array Value) (hw : oHw Z a0) (a m : Addr) (h0 : Heap) (q0 : Exa Z h0 a z23) (q1 : Z.heap.size ≤ a) (q2 : Fld Z h0 a z9 "this$0" z22 .null) (q3 : Fld Z h0 a z9 "reversed" "Z" (.int 0)) (q4 : Fld Z h0 a z9 "next" z11 .null) (q5 : Fld Z h0 a z9 "expectedModCount" "I" (.int 0)) (q6 : Fld Z h0 a z9 "current" z11 .null) (q7 : Exa Z h0 m z0) (q8 : Fld Z h0 m z0 "head" z11 .null) (q9 : Fld Z h0 m z7 "modCount" "I" (.int 0)) (q10 : m ≠ a) : oMet l Z (⟨z23, "<init>", z27⟩ : MethodName) jdk_2615_method_1_code 3 none r_leiinit [] #[.ref a, .ref m, .int 0] h0 (Q_leiinit Z a m h0) := by
 refine oEnter (plainFor_of_name (by first | (simp [plainName, overriddenIn]; done) | decide +kernel)) (own := z23) (nm := "<init>") rfl rfl (L := #[.val (.ref a), .val (.ref m), .val (.int 0)]) (fun m => by first | (simp [entryFrame, mkF, argsToLocals, Value.category]; done) | rfl) ?_
 intro pp ee ss mm bb mtd cc T0 K X0
 have E0 := X0.ext0
 refine o_aloadN K X0 d32_0 rfl rfl rfl ?_
 refine o_aloadN K X0 d32_1 rfl rfl rfl ?_
 refine o_iloadN K X0 d32_2 rfl rfl ?_
 refine o_special K X0 (y := (⟨z9, "<init>", z27⟩ : MethodName)) rfl (w319 hw) (w320 hw) (w323 hw) (w324 hw) (by decide) (rm_lhiinit l Z a0 hw a m h0 q0 q1 q2 q3 q4 q5 q6 q7 q8 q9 q10) (by decide) rfl (argsL := [.ref m, .int 0]) rfl (lenOf pd11 rfl) (W := 0) rfl (by decide) (by decide) (by decide) d32_3 rfl ?_
 intro v1 T1 h1 X1 U1
 obtain ⟨rfl, u1_0, u1_1, u1_2, u1_3, u1_4, u1_5, u1_6⟩ := U1
 show oGoes pp ee bb ss Z T1 (mkF mm 6 _ []) _ _ _
 refine o_return K X1 d32_6 rfl ?_ (by decide) (by decide)
 exact ⟨rfl, ((Keep.refl h0 [a]).trans u1_0 (allS (Or.inl me0) all0)), u1_1, u1_2, u1_3, u1_4, u1_5, u1_6⟩
theorem d33_0 : decode jdk_113_method_4_code 0 = .ok (.new 26, 3) := by decide +kernel
theorem d33_3 : decode jdk_113_method_4_code 3 = .ok (.dup, 1) := by decide +kernel
theorem d33_4 : decode jdk_113_method_4_code 4 = .ok (.aload_n 0, 1) := by decide +kernel
theorem d33_5 : decode jdk_113_method_4_code 5 = .ok (.getfield 1, 3) := by decide +kernel
theorem d33_8 : decode jdk_113_method_4_code 8 = .ok (.aload_n 0, 1) := by decide +kernel
theorem d33_9 : decode jdk_113_method_4_code 9 = .ok (.getfield 13, 3) := by decide +kernel
theorem d33_12 : decode jdk_113_method_4_code 12 = .ok (.invokespecial 28, 3) := by decide +kernel
theorem d33_15 : decode jdk_113_method_4_code 15 = .ok (.areturn, 1) := by decide +kernel
def r_lesiter : Room := { frames := 3, cells := 1, slots := 5, locals := 41 }
def Q_lesiter (Z : State) (c m : Addr) (h0 : Heap) (v : Option Value) (h : Heap) : Prop := ∃ r : Addr, v = some (.ref r) ∧ Keep h0 h [] ∧ h0.size ≤ r ∧ Exa Z h r z23 ∧ Fld Z h r z9 "next" z11 .null
theorem rm_lesiter (l : Launch) (Z : State) (a0 : Array Value) (hw : oHw Z a0) (c m : Addr) (h0 : Heap) (q0 : Exa Z h0 c z6) (q1 : Fld Z h0 c z6 "this$0" z22 (.ref m)) (q2 : Fld Z h0 c z6 "reversed" "Z" (.int 0)) (q3 : Exa Z h0 m z0) (q4 : Fld Z h0 m z0 "head" z11 .null) (q5 : Fld Z h0 m z7 "modCount" "I" (.int 0)) : oMet l Z (⟨z6, "iterator", z16⟩ : MethodName) jdk_113_method_4_code 1 (some (.object z21)) r_lesiter [] #[.ref c] h0 (Q_lesiter Z c m h0) := by
 refine oEnter (plainFor_of_name (by first | (simp [plainName, overriddenIn]; done) | decide +kernel)) (own := z6) (nm := "iterator") rfl rfl (L := #[.val (.ref c)]) (fun m => by first | (simp [entryFrame, mkF, argsToLocals, Value.category]; done) | rfl) ?_
 intro pp ee ss mm bb mtd cc T0 K X0
 have E0 := X0.ext0
 refine o_new K X0 (w312 hw) (w313 hw) (w314 hw) d33_0 rfl (by decide) (by decide) ?_
 intro T1 h1 b1 X1 g1 E1 A1 D1 G1
 have F1_this_0 : Fld Z h1 b1 z9 "this$0" z22 .null := (D1 (Or.inr (w326 hw)) (ty := (.object z0)) (by decide))
 have F1_reversed : Fld Z h1 b1 z9 "reversed" "Z" (.int 0) := (D1 (Or.inl (w329 hw)) (ty := .boolean) (by decide))
 have F1_next : Fld Z h1 b1 z9 "next" z11 .null := (D1 (Or.inl (w333 hw)) (ty := (.object z24)) (by decide))
 have F1_expectedModCount : Fld Z h1 b1 z9 "expectedModCount" "I" (.int 0) := (D1 (Or.inl (w338 hw)) (ty := .int) (by decide))
 have F1_current : Fld Z h1 b1 z9 "current" z11 .null := (D1 (Or.inl (w340 hw)) (ty := (.object z24)) (by decide))
 refine o_dup K X1 d33_3 rfl rfl ?_
 refine o_aloadN K X1 d33_4 rfl rfl rfl ?_
 have m3 := (q1.ext E1)
 refine o_getfield K X1 (host := "") (Or.inl (w251 hw)) Via.refl m3 d33_5 rfl ?_
 intro T2 X2
 refine o_aloadN K X2 d33_8 rfl rfl rfl ?_
 have m5 := (q2.ext E1)
 refine o_getfield K X2 (host := "") (Or.inl (w261 hw)) Via.refl m5 d33_9 rfl ?_
 intro T4 X4
 have m6 := (q3.ext E1)
 have m7 := (q4.ext E1)
 have m8 := (q5.ext E1)
 have n9 := oLz q3.lt (oLe g1)
 refine o_special K X4 (y := (⟨z23, "<init>", z27⟩ : MethodName)) rfl (w315 hw) (w316 hw) (w314 hw) (w318 hw) (by decide) (rm_leiinit l Z a0 hw b1 m h1 A1 G1 F1_this_0 F1_reversed F1_next F1_expectedModCount F1_current m6 m7 m8 n9) (by decide) rfl (argsL := [.ref m, .int 0]) rfl (lenOf pd11 rfl) (W := 1) rfl (by decide) (by decide) (by decide) d33_12 rfl ?_
 intro v10 T10 h10 X10 U10
 obtain ⟨rfl, u10_0, u10_1, u10_2, u10_3, u10_4, u10_5, u10_6⟩ := U10
 show oGoes pp ee bb ss Z T10 (mkF mm 15 _ [.ref b1]) _ _ _
 refine o_areturn K X10 (t := (.object z21)) d33_15 rfl rfl rfl ?_ (by decide) (by decide)
 exact ⟨b1, rfl, (((Keep.refl h0 []).ext E1).trans u10_0 (allS (Or.inr (oLe g1)) all0)), (oLe g1), u10_1, u10_4⟩
theorem d34_0 : decode jdk_2616_method_2_code 0 = .ok (.aload_n 0, 1) := by decide +kernel
theorem d34_1 : decode jdk_2616_method_2_code 1 = .ok (.getfield 26, 3) := by decide +kernel
theorem d34_4 : decode jdk_2616_method_2_code 4 = .ok (.ifnull 7, 3) := by decide +kernel
theorem d34_11 : decode jdk_2616_method_2_code 11 = .ok (.iconst 0, 1) := by decide +kernel
theorem d34_12 : decode jdk_2616_method_2_code 12 = .ok (.ireturn, 1) := by decide +kernel
def r_lhihas : Room := { frames := 0, cells := 0, slots := 0, locals := 0 }
def Q_lhihas (Z : State) (a : Addr) (h0 : Heap) (v : Option Value) (h : Heap) : Prop := v = some (.int 0) ∧ h0 = h
theorem rm_lhihas (l : Launch) (Z : State) (a0 : Array Value) (hw : oHw Z a0) (a : Addr) (h0 : Heap) (q0 : Fld Z h0 a z9 "next" z11 .null) : oMet l Z (⟨z9, "hasNext", "()Z"⟩ : MethodName) jdk_2616_method_2_code 1 (some .boolean) r_lhihas [] #[.ref a] h0 (Q_lhihas Z a h0) := by
 refine oEnter (plainFor_of_name (by first | (simp [plainName, overriddenIn]; done) | decide +kernel)) (own := z9) (nm := "hasNext") rfl rfl (L := #[.val (.ref a)]) (fun m => by first | (simp [entryFrame, mkF, argsToLocals, Value.category]; done) | rfl) ?_
 intro pp ee ss mm bb mtd cc T0 K X0
 have E0 := X0.ext0
 refine o_aloadN K X0 d34_0 rfl rfl rfl ?_
 refine o_getfield K X0 (host := "") (Or.inl (w332 hw)) Via.refl q0 d34_1 rfl ?_
 intro T1 X1
 refine o_ifnull_t K X1 d34_4 (by decide) (pc' := 11) (by decide) ?_
 refine o_iconst K X1 d34_11 rfl (z := 0) rfl ?_
 refine o_ireturnN K X1 .boolean d34_12 rfl (by simp) (z' := 0) (by decide) ?_ (by decide) (by decide)
 exact ⟨rfl, rfl⟩
theorem d35_0 : decode jdk_2502_method_1_code 0 = .ok (.aload_n 0, 1) := by decide +kernel
theorem d35_1 : decode jdk_2502_method_1_code 1 = .ok (.aload_n 1, 1) := by decide +kernel
theorem d35_2 : decode jdk_2502_method_1_code 2 = .ok (.putfield 1, 3) := by decide +kernel
theorem d35_5 : decode jdk_2502_method_1_code 5 = .ok (.aload_n 0, 1) := by decide +kernel
theorem d35_6 : decode jdk_2502_method_1_code 6 = .ok (.invokespecial 7, 3) := by decide +kernel
theorem d35_9 : decode jdk_2502_method_1_code 9 = .ok (.aload_n 0, 1) := by decide +kernel
theorem d35_10 : decode jdk_2502_method_1_code 10 = .ok (.aload_n 0, 1) := by decide +kernel
theorem d35_11 : decode jdk_2502_method_1_code 11 = .ok (.getfield 1, 3) := by decide +kernel
theorem d35_14 : decode jdk_2502_method_1_code 14 = .ok (.getfield 13, 3) := by decide +kernel
theorem d35_17 : decode jdk_2502_method_1_code 17 = .ok (.invokeinterface 19 1, 5) := by decide +kernel
theorem d35_22 : decode jdk_2502_method_1_code 22 = .ok (.putfield 25, 3) := by decide +kernel
theorem d35_25 : decode jdk_2502_method_1_code 25 = .ok (.return_, 1) := by decide +kernel
def r_ue1init : Room := { frames := 4, cells := 1, slots := 5, locals := 54 }
def Q_ue1init (Z : State) (a e c m : Addr) (h0 : Heap) (v : Option Value) (h : Heap) : Prop := ∃ r : Addr, v = none ∧ Keep h0 h [a] ∧ Exa Z h a z15 ∧ Fld Z h a z15 "i" "Ljava/util/Iterator;" (.ref r) ∧ h0.size ≤ r ∧ Exa Z h r z23 ∧ Fld Z h r z9 "next" z11 .null
theorem rm_ue1init (l : Launch) (Z : State) (a0 : Array Value) (hw : oHw Z a0) (a e c m : Addr) (h0 : Heap) (q0 : Exa Z h0 a z15) (q1 : Z.heap.size ≤ a) (q2 : Fld Z h0 a z15 "this$0" "Ljava/util/Collections$UnmodifiableMap$UnmodifiableEntrySet;" .null) (q3 : Fld Z h0 a z15 "i" "Ljava/util/Iterator;" .null) (q4 : Exa Z h0 e z12) (q5 : Fld Z h0 e z19 "c" z25 (.ref c)) (q6 : Exa Z h0 c z6) (q7 : Fld Z h0 c z6 "this$0" z22 (.ref m)) (q8 : Fld Z h0 c z6 "reversed" "Z" (.int 0)) (q9 : Exa Z h0 m z0) (q10 : Fld Z h0 m z0 "head" z11 .null) (q11 : Fld Z h0 m z7 "modCount" "I" (.int 0)) (q12 : e ≠ a) (q13 : c ≠ a) (q14 : m ≠ a) : oMet l Z (⟨z15, "<init>", "(Ljava/util/Collections$UnmodifiableMap$UnmodifiableEntrySet;)V"⟩ : MethodName) jdk_2502_method_1_code 2 none r_ue1init [] #[.ref a, .ref e] h0 (Q_ue1init Z a e c m h0) := by
 refine oEnter (plainFor_of_name (by first | (simp [plainName, overriddenIn]; done) | decide +kernel)) (own := z15) (nm := "<init>") rfl rfl (L := #[.val (.ref a), .val (.ref e)]) (fun m => by first | (simp [entryFrame, mkF, argsToLocals, Value.category]; done) | rfl) ?_
 intro pp ee ss mm bb mtd cc T0 K X0
 have E0 := X0.ext0
 refine o_aloadN K X0 d35_0 rfl rfl rfl ?_
 refine o_aloadN K X0 d35_1 rfl rfl rfl ?_
 refine o_putfield K X0 (host := "") (Or.inl (w298 hw)) Via.refl q2 q0 (Or.inr ⟨(w299 hw), rfl, rfl⟩) (w292 hw) (ty := (.object z12)) (by decide) rfl rfl q1 d35_2 rfl ?_
 intro T1 h1 X1 W1
 have F1 := Fld.same W1 q2
 refine o_aloadN K X1 d35_5 rfl rfl rfl ?_
 refine o_initObj K X1 (w300 hw) (w19 hw) (w20 hw) d35_6 rfl rfl (by decide) (W := 0) rfl (by decide) ?_
 intro T2 X2
 refine o_aloadN K X2 d35_9 rfl rfl rfl ?_
 refine o_aloadN K X2 d35_10 rfl rfl rfl ?_
 refine o_getfield K X2 (host := "") (Or.inl (w298 hw)) Via.refl F1 d35_11 rfl ?_
 intro T3 X3
 have m5 := (Fld.other W1 q5 (Or.inl q12))
 refine o_getfield K X3 (host := "") (Or.inl (w301 hw)) (Via.of (w302 hw)) m5 d35_14 rfl ?_
 intro T4 X4
 have m6 := (Exa.wr W1 q6)
 have m7 := (Fld.other W1 q7 (Or.inl q13))
 have m8 := (Fld.other W1 q8 (Or.inl q13))
 have m9 := (Exa.wr W1 q9)
 have m10 := (Fld.other W1 q10 (Or.inl q14))
 have m11 := (Fld.other W1 q11 (Or.inl q14))
 refine o_interface K X4 (y := (⟨"java/util/Collection", "iterator", z16⟩ : MethodName)) (z := (⟨z6, "iterator", z16⟩ : MethodName)) (w303 hw) (w304 hw) (w305 hw) rfl (w306 hw) (w307 hw) (w308 hw) (w309 hw) (w310 hw) (w246 hw) (w311 hw) (by decide) m6 (rm_lesiter l Z a0 hw c m h1 m6 m7 m8 m9 m10 m11) (by decide) rfl (argsL := []) rfl (lenOf pd5 rfl) (W := 1) rfl (by decide) (by decide) (by decide) d35_17 rfl ?_
 intro v12 T12 h12 X12 U12
 obtain ⟨r_12, rfl, u12_0, u12_1, u12_2, u12_3⟩ := U12
 have G12_r : Z.heap.size ≤ r_12 := Nat.le_trans X4.ext0.1 u12_1
 show oGoes pp ee bb ss Z T12 (mkF mm 22 _ [.ref r_12, .ref a]) _ _ _
 have m14 := ((Fld.other W1 q3 (Or.inr (slot_ne (Or.inr (w342 hw)) (Or.inr (w299 hw)) (by decide) (t := (.object z21)) (t' := (.object z12)) (by decide) (by decide)))).keep u12_0 nin0)
 have m15 := ((Exa.wr W1 q0).keep u12_0)
 refine o_putfield K X12 (host := "") (Or.inl (w341 hw)) Via.refl m14 m15 (Or.inr ⟨(w342 hw), rfl, rfl⟩) (w292 hw) (ty := (.object z21)) (by decide) rfl rfl q1 d35_22 rfl ?_
 intro T13 h13 X13 W13
 have F13 := Fld.same W13 m14
 refine o_return K X13 d35_25 rfl ?_ (by decide) (by decide)
 have m16 := (Exa.wr W13 m15)
 have m17 := (Exa.wr W13 u12_2)
 have n18 := oLsn q0.lt (Keep.of_wr W1).1 u12_1
 have m19 := (Fld.other W13 u12_3 (Or.inl n18))
 exact ⟨r_12, rfl, ((((Keep.refl h0 [a]).wr W1 (Or.inl me0)).trans u12_0 all0).wr W13 (Or.inl me0)), m16, F13, (Nat.le_trans (Keep.of_wr W1).1 u12_1), m17, m19⟩
theorem d36_0 : decode jdk_2501_method_7_code 0 = .ok (.new 48, 3) := by decide +kernel
theorem d36_3 : decode jdk_2501_method_7_code 3 = .ok (.dup, 1) := by decide +kernel
theorem d36_4 : decode jdk_2501_method_7_code 4 = .ok (.aload_n 0, 1) := by decide +kernel
theorem d36_5 : decode jdk_2501_method_7_code 5 = .ok (.invokespecial 50, 3) := by decide +kernel
theorem d36_8 : decode jdk_2501_method_7_code 8 = .ok (.areturn, 1) := by decide +kernel
theorem pd14 : parseMethodDescriptor "(Ljava/util/Collections$UnmodifiableMap$UnmodifiableEntrySet;)V" = some ⟨[(.object z12)], none⟩ := by decide +kernel
def r_uesiter : Room := { frames := 5, cells := 2, slots := 7, locals := 68 }
def Q_uesiter (Z : State) (e c m : Addr) (h0 : Heap) (v : Option Value) (h : Heap) : Prop := ∃ t r : Addr, v = some (.ref t) ∧ Keep h0 h [] ∧ h0.size ≤ t ∧ Exa Z h t z15 ∧ Fld Z h t z15 "i" "Ljava/util/Iterator;" (.ref r) ∧ Exa Z h r z23 ∧ Fld Z h r z9 "next" z11 .null
theorem rm_uesiter (l : Launch) (Z : State) (a0 : Array Value) (hw : oHw Z a0) (e c m : Addr) (h0 : Heap) (q0 : Exa Z h0 e z12) (q1 : Fld Z h0 e z19 "c" z25 (.ref c)) (q2 : Exa Z h0 c z6) (q3 : Fld Z h0 c z6 "this$0" z22 (.ref m)) (q4 : Fld Z h0 c z6 "reversed" "Z" (.int 0)) (q5 : Exa Z h0 m z0) (q6 : Fld Z h0 m z0 "head" z11 .null) (q7 : Fld Z h0 m z7 "modCount" "I" (.int 0)) : oMet l Z (⟨z12, "iterator", z16⟩ : MethodName) jdk_2501_method_7_code 1 (some (.object z21)) r_uesiter [] #[.ref e] h0 (Q_uesiter Z e c m h0) := by
 refine oEnter (plainFor_of_name (by first | (simp [plainName, overriddenIn]; done) | decide +kernel)) (own := z12) (nm := "iterator") rfl rfl (L := #[.val (.ref e)]) (fun m => by first | (simp [entryFrame, mkF, argsToLocals, Value.category]; done) | rfl) ?_
 intro pp ee ss mm bb mtd cc T0 K X0
 have E0 := X0.ext0
 refine o_new K X0 (w291 hw) (w292 hw) (w293 hw) d36_0 rfl (by decide) (by decide) ?_
 intro T1 h1 b1 X1 g1 E1 A1 D1 G1
 have F1_this_0 : Fld Z h1 b1 z15 "this$0" "Ljava/util/Collections$UnmodifiableMap$UnmodifiableEntrySet;" .null := (D1 (Or.inr (w299 hw)) (ty := (.object z12)) (by decide))
 have F1_i : Fld Z h1 b1 z15 "i" "Ljava/util/Iterator;" .null := (D1 (Or.inr (w342 hw)) (ty := (.object z21)) (by decide))
 refine o_dup K X1 d36_3 rfl rfl ?_
 refine o_aloadN K X1 d36_4 rfl rfl rfl ?_
 have m2 := (q0.ext E1)
 have m3 := (q1.ext E1)
 have m4 := (q2.ext E1)
 have m5 := (q3.ext E1)
 have m6 := (q4.ext E1)
 have m7 := (q5.ext E1)
 have m8 := (q6.ext E1)
 have m9 := (q7.ext E1)
 have n10 := oLz q0.lt (oLe g1)
 have n11 := oLz q2.lt (oLe g1)
 have n12 := oLz q5.lt (oLe g1)
 refine o_special K X1 (y := (⟨z15, "<init>", "(Ljava/util/Collections$UnmodifiableMap$UnmodifiableEntrySet;)V"⟩ : MethodName)) rfl (w294 hw) (w295 hw) (w293 hw) (w297 hw) (by decide) (rm_ue1init l Z a0 hw b1 e c m h1 A1 G1 F1_this_0 F1_i m2 m3 m4 m5 m6 m7 m8 m9 n10 n11 n12) (by decide) rfl (argsL := [.ref e]) rfl (lenOf pd14 rfl) (W := 1) rfl (by decide) (by decide) (by decide) d36_5 rfl ?_
 intro v13 T13 h13 X13 U13
 obtain ⟨r_13, rfl, u13_0, u13_1, u13_2, u13_3, u13_4, u13_5⟩ := U13
 have G13_r : Z.heap.size ≤ r_13 := Nat.le_trans X1.ext0.1 u13_3
 show oGoes pp ee bb ss Z T13 (mkF mm 8 _ [.ref b1]) _ _ _
 refine o_areturn K X13 (t := (.object z21)) d36_8 rfl rfl rfl ?_ (by decide) (by decide)
 exact ⟨b1, r_13, rfl, (((Keep.refl h0 []).ext E1).trans u13_0 (allS (Or.inr (oLe g1)) all0)), (oLe g1), u13_1, u13_2, u13_4, u13_5⟩
theorem d37_0 : decode jdk_2502_method_2_code 0 = .ok (.aload_n 0, 1) := by decide +kernel
theorem d37_1 : decode jdk_2502_method_2_code 1 = .ok (.getfield 25, 3) := by decide +kernel
theorem d37_4 : decode jdk_2502_method_2_code 4 = .ok (.invokeinterface 29 1, 5) := by decide +kernel
theorem d37_9 : decode jdk_2502_method_2_code 9 = .ok (.ireturn, 1) := by decide +kernel
def r_ue1has : Room := { frames := 1, cells := 0, slots := 0, locals := 12 }
def Q_ue1has (Z : State) (a r : Addr) (h0 : Heap) (v : Option Value) (h : Heap) : Prop := v = some (.int 0) ∧ h0 = h
theorem rm_ue1has (l : Launch) (Z : State) (a0 : Array Value) (hw : oHw Z a0) (a r : Addr) (h0 : Heap) (q0 : Fld Z h0 a z15 "i" "Ljava/util/Iterator;" (.ref r)) (q1 : Exa Z h0 r z23) (q2 : Fld Z h0 r z9 "next" z11 .null) : oMet l Z (⟨z15, "hasNext", "()Z"⟩ : MethodName) jdk_2502_method_2_code 1 (some .boolean) r_ue1has [] #[.ref a] h0 (Q_ue1has Z a r h0) := by
 refine oEnter (plainFor_of_name (by first | (simp [plainName, overriddenIn]; done) | decide +kernel)) (own := z15) (nm := "hasNext") rfl rfl (L := #[.val (.ref a)]) (fun m => by first | (simp [entryFrame, mkF, argsToLocals, Value.category]; done) | rfl) ?_
 intro pp ee ss mm bb mtd cc T0 K X0
 have E0 := X0.ext0
 refine o_aloadN K X0 d37_0 rfl rfl rfl ?_
 refine o_getfield K X0 (host := "") (Or.inl (w341 hw)) Via.refl q0 d37_1 rfl ?_
 intro T1 X1
 refine o_interface K X1 (y := (⟨z21, "hasNext", "()Z"⟩ : MethodName)) (z := (⟨z9, "hasNext", "()Z"⟩ : MethodName)) (w349 hw) (w107 hw) (w108 hw) rfl (w350 hw) (w351 hw) (w352 hw) (w353 hw) (w354 hw) (w323 hw) (w355 hw) (by decide) q1 (rm_lhihas l Z a0 hw r h0 q2) (by decide) rfl (argsL := []) rfl (lenOf pd6 rfl) (W := 0) rfl (by decide) (by decide) (by decide) d37_4 rfl ?_
 intro v2 T2 h2 X2 U2
 obtain ⟨rfl, rfl⟩ := U2
 show oGoes pp ee bb ss Z T2 (mkF mm 9 _ [.int 0]) _ _ _
 refine o_ireturnN K X2 .boolean d37_9 rfl (by simp) (z' := 0) (by decide) ?_ (by decide) (by decide)
 exact ⟨rfl, rfl⟩
theorem d38_0 : decode prog_32_method_5_code 0 = .ok (.aload_n 0, 1) := by decide +kernel
theorem d38_1 : decode prog_32_method_5_code 1 = .ok (.getfield 13, 3) := by decide +kernel
theorem d38_4 : decode prog_32_method_5_code 4 = .ok (.invokeinterface 81 1, 5) := by decide +kernel
theorem d38_9 : decode prog_32_method_5_code 9 = .ok (.invokeinterface 85 1, 5) := by decide +kernel
theorem d38_14 : decode prog_32_method_5_code 14 = .ok (.astore_n 1, 1) := by decide +kernel
theorem d38_15 : decode prog_32_method_5_code 15 = .ok (.aload_n 1, 1) := by decide +kernel
theorem d38_16 : decode prog_32_method_5_code 16 = .ok (.invokeinterface 28 1, 5) := by decide +kernel
theorem d38_21 : decode prog_32_method_5_code 21 = .ok (.ifCond .eq 42, 3) := by decide +kernel
theorem d38_63 : decode prog_32_method_5_code 63 = .ok (.iconst 0, 1) := by decide +kernel
theorem d38_64 : decode prog_32_method_5_code 64 = .ok (.ireturn, 1) := by decide +kernel
def r_famA : Room := { frames := 7, cells := 4, slots := 10, locals := 92 }
def Q_famA (Z : State) (rp u m : Addr) (h0 : Heap) (v : Option Value) (h : Heap) : Prop := ∃ e c : Addr, v = some (.int 0) ∧ Keep h0 h [u, m] ∧ Exa Z h u z3 ∧ Fld Z h u z3 "m" z14 (.ref m) ∧ Fld Z h u z3 "entrySet" z13 (.ref e) ∧ Exa Z h m z0 ∧ Fld Z h m z0 "head" z11 .null ∧ Fld Z h m z7 "modCount" "I" (.int 0) ∧ Exa Z h e z12 ∧ Fld Z h e z19 "c" z25 (.ref c) ∧ Exa Z h c z6 ∧ Fld Z h c z6 "this$0" z22 (.ref m) ∧ Fld Z h c z6 "reversed" "Z" (.int 0) ∧ h0.size ≤ e ∧ h0.size ≤ c
theorem rm_famA (l : Launch) (Z : State) (a0 : Array Value) (hw : oHw Z a0) (rp u m : Addr) (h0 : Heap) (q0 : Exa Z h0 rp z5) (q1 : Fld Z h0 rp z5 "findings" z14 (.ref u)) (q2 : Exa Z h0 u z3) (q3 : Fld Z h0 u z3 "m" z14 (.ref m)) (q4 : Fld Z h0 u z3 "entrySet" z13 .null) (q5 : Exa Z h0 m z0) (q6 : Fld Z h0 m z7 "entrySet" z13 .null) (q7 : Fld Z h0 m z0 "head" z11 .null) (q8 : Fld Z h0 m z7 "modCount" "I" (.int 0)) (q9 : Z.heap.size ≤ u) (q10 : Z.heap.size ≤ m) (q11 : u ≠ m) : oMet l Z (⟨z5, "failsAMust", "()Z"⟩ : MethodName) prog_32_method_5_code 3 (some .boolean) r_famA [] #[.ref rp] h0 (Q_famA Z rp u m h0) := by
 refine oEnter (plainFor_of_name (by first | (simp [plainName, overriddenIn]; done) | decide +kernel)) (own := z5) (nm := "failsAMust") rfl rfl (L := #[.val (.ref rp), .unset, .unset]) (fun m => by first | (simp [entryFrame, mkF, argsToLocals, Value.category]; done) | rfl) ?_
 intro pp ee ss mm bb mtd cc T0 K X0
 have E0 := X0.ext0
 refine o_aloadN K X0 d38_0 rfl rfl rfl ?_
 refine o_getfield K X0 (host := "") (Or.inl (w149 hw)) Via.refl q1 d38_1 rfl ?_
 intro T1 X1
 refine o_interface K X1 (y := (⟨"java/util/Map", "entrySet", "()Ljava/util/Set;"⟩ : MethodName)) (z := (⟨z3, "entrySet", "()Ljava/util/Set;"⟩ : MethodName)) (w216 hw) (w217 hw) (w218 hw) rfl (w219 hw) (w220 hw) (w221 hw) (w222 hw) (w223 hw) (w142 hw) (w224 hw) (by decide) q2 (rm_umesA l Z a0 hw u m h0 q2 q3 q4 q5 q6 q7 q8 q9 q10 q11) (by decide) rfl (argsL := []) rfl (lenOf pd13 rfl) (W := 0) rfl (by decide) (by decide) (by decide) d38_4 rfl ?_
 intro v2 T2 h2 X2 U2
 obtain ⟨e_2, c_2, rfl, u2_0, u2_1, u2_2, u2_3, u2_4, u2_5, u2_6, u2_7, u2_8, u2_9, u2_10, u2_11, u2_12, u2_13, u2_14⟩ := U2
 have G2_e : Z.heap.size ≤ e_2 := Nat.le_trans X1.ext0.1 u2_8
 have G2_c : Z.heap.size ≤ c_2 := Nat.le_trans X1.ext0.1 u2_11
 show oGoes pp ee bb ss Z T2 (mkF mm 9 _ [.ref e_2]) _ _ _
 refine o_interface K X2 (y := (⟨"java/util/Set", "iterator", z16⟩ : MethodName)) (z := (⟨z12, "iterator", z16⟩ : MethodName)) (w282 hw) (w283 hw) (w284 hw) rfl (w285 hw) (w286 hw) (w287 hw) (w288 hw) (w289 hw) (w229 hw) (w290 hw) (by decide) u2_9 (rm_uesiter l Z a0 hw e_2 c_2 m h2 u2_9 u2_10 u2_12 u2_13 u2_14 u2_4 u2_6 u2_7) (by decide) rfl (argsL := []) rfl (lenOf pd5 rfl) (W := 0) rfl (by decide) (by decide) (by decide) d38_9 rfl ?_
 intro v3 T3 h3 X3 U3
 obtain ⟨t_3, r_3, rfl, u3_0, u3_1, u3_2, u3_3, u3_4, u3_5⟩ := U3
 have G3_t : Z.heap.size ≤ t_3 := Nat.le_trans X2.ext0.1 u3_1
 show oGoes pp ee bb ss Z T3 (mkF mm 14 _ [.ref t_3]) _ _ _
 refine o_astoreN K X3 d38_14 rfl rfl (L' := #[vR rp, vR t_3, uS]) rfl ?_
 refine o_aloadN K X3 d38_15 rfl rfl rfl ?_
 refine o_interface K X3 (y := (⟨z21, "hasNext", "()Z"⟩ : MethodName)) (z := (⟨z15, "hasNext", "()Z"⟩ : MethodName)) (w106 hw) (w107 hw) (w108 hw) rfl (w343 hw) (w344 hw) (w345 hw) (w346 hw) (w347 hw) (w293 hw) (w348 hw) (by decide) u3_2 (rm_ue1has l Z a0 hw t_3 r_3 h3 u3_3 u3_4 u3_5) (by decide) rfl (argsL := []) rfl (lenOf pd6 rfl) (W := 0) rfl (by decide) (by decide) (by decide) d38_16 rfl ?_
 intro v4 T4 h4 X4 U4
 obtain ⟨rfl, rfl⟩ := U4
 show oGoes pp ee bb ss Z T4 (mkF mm 21 _ [.int 0]) _ _ _
 refine o_if_eq_t K X4 d38_21 (by decide) (pc' := 63) (by decide) (by decide) ?_
 refine o_iconst K X4 d38_63 rfl (z := 0) rfl ?_
 refine o_ireturnN K X4 .boolean d38_64 rfl (by simp) (z' := 0) (by decide) ?_ (by decide) (by decide)
 have m5 := (u2_1.keep u3_0)
 have m6 := (u2_2.keep u3_0 nin0)
 have m7 := (u2_3.keep u3_0 nin0)
 have m8 := (u2_4.keep u3_0)
 have m9 := (u2_6.keep u3_0 nin0)
 have m10 := (u2_7.keep u3_0 nin0)
 have m11 := (u2_9.keep u3_0)
 have m12 := (u2_10.keep u3_0 nin0)
 have m13 := (u2_12.keep u3_0)
 have m14 := (u2_13.keep u3_0 nin0)
 have m15 := (u2_14.keep u3_0 nin0)
 exact ⟨e_2, c_2, rfl, (((Keep.refl h0 [u, m]).trans u2_0 (allS (Or.inl me0) (allS (Or.inl me1) all0))).trans u3_0 all0), m5, m6, m7, m8, m9, m10, m11, m12, m13, m14, m15, u2_8, u2_11⟩
def r_famB : Room := { frames := 6, cells := 2, slots := 7, locals := 80 }
def Q_famB (Z : State) (rp u m e c : Addr) (h0 : Heap) (v : Option Value) (h : Heap) : Prop := v = some (.int 0) ∧ Keep h0 h []
theorem rm_famB (l : Launch) (Z : State) (a0 : Array Value) (hw : oHw Z a0) (rp u m e c : Addr) (h0 : Heap) (q0 : Exa Z h0 rp z5) (q1 : Fld Z h0 rp z5 "findings" z14 (.ref u)) (q2 : Exa Z h0 u z3) (q3 : Fld Z h0 u z3 "m" z14 (.ref m)) (q4 : Fld Z h0 u z3 "entrySet" z13 (.ref e)) (q5 : Exa Z h0 e z12) (q6 : Fld Z h0 e z19 "c" z25 (.ref c)) (q7 : Exa Z h0 c z6) (q8 : Fld Z h0 c z6 "this$0" z22 (.ref m)) (q9 : Fld Z h0 c z6 "reversed" "Z" (.int 0)) (q10 : Exa Z h0 m z0) (q11 : Fld Z h0 m z0 "head" z11 .null) (q12 : Fld Z h0 m z7 "modCount" "I" (.int 0)) : oMet l Z (⟨z5, "failsAMust", "()Z"⟩ : MethodName) prog_32_method_5_code 3 (some .boolean) r_famB [] #[.ref rp] h0 (Q_famB Z rp u m e c h0) := by
 refine oEnter (plainFor_of_name (by first | (simp [plainName, overriddenIn]; done) | decide +kernel)) (own := z5) (nm := "failsAMust") rfl rfl (L := #[.val (.ref rp), .unset, .unset]) (fun m => by first | (simp [entryFrame, mkF, argsToLocals, Value.category]; done) | rfl) ?_
 intro pp ee ss mm bb mtd cc T0 K X0
 have E0 := X0.ext0
 refine o_aloadN K X0 d38_0 rfl rfl rfl ?_
 refine o_getfield K X0 (host := "") (Or.inl (w149 hw)) Via.refl q1 d38_1 rfl ?_
 intro T1 X1
 refine o_interface K X1 (y := (⟨"java/util/Map", "entrySet", "()Ljava/util/Set;"⟩ : MethodName)) (z := (⟨z3, "entrySet", "()Ljava/util/Set;"⟩ : MethodName)) (w216 hw) (w217 hw) (w218 hw) rfl (w219 hw) (w220 hw) (w221 hw) (w222 hw) (w223 hw) (w142 hw) (w224 hw) (by decide) q2 (rm_umesB l Z a0 hw u m e h0 q2 q3 q4) (by decide) rfl (argsL := []) rfl (lenOf pd13 rfl) (W := 0) rfl (by decide) (by decide) (by decide) d38_4 rfl ?_
 intro v2 T2 h2 X2 U2
 obtain ⟨rfl, rfl⟩ := U2
 show oGoes pp ee bb ss Z T2 (mkF mm 9 _ [.ref e]) _ _ _
 refine o_interface K X2 (y := (⟨"java/util/Set", "iterator", z16⟩ : MethodName)) (z := (⟨z12, "iterator", z16⟩ : MethodName)) (w282 hw) (w283 hw) (w284 hw) rfl (w285 hw) (w286 hw) (w287 hw) (w288 hw) (w289 hw) (w229 hw) (w290 hw) (by decide) q5 (rm_uesiter l Z a0 hw e c m h0 q5 q6 q7 q8 q9 q10 q11 q12) (by decide) rfl (argsL := []) rfl (lenOf pd5 rfl) (W := 0) rfl (by decide) (by decide) (by decide) d38_9 rfl ?_
 intro v3 T3 h3 X3 U3
 obtain ⟨t_3, r_3, rfl, u3_0, u3_1, u3_2, u3_3, u3_4, u3_5⟩ := U3
 have G3_t : Z.heap.size ≤ t_3 := Nat.le_trans X2.ext0.1 u3_1
 show oGoes pp ee bb ss Z T3 (mkF mm 14 _ [.ref t_3]) _ _ _
 refine o_astoreN K X3 d38_14 rfl rfl (L' := #[vR rp, vR t_3, uS]) rfl ?_
 refine o_aloadN K X3 d38_15 rfl rfl rfl ?_
 refine o_interface K X3 (y := (⟨z21, "hasNext", "()Z"⟩ : MethodName)) (z := (⟨z15, "hasNext", "()Z"⟩ : MethodName)) (w106 hw) (w107 hw) (w108 hw) rfl (w343 hw) (w344 hw) (w345 hw) (w346 hw) (w347 hw) (w293 hw) (w348 hw) (by decide) u3_2 (rm_ue1has l Z a0 hw t_3 r_3 h3 u3_3 u3_4 u3_5) (by decide) rfl (argsL := []) rfl (lenOf pd6 rfl) (W := 0) rfl (by decide) (by decide) (by decide) d38_16 rfl ?_
 intro v4 T4 h4 X4 U4
 obtain ⟨rfl, rfl⟩ := U4
 show oGoes pp ee bb ss Z T4 (mkF mm 21 _ [.int 0]) _ _ _
 refine o_if_eq_t K X4 d38_21 (by decide) (pc' := 63) (by decide) (by decide) ?_
 refine o_iconst K X4 d38_63 rfl (z := 0) rfl ?_
 refine o_ireturnN K X4 .boolean d38_64 rfl (by simp) (z' := 0) (by decide) ?_ (by decide) (by decide)
 exact ⟨rfl, ((Keep.refl h0 []).trans u3_0 all0)⟩
theorem d39_0 : decode prog_42_method_2_code 0 = .ok (.aload_n 1, 1) := by decide +kernel
theorem d39_1 : decode prog_42_method_2_code 1 = .ok (.invokevirtual 7, 3) := by decide +kernel
theorem d39_4 : decode prog_42_method_2_code 4 = .ok (.invokevirtual 13, 3) := by decide +kernel
theorem d39_7 : decode prog_42_method_2_code 7 = .ok (.ifCond .eq 16, 3) := by decide +kernel
theorem d39_10 : decode prog_42_method_2_code 10 = .ok (.aload_n 0, 1) := by decide +kernel
theorem d39_11 : decode prog_42_method_2_code 11 = .ok (.dup, 1) := by decide +kernel
theorem d39_12 : decode prog_42_method_2_code 12 = .ok (.getfield 19, 3) := by decide +kernel
theorem d39_15 : decode prog_42_method_2_code 15 = .ok (.iconst 1, 1) := by decide +kernel
theorem d39_16 : decode prog_42_method_2_code 16 = .ok (.iadd, 1) := by decide +kernel
theorem d39_17 : decode prog_42_method_2_code 17 = .ok (.putfield 19, 3) := by decide +kernel
theorem d39_20 : decode prog_42_method_2_code 20 = .ok (.goto 42, 3) := by decide +kernel
theorem d39_62 : decode prog_42_method_2_code 62 = .ok (.return_, 1) := by decide +kernel
theorem pd15 : parseMethodDescriptor "()Ljava/util/Optional;" = some ⟨[], some (.object z4)⟩ := by decide +kernel
def r_addL : Room := { frames := 2, cells := 0, slots := 0, locals := 24 }
def Q_addL (Z : State) (t s : Addr) (p1 f1 u1 : Int32) (em : Addr) (h0 : Heap) (v : Option Value) (h : Heap) : Prop := v = none ∧ Keep h0 h [t] ∧ Exa Z h t z1 ∧ Fld Z h t z1 "passed" "I" (.int p1) ∧ Fld Z h t z1 "failed" "I" (.int f1) ∧ Fld Z h t z1 "unusable" "I" (.int (u1 + (1 : Int32)))
theorem rm_addL (l : Launch) (Z : State) (a0 : Array Value) (hw : oHw Z a0) (t s : Addr) (p1 f1 u1 : Int32) (em : Addr) (h0 : Heap) (q0 : Exa Z h0 t z1) (q1 : Z.heap.size ≤ t) (q2 : Fld Z h0 t z1 "passed" "I" (.int p1)) (q3 : Fld Z h0 t z1 "failed" "I" (.int f1)) (q4 : Fld Z h0 t z1 "unusable" "I" (.int u1)) (q5 : Exa Z h0 s z2) (q6 : Fld Z h0 s z2 "report" z20 .null) (q7 : Sta Z Z.heap z4 "EMPTY" "Ljava/util/Optional;" (.ref em)) (q8 : Exa Z Z.heap em z4) (q9 : Fld Z Z.heap em z4 "value" "Ljava/lang/Object;" .null) : oMet l Z (⟨z1, "add", z28⟩ : MethodName) prog_42_method_2_code 2 none r_addL [] #[.ref t, .ref s] h0 (Q_addL Z t s p1 f1 u1 em h0) := by
 refine oEnter (plainFor_of_name (by first | (simp [plainName, overriddenIn]; done) | decide +kernel)) (own := z1) (nm := "add") rfl rfl (L := #[.val (.ref t), .val (.ref s)]) (fun m => by first | (simp [entryFrame, mkF, argsToLocals, Value.category]; done) | rfl) ?_
 intro pp ee ss mm bb mtd cc T0 K X0
 have E0 := X0.ext0
 refine o_aloadN K X0 d39_0 rfl rfl rfl ?_
 refine o_virtual K X0   (w181 hw) (w182 hw) (oNF (w184 hw)) (w184 hw) (w183 hw) (w11 hw) (w185 hw) (by decide) q5 (rm_grep0 l Z a0 hw s em h0 q6 q7) (by decide) rfl (argsL := []) rfl (lenOf pd15 rfl) (W := 0) rfl (by decide) (by decide) (by decide) d39_1 rfl ?_
 intro v1 T1 h1 X1 U1
 obtain ⟨rfl, rfl⟩ := U1
 show oGoes pp ee bb ss Z T1 (mkF mm 4 _ [.ref em]) _ _ _
 refine o_virtual K X1   (w199 hw) (w200 hw) (oNF (w202 hw)) (w202 hw) (w201 hw) (w188 hw) (w203 hw) (by decide) (q8.ext X1.ext0) (rm_oemp1 l Z a0 hw em h0 (q9.ext X1.ext0)) (by decide) rfl (argsL := []) rfl (lenOf pd6 rfl) (W := 0) rfl (by decide) (by decide) (by decide) d39_4 rfl ?_
 intro v2 T2 h2 X2 U2
 obtain ⟨rfl, rfl⟩ := U2
 show oGoes pp ee bb ss Z T2 (mkF mm 7 _ [.int 1]) _ _ _
 refine o_if_eq_f K X2 d39_7 rfl (by decide) ?_
 refine o_aloadN K X2 d39_10 rfl rfl rfl ?_
 refine o_dup K X2 d39_11 rfl rfl ?_
 refine o_getfield K X2 (host := "") (Or.inl (w170 hw)) Via.refl q4 d39_12 rfl ?_
 intro T3 X3
 refine o_iconst K X3 d39_15 rfl (z := 1) rfl ?_
 refine o_iadd K X3 d39_16 rfl (z := (u1 + (1 : Int32))) rfl ?_
 refine o_putfield K X3 (host := "") (Or.inl (w170 hw)) Via.refl q4 q0 (Or.inl (w171 hw)) (w155 hw) (ty := .int) (by decide) rfl rfl q1 d39_17 rfl ?_
 intro T4 h4 X4 W4
 have F4 := Fld.same W4 q4
 refine o_goto K X4 d39_20 (by decide) (pc' := 62) (by decide) ?_
 refine o_return K X4 d39_62 rfl ?_ (by decide) (by decide)
 have m5 := (Exa.wr W4 q0)
 have m6 := (Fld.other W4 q2 (Or.inr (slot_ne (Or.inl (w167 hw)) (Or.inl (w171 hw)) (by decide) (t := .int) (t' := .int) (by decide) (by decide))))
 have m7 := (Fld.other W4 q3 (Or.inr (slot_ne (Or.inl (w169 hw)) (Or.inl (w171 hw)) (by decide) (t := .int) (t' := .int) (by decide) (by decide))))
 exact ⟨rfl, ((Keep.refl h0 [t]).wr W4 (Or.inl me0)), m5, m6, m7, F4⟩
theorem d39_23 : decode prog_42_method_2_code 23 = .ok (.aload_n 1, 1) := by decide +kernel
theorem d39_24 : decode prog_42_method_2_code 24 = .ok (.invokevirtual 7, 3) := by decide +kernel
theorem d39_27 : decode prog_42_method_2_code 27 = .ok (.invokevirtual 25, 3) := by decide +kernel
theorem d39_30 : decode prog_42_method_2_code 30 = .ok (.checkcast 29, 3) := by decide +kernel
theorem d39_33 : decode prog_42_method_2_code 33 = .ok (.invokevirtual 31, 3) := by decide +kernel
theorem d39_36 : decode prog_42_method_2_code 36 = .ok (.ifCond .eq 16, 3) := by decide +kernel
theorem d39_52 : decode prog_42_method_2_code 52 = .ok (.aload_n 0, 1) := by decide +kernel
theorem d39_53 : decode prog_42_method_2_code 53 = .ok (.dup, 1) := by decide +kernel
theorem d39_54 : decode prog_42_method_2_code 54 = .ok (.getfield 37, 3) := by decide +kernel
theorem d39_57 : decode prog_42_method_2_code 57 = .ok (.iconst 1, 1) := by decide +kernel
theorem d39_58 : decode prog_42_method_2_code 58 = .ok (.iadd, 1) := by decide +kernel
theorem d39_59 : decode prog_42_method_2_code 59 = .ok (.putfield 37, 3) := by decide +kernel
theorem pd16 : parseMethodDescriptor "()Ljava/lang/Object;" = some ⟨[], some (.object z18)⟩ := by decide +kernel
def r_addA : Room := { frames := 8, cells := 6, slots := 12, locals := 106 }
def Q_addA (Z : State) (t j rp u m : Addr) (p1 f1 u1 : Int32) (h0 : Heap) (v : Option Value) (h : Heap) : Prop := ∃ e c : Addr, v = none ∧ Keep h0 h [t, u, m] ∧ Exa Z h t z1 ∧ Fld Z h t z1 "passed" "I" (.int (p1 + (1 : Int32))) ∧ Fld Z h t z1 "failed" "I" (.int f1) ∧ Fld Z h t z1 "unusable" "I" (.int u1) ∧ Exa Z h u z3 ∧ Fld Z h u z3 "m" z14 (.ref m) ∧ Fld Z h u z3 "entrySet" z13 (.ref e) ∧ Exa Z h m z0 ∧ Fld Z h m z0 "head" z11 .null ∧ Fld Z h m z7 "modCount" "I" (.int 0) ∧ Exa Z h e z12 ∧ Fld Z h e z19 "c" z25 (.ref c) ∧ Exa Z h c z6 ∧ Fld Z h c z6 "this$0" z22 (.ref m) ∧ Fld Z h c z6 "reversed" "Z" (.int 0) ∧ h0.size ≤ e ∧ h0.size ≤ c
theorem rm_addA (l : Launch) (Z : State) (a0 : Array Value) (hw : oHw Z a0) (t j rp u m : Addr) (p1 f1 u1 : Int32) (h0 : Heap) (q0 : Exa Z h0 t z1) (q1 : Z.heap.size ≤ t) (q2 : Fld Z h0 t z1 "passed" "I" (.int p1)) (q3 : Fld Z h0 t z1 "failed" "I" (.int f1)) (q4 : Fld Z h0 t z1 "unusable" "I" (.int u1)) (q5 : Exa Z h0 j z2) (q6 : Fld Z h0 j z2 "report" z20 (.ref rp)) (q7 : Exa Z h0 rp z5) (q8 : Fld Z h0 rp z5 "findings" z14 (.ref u)) (q9 : Exa Z h0 u z3) (q10 : Fld Z h0 u z3 "m" z14 (.ref m)) (q11 : Fld Z h0 u z3 "entrySet" z13 .null) (q12 : Exa Z h0 m z0) (q13 : Fld Z h0 m z7 "entrySet" z13 .null) (q14 : Fld Z h0 m z0 "head" z11 .null) (q15 : Fld Z h0 m z7 "modCount" "I" (.int 0)) (q16 : Z.heap.size ≤ u) (q17 : Z.heap.size ≤ m) (q18 : u ≠ m) (q19 : t ≠ u) (q20 : t ≠ m) : oMet l Z (⟨z1, "add", z28⟩ : MethodName) prog_42_method_2_code 2 none r_addA [] #[.ref t, .ref j] h0 (Q_addA Z t j rp u m p1 f1 u1 h0) := by
 refine oEnter (plainFor_of_name (by first | (simp [plainName, overriddenIn]; done) | decide +kernel)) (own := z1) (nm := "add") rfl rfl (L := #[.val (.ref t), .val (.ref j)]) (fun m => by first | (simp [entryFrame, mkF, argsToLocals, Value.category]; done) | rfl) ?_
 intro pp ee ss mm bb mtd cc T0 K X0
 have E0 := X0.ext0
 refine o_aloadN K X0 d39_0 rfl rfl rfl ?_
 refine o_virtual K X0   (w181 hw) (w182 hw) (oNF (w184 hw)) (w184 hw) (w183 hw) (w11 hw) (w185 hw) (by decide) q5 (rm_grep1 l Z a0 hw j rp h0 q6) (by decide) rfl (argsL := []) rfl (lenOf pd15 rfl) (W := 0) rfl (by decide) (by decide) (by decide) d39_1 rfl ?_
 intro v1 T1 h1 X1 U1
 obtain ⟨r_1, rfl, u1_0, u1_1, u1_2, u1_3⟩ := U1
 have G1_r : Z.heap.size ≤ r_1 := Nat.le_trans X0.ext0.1 u1_1
 show oGoes pp ee bb ss Z T1 (mkF mm 4 _ [.ref r_1]) _ _ _
 refine o_virtual K X1   (w199 hw) (w200 hw) (oNF (w202 hw)) (w202 hw) (w201 hw) (w188 hw) (w203 hw) (by decide) u1_2 (rm_oemp0 l Z a0 hw r_1 rp h1 u1_3) (by decide) rfl (argsL := []) rfl (lenOf pd6 rfl) (W := 0) rfl (by decide) (by decide) (by decide) d39_4 rfl ?_
 intro v2 T2 h2 X2 U2
 obtain ⟨rfl, rfl⟩ := U2
 show oGoes pp ee bb ss Z T2 (mkF mm 7 _ [.int 0]) _ _ _
 refine o_if_eq_t K X2 d39_7 (by decide) (pc' := 23) (by decide) (by decide) ?_
 refine o_aloadN K X2 d39_23 rfl rfl rfl ?_
 have m3 := (q6.keep u1_0 nin0)
 have m4 := (q5.keep u1_0)
 refine o_virtual K X2   (w181 hw) (w182 hw) (oNF (w184 hw)) (w184 hw) (w183 hw) (w11 hw) (w185 hw) (by decide) m4 (rm_grep1 l Z a0 hw j rp h1 m3) (by decide) rfl (argsL := []) rfl (lenOf pd15 rfl) (W := 0) rfl (by decide) (by decide) (by decide) d39_24 rfl ?_
 intro v5 T5 h5 X5 U5
 obtain ⟨r_5, rfl, u5_0, u5_1, u5_2, u5_3⟩ := U5
 have G5_r : Z.heap.size ≤ r_5 := Nat.le_trans X2.ext0.1 u5_1
 show oGoes pp ee bb ss Z T5 (mkF mm 27 _ [.ref r_5]) _ _ _
 refine o_virtual K X5   (w204 hw) (w205 hw) (oNF (w207 hw)) (w207 hw) (w206 hw) (w188 hw) (w208 hw) (by decide) u5_2 (rm_oget l Z a0 hw r_5 rp h5 u5_3) (by decide) rfl (argsL := []) rfl (lenOf pd16 rfl) (W := 0) rfl (by decide) (by decide) (by decide) d39_27 rfl ?_
 intro v6 T6 h6 X6 U6
 obtain ⟨rfl, rfl⟩ := U6
 show oGoes pp ee bb ss Z T6 (mkF mm 30 _ [.ref rp]) _ _ _
 have m8 := ((q7.keep u1_0).keep u5_0)
 refine o_checkcast K X6 (w209 hw) (Ins.self m8) d39_30 rfl ?_
 intro T7 X7
 have m9 := ((q8.keep u1_0 nin0).keep u5_0 nin0)
 have m10 := ((q9.keep u1_0).keep u5_0)
 have m11 := ((q10.keep u1_0 nin0).keep u5_0 nin0)
 have m12 := ((q11.keep u1_0 nin0).keep u5_0 nin0)
 have m13 := ((q12.keep u1_0).keep u5_0)
 have m14 := ((q13.keep u1_0 nin0).keep u5_0 nin0)
 have m15 := ((q14.keep u1_0 nin0).keep u5_0 nin0)
 have m16 := ((q15.keep u1_0 nin0).keep u5_0 nin0)
 refine o_virtual K X7   (w211 hw) (w212 hw) (oNF (w214 hw)) (w214 hw) (w213 hw) (w53 hw) (w215 hw) (by decide) m8 (rm_famA l Z a0 hw rp u m h5 m8 m9 m10 m11 m12 m13 m14 m15 m16 q16 q17 q18) (by decide) rfl (argsL := []) rfl (lenOf pd6 rfl) (W := 0) rfl (by decide) (by decide) (by decide) d39_33 rfl ?_
 intro v17 T17 h17 X17 U17
 obtain ⟨e_17, c_17, rfl, u17_0, u17_1, u17_2, u17_3, u17_4, u17_5, u17_6, u17_7, u17_8, u17_9, u17_10, u17_11, u17_12, u17_13⟩ := U17
 have G17_e : Z.heap.size ≤ e_17 := Nat.le_trans X7.ext0.1 u17_12
 have G17_c : Z.heap.size ≤ c_17 := Nat.le_trans X7.ext0.1 u17_13
 show oGoes pp ee bb ss Z T17 (mkF mm 36 _ [.int 0]) _ _ _
 refine o_if_eq_t K X17 d39_36 (by decide) (pc' := 52) (by decide) (by decide) ?_
 refine o_aloadN K X17 d39_52 rfl rfl rfl ?_
 refine o_dup K X17 d39_53 rfl rfl ?_
 have m19 := (((q2.keep u1_0 nin0).keep u5_0 nin0).keep u17_0 (ninS q19 (ninS q20 nin0)))
 refine o_getfield K X17 (host := "") (Or.inl (w166 hw)) Via.refl m19 d39_54 rfl ?_
 intro T18 X18
 refine o_iconst K X18 d39_57 rfl (z := 1) rfl ?_
 refine o_iadd K X18 d39_58 rfl (z := (p1 + (1 : Int32))) rfl ?_
 have m21 := (((q0.keep u1_0).keep u5_0).keep u17_0)
 refine o_putfield K X18 (host := "") (Or.inl (w166 hw)) Via.refl m19 m21 (Or.inl (w167 hw)) (w155 hw) (ty := .int) (by decide) rfl rfl q1 d39_59 rfl ?_
 intro T20 h20 X20 W20
 have F20 := Fld.same W20 m19
 refine o_return K X20 d39_62 rfl ?_ (by decide) (by decide)
 have m22 := (Exa.wr W20 m21)
 have m23 := (Fld.other W20 (((q3.keep u1_0 nin0).keep u5_0 nin0).keep u17_0 (ninS q19 (ninS q20 nin0))) (Or.inr (slot_ne (Or.inl (w169 hw)) (Or.inl (w167 hw)) (by decide) (t := .int) (t' := .int) (by decide) (by decide))))
 have m24 := (Fld.other W20 (((q4.keep u1_0 nin0).keep u5_0 nin0).keep u17_0 (ninS q19 (ninS q20 nin0))) (Or.inr (slot_ne (Or.inl (w171 hw)) (Or.inl (w167 hw)) (by decide) (t := .int) (t' := .int) (by decide) (by decide))))
 have m25 := (Exa.wr W20 u17_1)
 have m26 := (Fld.other W20 u17_2 (Or.inl (Ne.symm q19)))
 have m27 := (Fld.other W20 u17_3 (Or.inl (Ne.symm q19)))
 have m28 := (Exa.wr W20 u17_4)
 have m29 := (Fld.other W20 u17_5 (Or.inl (Ne.symm q20)))
 have m30 := (Fld.other W20 u17_6 (Or.inl (Ne.symm q20)))
 have m31 := (Exa.wr W20 u17_7)
 have n32 := oLsn q0.lt (Nat.le_trans u1_0.1 u5_0.1) u17_12
 have m33 := (Fld.other W20 u17_8 (Or.inl n32))
 have m34 := (Exa.wr W20 u17_9)
 have n35 := oLsn q0.lt (Nat.le_trans u1_0.1 u5_0.1) u17_13
 have m36 := (Fld.other W20 u17_10 (Or.inl n35))
 have m37 := (Fld.other W20 u17_11 (Or.inl n35))
 exact ⟨e_17, c_17, rfl, (((((Keep.refl h0 [t, u, m]).trans u1_0 all0).trans u5_0 all0).trans u17_0 (allS (Or.inl me1) (allS (Or.inl me2) all0))).wr W20 (Or.inl me0)), m22, F20, m23, m24, m25, m26, m27, m28, m29, m30, m31, m33, m34, m36, m37, (Nat.le_trans (Nat.le_trans u1_0.1 u5_0.1) u17_12), (Nat.le_trans (Nat.le_trans u1_0.1 u5_0.1) u17_13)⟩
def r_addB : Room := { frames := 7, cells := 4, slots := 9, locals := 94 }
def Q_addB (Z : State) (t j rp u m e c : Addr) (p1 f1 u1 : Int32) (h0 : Heap) (v : Option Value) (h : Heap) : Prop := v = none ∧ Keep h0 h [t] ∧ Exa Z h t z1 ∧ Fld Z h t z1 "passed" "I" (.int (p1 + (1 : Int32))) ∧ Fld Z h t z1 "failed" "I" (.int f1) ∧ Fld Z h t z1 "unusable" "I" (.int u1)
theorem rm_addB (l : Launch) (Z : State) (a0 : Array Value) (hw : oHw Z a0) (t j rp u m e c : Addr) (p1 f1 u1 : Int32) (h0 : Heap) (q0 : Exa Z h0 t z1) (q1 : Z.heap.size ≤ t) (q2 : Fld Z h0 t z1 "passed" "I" (.int p1)) (q3 : Fld Z h0 t z1 "failed" "I" (.int f1)) (q4 : Fld Z h0 t z1 "unusable" "I" (.int u1)) (q5 : Exa Z h0 j z2) (q6 : Fld Z h0 j z2 "report" z20 (.ref rp)) (q7 : Exa Z h0 rp z5) (q8 : Fld Z h0 rp z5 "findings" z14 (.ref u)) (q9 : Exa Z h0 u z3) (q10 : Fld Z h0 u z3 "m" z14 (.ref m)) (q11 : Fld Z h0 u z3 "entrySet" z13 (.ref e)) (q12 : Exa Z h0 e z12) (q13 : Fld Z h0 e z19 "c" z25 (.ref c)) (q14 : Exa Z h0 c z6) (q15 : Fld Z h0 c z6 "this$0" z22 (.ref m)) (q16 : Fld Z h0 c z6 "reversed" "Z" (.int 0)) (q17 : Exa Z h0 m z0) (q18 : Fld Z h0 m z0 "head" z11 .null) (q19 : Fld Z h0 m z7 "modCount" "I" (.int 0)) : oMet l Z (⟨z1, "add", z28⟩ : MethodName) prog_42_method_2_code 2 none r_addB [] #[.ref t, .ref j] h0 (Q_addB Z t j rp u m e c p1 f1 u1 h0) := by
 refine oEnter (plainFor_of_name (by first | (simp [plainName, overriddenIn]; done) | decide +kernel)) (own := z1) (nm := "add") rfl rfl (L := #[.val (.ref t), .val (.ref j)]) (fun m => by first | (simp [entryFrame, mkF, argsToLocals, Value.category]; done) | rfl) ?_
 intro pp ee ss mm bb mtd cc T0 K X0
 have E0 := X0.ext0
 refine o_aloadN K X0 d39_0 rfl rfl rfl ?_
 refine o_virtual K X0   (w181 hw) (w182 hw) (oNF (w184 hw)) (w184 hw) (w183 hw) (w11 hw) (w185 hw) (by decide) q5 (rm_grep1 l Z a0 hw j rp h0 q6) (by decide) rfl (argsL := []) rfl (lenOf pd15 rfl) (W := 0) rfl (by decide) (by decide) (by decide) d39_1 rfl ?_
 intro v1 T1 h1 X1 U1
 obtain ⟨r_1, rfl, u1_0, u1_1, u1_2, u1_3⟩ := U1
 have G1_r : Z.heap.size ≤ r_1 := Nat.le_trans X0.ext0.1 u1_1
 show oGoes pp ee bb ss Z T1 (mkF mm 4 _ [.ref r_1]) _ _ _
 refine o_virtual K X1   (w199 hw) (w200 hw) (oNF (w202 hw)) (w202 hw) (w201 hw) (w188 hw) (w203 hw) (by decide) u1_2 (rm_oemp0 l Z a0 hw r_1 rp h1 u1_3) (by decide) rfl (argsL := []) rfl (lenOf pd6 rfl) (W := 0) rfl (by decide) (by decide) (by decide) d39_4 rfl ?_
 intro v2 T2 h2 X2 U2
 obtain ⟨rfl, rfl⟩ := U2
 show oGoes pp ee bb ss Z T2 (mkF mm 7 _ [.int 0]) _ _ _
 refine o_if_eq_t K X2 d39_7 (by decide) (pc' := 23) (by decide) (by decide) ?_
 refine o_aloadN K X2 d39_23 rfl rfl rfl ?_
 have m3 := (q6.keep u1_0 nin0)
 have m4 := (q5.keep u1_0)
 refine o_virtual K X2   (w181 hw) (w182 hw) (oNF (w184 hw)) (w184 hw) (w183 hw) (w11 hw) (w185 hw) (by decide) m4 (rm_grep1 l Z a0 hw j rp h1 m3) (by decide) rfl (argsL := []) rfl (lenOf pd15 rfl) (W := 0) rfl (by decide) (by decide) (by decide) d39_24 rfl ?_
 intro v5 T5 h5 X5 U5
 obtain ⟨r_5, rfl, u5_0, u5_1, u5_2, u5_3⟩ := U5
 have G5_r : Z.heap.size ≤ r_5 := Nat.le_trans X2.ext0.1 u5_1
 show oGoes pp ee bb ss Z T5 (mkF mm 27 _ [.ref r_5]) _ _ _
 refine o_virtual K X5   (w204 hw) (w205 hw) (oNF (w207 hw)) (w207 hw) (w206 hw) (w188 hw) (w208 hw) (by decide) u5_2 (rm_oget l Z a0 hw r_5 rp h5 u5_3) (by decide) rfl (argsL := []) rfl (lenOf pd16 rfl) (W := 0) rfl (by decide) (by decide) (by decide) d39_27 rfl ?_
 intro v6 T6 h6 X6 U6
 obtain ⟨rfl, rfl⟩ := U6
 show oGoes pp ee bb ss Z T6 (mkF mm 30 _ [.ref rp]) _ _ _
 have m8 := ((q7.keep u1_0).keep u5_0)
 refine o_checkcast K X6 (w209 hw) (Ins.self m8) d39_30 rfl ?_
 intro T7 X7
 have m9 := ((q8.keep u1_0 nin0).keep u5_0 nin0)
 have m10 := ((q9.keep u1_0).keep u5_0)
 have m11 := ((q10.keep u1_0 nin0).keep u5_0 nin0)
 have m12 := ((q11.keep u1_0 nin0).keep u5_0 nin0)
 have m13 := ((q12.keep u1_0).keep u5_0)
 have m14 := ((q13.keep u1_0 nin0).keep u5_0 nin0)
 have m15 := ((q14.keep u1_0).keep u5_0)
 have m16 := ((q15.keep u1_0 nin0).keep u5_0 nin0)
 have m17 := ((q16.keep u1_0 nin0).keep u5_0 nin0)
 have m18 := ((q17.keep u1_0).keep u5_0)
 have m19 := ((q18.keep u1_0 nin0).keep u5_0 nin0)
 have m20 := ((q19.keep u1_0 nin0).keep u5_0 nin0)
 refine o_virtual K X7   (w211 hw) (w212 hw) (oNF (w214 hw)) (w214 hw) (w213 hw) (w53 hw) (w215 hw) (by decide) m8 (rm_famB l Z a0 hw rp u m e c h5 m8 m9 m10 m11 m12 m13 m14 m15 m16 m17 m18 m19 m20) (by decide) rfl (argsL := []) rfl (lenOf pd6 rfl) (W := 0) rfl (by decide) (by decide) (by decide) d39_33 rfl ?_
 intro v21 T21 h21 X21 U21
 obtain ⟨rfl, u21_0⟩ := U21
 show oGoes pp ee bb ss Z T21 (mkF mm 36 _ [.int 0]) _ _ _
 refine o_if_eq_t K X21 d39_36 (by decide) (pc' := 52) (by decide) (by decide) ?_
 refine o_aloadN K X21 d39_52 rfl rfl rfl ?_
 refine o_dup K X21 d39_53 rfl rfl ?_
 have m23 := (((q2.keep u1_0 nin0).keep u5_0 nin0).keep u21_0 nin0)
 refine o_getfield K X21 (host := "") (Or.inl (w166 hw)) Via.refl m23 d39_54 rfl ?_
 intro T22 X22
 refine o_iconst K X22 d39_57 rfl (z := 1) rfl ?_
 refine o_iadd K X22 d39_58 rfl (z := (p1 + (1 : Int32))) rfl ?_
 have m25 := (((q0.keep u1_0).keep u5_0).keep u21_0)
 refine o_putfield K X22 (host := "") (Or.inl (w166 hw)) Via.refl m23 m25 (Or.inl (w167 hw)) (w155 hw) (ty := .int) (by decide) rfl rfl q1 d39_59 rfl ?_
 intro T24 h24 X24 W24
 have F24 := Fld.same W24 m23
 refine o_return K X24 d39_62 rfl ?_ (by decide) (by decide)
 have m26 := (Exa.wr W24 m25)
 have m27 := (Fld.other W24 (((q3.keep u1_0 nin0).keep u5_0 nin0).keep u21_0 nin0) (Or.inr (slot_ne (Or.inl (w169 hw)) (Or.inl (w167 hw)) (by decide) (t := .int) (t' := .int) (by decide) (by decide))))
 have m28 := (Fld.other W24 (((q4.keep u1_0 nin0).keep u5_0 nin0).keep u21_0 nin0) (Or.inr (slot_ne (Or.inl (w171 hw)) (Or.inl (w167 hw)) (by decide) (t := .int) (t' := .int) (by decide) (by decide))))
 exact ⟨rfl, (((((Keep.refl h0 [t]).trans u1_0 all0).trans u5_0 all0).trans u21_0 all0).wr W24 (Or.inl me0)), m26, F24, m27, m28⟩
theorem d40_0 : decode method_3_code 0 = .ok (.iload_n 1, 1) := by decide +kernel
theorem d40_1 : decode method_3_code 1 = .ok (.iconst 3, 1) := by decide +kernel
theorem d40_2 : decode method_3_code 2 = .ok (.iand, 1) := by decide +kernel
theorem d40_3 : decode method_3_code 3 = .ok (.istore 4, 2) := by decide +kernel
theorem d40_5 : decode method_3_code 5 = .ok (.iload 4, 2) := by decide +kernel
theorem d40_7 : decode method_3_code 7 = .ok (.iconst 2, 1) := by decide +kernel
theorem d40_8 : decode method_3_code 8 = .ok (.if_icmp .ne 10, 3) := by decide +kernel
theorem d40_18 : decode method_3_code 18 = .ok (.iload 4, 2) := by decide +kernel
theorem d40_20 : decode method_3_code 20 = .ok (.iconst 3, 1) := by decide +kernel
theorem d40_21 : decode method_3_code 21 = .ok (.if_icmp .ne 10, 3) := by decide +kernel
theorem d40_31 : decode method_3_code 31 = .ok (.iconst 0, 1) := by decide +kernel
theorem d40_32 : decode method_3_code 32 = .ok (.ireturn, 1) := by decide +kernel
def r_step0 : Room := { frames := 0, cells := 0, slots := 0, locals := 0 }
def Q_step0 (Z : State) (t : Addr) (k : Int32) (s j : Addr) (h0 : Heap) (v : Option Value) (h : Heap) : Prop := v = some (.int 0) ∧ h0 = h
theorem rm_step0 (l : Launch) (Z : State) (a0 : Array Value) (hw : oHw Z a0) (t : Addr) (k : Int32) (s j : Addr) (h0 : Heap) (q0 : ¬ ((k &&& (3 : Int32)) = (2 : Int32))) (q1 : ¬ ((k &&& (3 : Int32)) = (3 : Int32))) : oMet l Z (⟨z17, "step", z29⟩ : MethodName) method_3_code 5 (some .int) r_step0 [] #[.ref t, .int k, .ref s, .ref j] h0 (Q_step0 Z t k s j h0) := by
 refine oEnter (plainFor_of_name (by first | (simp [plainName, overriddenIn]; done) | decide +kernel)) (own := z17) (nm := "step") rfl rfl (L := #[.val (.ref t), .val (.int k), .val (.ref s), .val (.ref j), .unset]) (fun m => by first | (simp [entryFrame, mkF, argsToLocals, Value.category]; done) | rfl) ?_
 intro pp ee ss mm bb mtd cc T0 K X0
 have E0 := X0.ext0
 refine o_iloadN K X0 d40_0 rfl rfl ?_
 refine o_iconst K X0 d40_1 rfl (z := 3) rfl ?_
 refine o_iand K X0 d40_2 rfl (z := (k &&& (3 : Int32))) rfl ?_
 refine o_istore K X0 d40_3 rfl (L' := #[vR t, vI k, vR s, vR j, vI (k &&& (3 : Int32))]) rfl ?_
 refine o_iload K X0 d40_5 rfl rfl ?_
 refine o_iconst K X0 d40_7 rfl (z := 2) rfl ?_
 refine o_icmp_ne_t K X0 d40_8 (by decide) (pc' := 18) (by decide) q0 ?_
 refine o_iload K X0 d40_18 rfl rfl ?_
 refine o_iconst K X0 d40_20 rfl (z := 3) rfl ?_
 refine o_icmp_ne_t K X0 d40_21 (by decide) (pc' := 31) (by decide) q1 ?_
 refine o_iconst K X0 d40_31 rfl (z := 0) rfl ?_
 refine o_ireturn K X0 d40_32 rfl ?_ (by decide) (by decide)
 exact ⟨rfl, rfl⟩
theorem d40_11 : decode method_3_code 11 = .ok (.aload_n 0, 1) := by decide +kernel
theorem d40_12 : decode method_3_code 12 = .ok (.aload_n 2, 1) := by decide +kernel
theorem d40_13 : decode method_3_code 13 = .ok (.invokevirtual 43, 3) := by decide +kernel
theorem d40_16 : decode method_3_code 16 = .ok (.iconst 1, 1) := by decide +kernel
theorem d40_17 : decode method_3_code 17 = .ok (.ireturn, 1) := by decide +kernel
theorem pd17 : parseMethodDescriptor z28 = some ⟨[(.object z2)], none⟩ := by decide +kernel
def r_stepL : Room := { frames := 3, cells := 0, slots := 0, locals := 37 }
def Q_stepL (Z : State) (t : Addr) (k : Int32) (s j : Addr) (p1 f1 u1 : Int32) (em : Addr) (h0 : Heap) (v : Option Value) (h : Heap) : Prop := v = some (.int 1) ∧ Keep h0 h [t] ∧ Exa Z h t z1 ∧ Fld Z h t z1 "passed" "I" (.int p1) ∧ Fld Z h t z1 "failed" "I" (.int f1) ∧ Fld Z h t z1 "unusable" "I" (.int (u1 + (1 : Int32)))
theorem rm_stepL (l : Launch) (Z : State) (a0 : Array Value) (hw : oHw Z a0) (t : Addr) (k : Int32) (s j : Addr) (p1 f1 u1 : Int32) (em : Addr) (h0 : Heap) (q0 : (k &&& (3 : Int32)) = (2 : Int32)) (q1 : Exa Z h0 t z1) (q2 : Z.heap.size ≤ t) (q3 : Fld Z h0 t z1 "passed" "I" (.int p1)) (q4 : Fld Z h0 t z1 "failed" "I" (.int f1)) (q5 : Fld Z h0 t z1 "unusable" "I" (.int u1)) (q6 : Exa Z h0 s z2) (q7 : Fld Z h0 s z2 "report" z20 .null) (q8 : Sta Z Z.heap z4 "EMPTY" "Ljava/util/Optional;" (.ref em)) (q9 : Exa Z Z.heap em z4) (q10 : Fld Z Z.heap em z4 "value" "Ljava/lang/Object;" .null) : oMet l Z (⟨z17, "step", z29⟩ : MethodName) method_3_code 5 (some .int) r_stepL [] #[.ref t, .int k, .ref s, .ref j] h0 (Q_stepL Z t k s j p1 f1 u1 em h0) := by
 refine oEnter (plainFor_of_name (by first | (simp [plainName, overriddenIn]; done) | decide +kernel)) (own := z17) (nm := "step") rfl rfl (L := #[.val (.ref t), .val (.int k), .val (.ref s), .val (.ref j), .unset]) (fun m => by first | (simp [entryFrame, mkF, argsToLocals, Value.category]; done) | rfl) ?_
 intro pp ee ss mm bb mtd cc T0 K X0
 have E0 := X0.ext0
 refine o_iloadN K X0 d40_0 rfl rfl ?_
 refine o_iconst K X0 d40_1 rfl (z := 3) rfl ?_
 refine o_iand K X0 d40_2 rfl (z := (k &&& (3 : Int32))) rfl ?_
 refine o_istore K X0 d40_3 rfl (L' := #[vR t, vI k, vR s, vR j, vI (k &&& (3 : Int32))]) rfl ?_
 refine o_iload K X0 d40_5 rfl rfl ?_
 refine o_iconst K X0 d40_7 rfl (z := 2) rfl ?_
 refine o_icmp_ne_f K X0 d40_8 rfl q0 ?_
 refine o_aloadN K X0 d40_11 rfl rfl rfl ?_
 refine o_aloadN K X0 d40_12 rfl rfl rfl ?_
 refine o_virtual K X0   (w176 hw) (w177 hw) (oNF (w179 hw)) (w179 hw) (w178 hw) (w156 hw) (w180 hw) (by decide) q1 (rm_addL l Z a0 hw t s p1 f1 u1 em h0 q1 q2 q3 q4 q5 q6 q7 q8 q9 q10) (by decide) rfl (argsL := [.ref s]) rfl (lenOf pd17 rfl) (W := 0) rfl (by decide) (by decide) (by decide) d40_13 rfl ?_
 intro v1 T1 h1 X1 U1
 obtain ⟨rfl, u1_0, u1_1, u1_2, u1_3, u1_4⟩ := U1
 show oGoes pp ee bb ss Z T1 (mkF mm 16 _ []) _ _ _
 refine o_iconst K X1 d40_16 rfl (z := 1) rfl ?_
 refine o_ireturn K X1 d40_17 rfl ?_ (by decide) (by decide)
 exact ⟨rfl, ((Keep.refl h0 [t]).trans u1_0 (allS (Or.inl me0) all0)), u1_1, u1_2, u1_3, u1_4⟩
theorem d40_24 : decode method_3_code 24 = .ok (.aload_n 0, 1) := by decide +kernel
theorem d40_25 : decode method_3_code 25 = .ok (.aload_n 3, 1) := by decide +kernel
theorem d40_26 : decode method_3_code 26 = .ok (.invokevirtual 43, 3) := by decide +kernel
theorem d40_29 : decode method_3_code 29 = .ok (.iconst 1, 1) := by decide +kernel
theorem d40_30 : decode method_3_code 30 = .ok (.ireturn, 1) := by decide +kernel
def r_stepA : Room := { frames := 9, cells := 6, slots := 12, locals := 119 }
def Q_stepA (Z : State) (t : Addr) (k : Int32) (s j rp u m : Addr) (p1 f1 u1 : Int32) (h0 : Heap) (v : Option Value) (h : Heap) : Prop := ∃ e c : Addr, v = some (.int 1) ∧ Keep h0 h [t, u, m] ∧ Exa Z h t z1 ∧ Fld Z h t z1 "passed" "I" (.int (p1 + (1 : Int32))) ∧ Fld Z h t z1 "failed" "I" (.int f1) ∧ Fld Z h t z1 "unusable" "I" (.int u1) ∧ Exa Z h u z3 ∧ Fld Z h u z3 "m" z14 (.ref m) ∧ Fld Z h u z3 "entrySet" z13 (.ref e) ∧ Exa Z h m z0 ∧ Fld Z h m z0 "head" z11 .null ∧ Fld Z h m z7 "modCount" "I" (.int 0) ∧ Exa Z h e z12 ∧ Fld Z h e z19 "c" z25 (.ref c) ∧ Exa Z h c z6 ∧ Fld Z h c z6 "this$0" z22 (.ref m) ∧ Fld Z h c z6 "reversed" "Z" (.int 0) ∧ h0.size ≤ e ∧ h0.size ≤ c
theorem rm_stepA (l : Launch) (Z : State) (a0 : Array Value) (hw : oHw Z a0) (t : Addr) (k : Int32) (s j rp u m : Addr) (p1 f1 u1 : Int32) (h0 : Heap) (q0 : ¬ ((k &&& (3 : Int32)) = (2 : Int32))) (q1 : (k &&& (3 : Int32)) = (3 : Int32)) (q2 : Exa Z h0 t z1) (q3 : Z.heap.size ≤ t) (q4 : Fld Z h0 t z1 "passed" "I" (.int p1)) (q5 : Fld Z h0 t z1 "failed" "I" (.int f1)) (q6 : Fld Z h0 t z1 "unusable" "I" (.int u1)) (q7 : Exa Z h0 j z2) (q8 : Fld Z h0 j z2 "report" z20 (.ref rp)) (q9 : Exa Z h0 rp z5) (q10 : Fld Z h0 rp z5 "findings" z14 (.ref u)) (q11 : Exa Z h0 u z3) (q12 : Fld Z h0 u z3 "m" z14 (.ref m)) (q13 : Fld Z h0 u z3 "entrySet" z13 .null) (q14 : Exa Z h0 m z0) (q15 : Fld Z h0 m z7 "entrySet" z13 .null) (q16 : Fld Z h0 m z0 "head" z11 .null) (q17 : Fld Z h0 m z7 "modCount" "I" (.int 0)) (q18 : Z.heap.size ≤ u) (q19 : Z.heap.size ≤ m) (q20 : u ≠ m) (q21 : t ≠ u) (q22 : t ≠ m) : oMet l Z (⟨z17, "step", z29⟩ : MethodName) method_3_code 5 (some .int) r_stepA [] #[.ref t, .int k, .ref s, .ref j] h0 (Q_stepA Z t k s j rp u m p1 f1 u1 h0) := by
 refine oEnter (plainFor_of_name (by first | (simp [plainName, overriddenIn]; done) | decide +kernel)) (own := z17) (nm := "step") rfl rfl (L := #[.val (.ref t), .val (.int k), .val (.ref s), .val (.ref j), .unset]) (fun m => by first | (simp [entryFrame, mkF, argsToLocals, Value.category]; done) | rfl) ?_
 intro pp ee ss mm bb mtd cc T0 K X0
 have E0 := X0.ext0
 refine o_iloadN K X0 d40_0 rfl rfl ?_
 refine o_iconst K X0 d40_1 rfl (z := 3) rfl ?_
 refine o_iand K X0 d40_2 rfl (z := (k &&& (3 : Int32))) rfl ?_
 refine o_istore K X0 d40_3 rfl (L' := #[vR t, vI k, vR s, vR j, vI (k &&& (3 : Int32))]) rfl ?_
 refine o_iload K X0 d40_5 rfl rfl ?_
 refine o_iconst K X0 d40_7 rfl (z := 2) rfl ?_
 refine o_icmp_ne_t K X0 d40_8 (by decide) (pc' := 18) (by decide) q0 ?_
 refine o_iload K X0 d40_18 rfl rfl ?_
 refine o_iconst K X0 d40_20 rfl (z := 3) rfl ?_
 refine o_icmp_ne_f K X0 d40_21 rfl q1 ?_
 refine o_aloadN K X0 d40_24 rfl rfl rfl ?_
 refine o_aloadN K X0 d40_25 rfl rfl rfl ?_
 refine o_virtual K X0   (w176 hw) (w177 hw) (oNF (w179 hw)) (w179 hw) (w178 hw) (w156 hw) (w180 hw) (by decide) q2 (rm_addA l Z a0 hw t j rp u m p1 f1 u1 h0 q2 q3 q4 q5 q6 q7 q8 q9 q10 q11 q12 q13 q14 q15 q16 q17 q18 q19 q20 q21 q22) (by decide) rfl (argsL := [.ref j]) rfl (lenOf pd17 rfl) (W := 0) rfl (by decide) (by decide) (by decide) d40_26 rfl ?_
 intro v1 T1 h1 X1 U1
 obtain ⟨e_1, c_1, rfl, u1_0, u1_1, u1_2, u1_3, u1_4, u1_5, u1_6, u1_7, u1_8, u1_9, u1_10, u1_11, u1_12, u1_13, u1_14, u1_15, u1_16, u1_17⟩ := U1
 have G1_e : Z.heap.size ≤ e_1 := Nat.le_trans X0.ext0.1 u1_16
 have G1_c : Z.heap.size ≤ c_1 := Nat.le_trans X0.ext0.1 u1_17
 show oGoes pp ee bb ss Z T1 (mkF mm 29 _ []) _ _ _
 refine o_iconst K X1 d40_29 rfl (z := 1) rfl ?_
 refine o_ireturn K X1 d40_30 rfl ?_ (by decide) (by decide)
 exact ⟨e_1, c_1, rfl, ((Keep.refl h0 [t, u, m]).trans u1_0 (allS (Or.inl me0) (allS (Or.inl me1) (allS (Or.inl me2) all0)))), u1_1, u1_2, u1_3, u1_4, u1_5, u1_6, u1_7, u1_8, u1_9, u1_10, u1_11, u1_12, u1_13, u1_14, u1_15, u1_16, u1_17⟩
def r_stepB : Room := { frames := 8, cells := 4, slots := 9, locals := 107 }
def Q_stepB (Z : State) (t : Addr) (k : Int32) (s j rp u m e c : Addr) (p1 f1 u1 : Int32) (h0 : Heap) (v : Option Value) (h : Heap) : Prop := v = some (.int 1) ∧ Keep h0 h [t] ∧ Exa Z h t z1 ∧ Fld Z h t z1 "passed" "I" (.int (p1 + (1 : Int32))) ∧ Fld Z h t z1 "failed" "I" (.int f1) ∧ Fld Z h t z1 "unusable" "I" (.int u1)
theorem rm_stepB (l : Launch) (Z : State) (a0 : Array Value) (hw : oHw Z a0) (t : Addr) (k : Int32) (s j rp u m e c : Addr) (p1 f1 u1 : Int32) (h0 : Heap) (q0 : ¬ ((k &&& (3 : Int32)) = (2 : Int32))) (q1 : (k &&& (3 : Int32)) = (3 : Int32)) (q2 : Exa Z h0 t z1) (q3 : Z.heap.size ≤ t) (q4 : Fld Z h0 t z1 "passed" "I" (.int p1)) (q5 : Fld Z h0 t z1 "failed" "I" (.int f1)) (q6 : Fld Z h0 t z1 "unusable" "I" (.int u1)) (q7 : Exa Z h0 j z2) (q8 : Fld Z h0 j z2 "report" z20 (.ref rp)) (q9 : Exa Z h0 rp z5) (q10 : Fld Z h0 rp z5 "findings" z14 (.ref u)) (q11 : Exa Z h0 u z3) (q12 : Fld Z h0 u z3 "m" z14 (.ref m)) (q13 : Fld Z h0 u z3 "entrySet" z13 (.ref e)) (q14 : Exa Z h0 e z12) (q15 : Fld Z h0 e z19 "c" z25 (.ref c)) (q16 : Exa Z h0 c z6) (q17 : Fld Z h0 c z6 "this$0" z22 (.ref m)) (q18 : Fld Z h0 c z6 "reversed" "Z" (.int 0)) (q19 : Exa Z h0 m z0) (q20 : Fld Z h0 m z0 "head" z11 .null) (q21 : Fld Z h0 m z7 "modCount" "I" (.int 0)) : oMet l Z (⟨z17, "step", z29⟩ : MethodName) method_3_code 5 (some .int) r_stepB [] #[.ref t, .int k, .ref s, .ref j] h0 (Q_stepB Z t k s j rp u m e c p1 f1 u1 h0) := by
 refine oEnter (plainFor_of_name (by first | (simp [plainName, overriddenIn]; done) | decide +kernel)) (own := z17) (nm := "step") rfl rfl (L := #[.val (.ref t), .val (.int k), .val (.ref s), .val (.ref j), .unset]) (fun m => by first | (simp [entryFrame, mkF, argsToLocals, Value.category]; done) | rfl) ?_
 intro pp ee ss mm bb mtd cc T0 K X0
 have E0 := X0.ext0
 refine o_iloadN K X0 d40_0 rfl rfl ?_
 refine o_iconst K X0 d40_1 rfl (z := 3) rfl ?_
 refine o_iand K X0 d40_2 rfl (z := (k &&& (3 : Int32))) rfl ?_
 refine o_istore K X0 d40_3 rfl (L' := #[vR t, vI k, vR s, vR j, vI (k &&& (3 : Int32))]) rfl ?_
 refine o_iload K X0 d40_5 rfl rfl ?_
 refine o_iconst K X0 d40_7 rfl (z := 2) rfl ?_
 refine o_icmp_ne_t K X0 d40_8 (by decide) (pc' := 18) (by decide) q0 ?_
 refine o_iload K X0 d40_18 rfl rfl ?_
 refine o_iconst K X0 d40_20 rfl (z := 3) rfl ?_
 refine o_icmp_ne_f K X0 d40_21 rfl q1 ?_
 refine o_aloadN K X0 d40_24 rfl rfl rfl ?_
 refine o_aloadN K X0 d40_25 rfl rfl rfl ?_
 refine o_virtual K X0   (w176 hw) (w177 hw) (oNF (w179 hw)) (w179 hw) (w178 hw) (w156 hw) (w180 hw) (by decide) q2 (rm_addB l Z a0 hw t j rp u m e c p1 f1 u1 h0 q2 q3 q4 q5 q6 q7 q8 q9 q10 q11 q12 q13 q14 q15 q16 q17 q18 q19 q20 q21) (by decide) rfl (argsL := [.ref j]) rfl (lenOf pd17 rfl) (W := 0) rfl (by decide) (by decide) (by decide) d40_26 rfl ?_
 intro v1 T1 h1 X1 U1
 obtain ⟨rfl, u1_0, u1_1, u1_2, u1_3, u1_4⟩ := U1
 show oGoes pp ee bb ss Z T1 (mkF mm 29 _ []) _ _ _
 refine o_iconst K X1 d40_29 rfl (z := 1) rfl ?_
 refine o_ireturn K X1 d40_30 rfl ?_ (by decide) (by decide)
 exact ⟨rfl, ((Keep.refl h0 [t]).trans u1_0 (allS (Or.inl me0) all0)), u1_1, u1_2, u1_3, u1_4⟩
theorem pd18 : parseMethodDescriptor "()I" = some ⟨[], some .int⟩ := by decide +kernel
def Q_lw114 (Z : State) (i0 i1 i2 i3 : Int32) (s j t : Addr) (ex p1 f1 u1 : Int32) (h0 : Heap) (v : Option Value) (h : Heap) : Prop := v = some (.int 1)
theorem tl_lw114 (l : Launch) (Z : State) (a0 : Array Value) (hw : oHw Z a0) (i0 i1 i2 i3 : Int32) (s j t : Addr) (ex p1 f1 u1 : Int32) (h0 : Heap) (q0 : Exa Z h0 t z1) (q1 : Z.heap.size ≤ t) (q2 : Fld Z h0 t z1 "passed" "I" (.int p1)) (q3 : Fld Z h0 t z1 "failed" "I" (.int f1)) (q4 : Fld Z h0 t z1 "unusable" "I" (.int u1)) (q5 : ((p1 + f1) + u1) = ex) {Q : Option Value → Heap → Prop} (hQ : ∀ v h, Q_lw114 Z i0 i1 i2 i3 s j t ex p1 f1 u1 h0 v h → Q v h) {pp : Program} {ee : Env} {ss : State} {mm : MethodId} {bb : List Frame} {mtd : Method} {cc : Code} {A : Array Value} {T0 : State} (K : oCtx pp ss mm mtd cc Z z17 code maxLocals "law" ret x) (X0 : oSt pp l ee room_1 ss mm A bb mtd cc Z T0 h0 46 420) : oGoes pp ee bb ss Z T0 (mkF mm 114 #[vI i0, vI i1, vI i2, vI i3, vR s, vR j, vR t, vI 1, vI ex] []) Q room_1.cells room_1.slots := by
 have E0 := X0.ext0
 refine o_iload K X0 at_114 rfl rfl ?_
 refine o_if_eq_f K X0 at_116 rfl (by decide) ?_
 refine o_aload K X0 at_119 rfl rfl rfl ?_
 refine o_virtual K X0   (w161 hw) (w162 hw) (oNF (w164 hw)) (w164 hw) (w163 hw) (w156 hw) (w165 hw) (by decide) q0 (rm_gcap l Z a0 hw t p1 f1 u1 h0 q2 q3 q4) (by decide) rfl (argsL := []) rfl (lenOf pd18 rfl) (W := 0) rfl (by decide) (by decide) (by decide) at_121 rfl ?_
 intro v1 T1 h1 X1 U1
 obtain ⟨rfl, rfl⟩ := U1
 show oGoes pp ee bb ss Z T1 (mkF mm 124 _ [(.int ((p1 + f1) + u1))]) _ _ _
 refine o_iload K X1 at_124 rfl rfl ?_
 refine o_icmp_ne_f K X1 at_126 rfl q5 ?_
 refine o_iconst K X1 at_129 rfl (z := 1) rfl ?_
 refine o_goto K X1 at_130 (by decide) (pc' := 134) (by decide) ?_
 refine o_ireturnN K X1 .boolean at_134 rfl (by simp) (z' := 1) (by decide) ?_ (by decide) (by decide)
 exact hQ _ _ rfl
theorem pd19 : parseMethodDescriptor z29 = some ⟨[(.object z1), .int, (.object z2), (.object z2)], some .int⟩ := by decide +kernel
def Q_lw99A (Z : State) (i0 i1 i2 i3 : Int32) (s j t : Addr) (ex : Int32) (rp u m : Addr) (p1 f1 u1 : Int32) (em : Addr) (h0 : Heap) (v : Option Value) (h : Heap) : Prop := v = some (.int 1)
theorem tl_lw99A (l : Launch) (Z : State) (a0 : Array Value) (hw : oHw Z a0) (i0 i1 i2 i3 : Int32) (s j t : Addr) (ex : Int32) (rp u m : Addr) (p1 f1 u1 : Int32) (em : Addr) (h0 : Heap) (q0 : Exa Z h0 t z1) (q1 : Z.heap.size ≤ t) (q2 : Fld Z h0 t z1 "passed" "I" (.int p1)) (q3 : Fld Z h0 t z1 "failed" "I" (.int f1)) (q4 : Fld Z h0 t z1 "unusable" "I" (.int u1)) (q5 : ((p1 + f1) + u1) = ex) (q6 : Exa Z h0 s z2) (q7 : Fld Z h0 s z2 "report" z20 .null) (q8 : Exa Z h0 j z2) (q9 : Fld Z h0 j z2 "report" z20 (.ref rp)) (q10 : Exa Z h0 rp z5) (q11 : Fld Z h0 rp z5 "findings" z14 (.ref u)) (q12 : Exa Z h0 u z3) (q13 : Fld Z h0 u z3 "m" z14 (.ref m)) (q14 : Fld Z h0 u z3 "entrySet" z13 .null) (q15 : Exa Z h0 m z0) (q16 : Fld Z h0 m z7 "entrySet" z13 .null) (q17 : Fld Z h0 m z0 "head" z11 .null) (q18 : Fld Z h0 m z7 "modCount" "I" (.int 0)) (q19 : Z.heap.size ≤ u) (q20 : Z.heap.size ≤ m) (q21 : u ≠ m) (q22 : t ≠ u) (q23 : t ≠ m) (q24 : s ≠ t) (q25 : j ≠ t) (q26 : rp ≠ t) (q27 : s ≠ u) (q28 : s ≠ m) (q29 : j ≠ u) (q30 : j ≠ m) (q31 : rp ≠ u) (q32 : rp ≠ m) (q33 : Sta Z Z.heap z4 "EMPTY" "Ljava/util/Optional;" (.ref em)) (q34 : Exa Z Z.heap em z4) (q35 : Fld Z Z.heap em z4 "value" "Ljava/lang/Object;" .null) {Q : Option Value → Heap → Prop} (hQ : ∀ v h, Q_lw99A Z i0 i1 i2 i3 s j t ex rp u m p1 f1 u1 em h0 v h → Q v h) {pp : Program} {ee : Env} {ss : State} {mm : MethodId} {bb : List Frame} {mtd : Method} {cc : Code} {A : Array Value} {T0 : State} (K : oCtx pp ss mm mtd cc Z z17 code maxLocals "law" ret x) (X0 : oSt pp l ee room_1 ss mm A bb mtd cc Z T0 h0 38 340) : oGoes pp ee bb ss Z T0 (mkF mm 99 #[vI i0, vI i1, vI i2, vI i3, vR s, vR j, vR t, vI 1, vI ex] []) Q room_1.cells room_1.slots := by
 have E0 := X0.ext0
 by_cases c99_1 : (i3 &&& (3 : Int32)) = (2 : Int32)
 refine o_iload K X0 at_99 rfl rfl ?_
 refine o_aload K X0 at_101 rfl rfl rfl ?_
 refine o_iloadN K X0 at_103 rfl rfl ?_
 refine o_aload K X0 at_104 rfl rfl rfl ?_
 refine o_aload K X0 at_106 rfl rfl rfl ?_
 refine o_static K X0  (w172 hw) (w173 hw) (w174 hw) (w175 hw) (by decide) (rm_stepL l Z a0 hw t i3 s j p1 f1 u1 em h0 c99_1 q0 q1 q2 q3 q4 q6 q7 q33 q34 q35) (by decide) rfl (argsL := [.ref t, .int i3, .ref s, .ref j]) rfl (lenOf pd19 rfl) (W := 1) rfl (by decide) (by decide) (by decide) at_108 rfl ?_
 intro v2 T2 h2 X2 U2
 obtain ⟨rfl, u2_0, u2_1, u2_2, u2_3, u2_4⟩ := U2
 show oGoes pp ee bb ss Z T2 (mkF mm 111 _ [.int 1, .int ex]) _ _ _
 refine o_iadd K X2 at_111 rfl (z := (ex + (1 : Int32))) rfl ?_
 refine o_istore K X2 at_112 rfl (L' := #[vI i0, vI i1, vI i2, vI i3, vR s, vR j, vR t, vI 1, vI (ex + (1 : Int32))]) rfl ?_
 refine tl_lw114 l Z a0 hw i0 i1 i2 i3 s j t (ex + (1 : Int32)) p1 f1 (u1 + (1 : Int32)) h2 u2_1 q1 u2_2 u2_3 u2_4 (oT1 q5) (fun v3 h3 U3 => ?_) K (X2.mono (by decide) (by decide))
 obtain rfl : v3 = some (.int 1) := U3
 exact hQ _ _ rfl
 by_cases c99_4 : (i3 &&& (3 : Int32)) = (3 : Int32)
 refine o_iload K X0 at_99 rfl rfl ?_
 refine o_aload K X0 at_101 rfl rfl rfl ?_
 refine o_iloadN K X0 at_103 rfl rfl ?_
 refine o_aload K X0 at_104 rfl rfl rfl ?_
 refine o_aload K X0 at_106 rfl rfl rfl ?_
 refine o_static K X0  (w172 hw) (w173 hw) (w174 hw) (w175 hw) (by decide) (rm_stepA l Z a0 hw t i3 s j rp u m p1 f1 u1 h0 c99_1 c99_4 q0 q1 q2 q3 q4 q8 q9 q10 q11 q12 q13 q14 q15 q16 q17 q18 q19 q20 q21 q22 q23) (by decide) rfl (argsL := [.ref t, .int i3, .ref s, .ref j]) rfl (lenOf pd19 rfl) (W := 1) rfl (by decide) (by decide) (by decide) at_108 rfl ?_
 intro v5 T5 h5 X5 U5
 obtain ⟨e_5, c_5, rfl, u5_0, u5_1, u5_2, u5_3, u5_4, u5_5, u5_6, u5_7, u5_8, u5_9, u5_10, u5_11, u5_12, u5_13, u5_14, u5_15, u5_16, u5_17⟩ := U5
 have G5_e : Z.heap.size ≤ e_5 := Nat.le_trans X0.ext0.1 u5_16
 have G5_c : Z.heap.size ≤ c_5 := Nat.le_trans X0.ext0.1 u5_17
 show oGoes pp ee bb ss Z T5 (mkF mm 111 _ [.int 1, .int ex]) _ _ _
 refine o_iadd K X5 at_111 rfl (z := (ex + (1 : Int32))) rfl ?_
 refine o_istore K X5 at_112 rfl (L' := #[vI i0, vI i1, vI i2, vI i3, vR s, vR j, vR t, vI 1, vI (ex + (1 : Int32))]) rfl ?_
 refine tl_lw114 l Z a0 hw i0 i1 i2 i3 s j t (ex + (1 : Int32)) (p1 + (1 : Int32)) f1 u1 h5 u5_1 q1 u5_2 u5_3 u5_4 (oT2 q5) (fun v6 h6 U6 => ?_) K (X5.mono (by decide) (by decide))
 obtain rfl : v6 = some (.int 1) := U6
 exact hQ _ _ rfl
 refine o_iload K X0 at_99 rfl rfl ?_
 refine o_aload K X0 at_101 rfl rfl rfl ?_
 refine o_iloadN K X0 at_103 rfl rfl ?_
 refine o_aload K X0 at_104 rfl rfl rfl ?_
 refine o_aload K X0 at_106 rfl rfl rfl ?_
 refine o_static K X0  (w172 hw) (w173 hw) (w174 hw) (w175 hw) (by decide) (rm_step0 l Z a0 hw t i3 s j h0 c99_1 c99_4) (by decide) rfl (argsL := [.ref t, .int i3, .ref s, .ref j]) rfl (lenOf pd19 rfl) (W := 1) rfl (by decide) (by decide) (by decide) at_108 rfl ?_
 intro v7 T7 h7 X7 U7
 obtain ⟨rfl, rfl⟩ := U7
 show oGoes pp ee bb ss Z T7 (mkF mm 111 _ [.int 0, .int ex]) _ _ _
 refine o_iadd K X7 at_111 rfl (z := (ex + (0 : Int32))) rfl ?_
 refine o_istore K X7 at_112 rfl (L' := #[vI i0, vI i1, vI i2, vI i3, vR s, vR j, vR t, vI 1, vI (ex + (0 : Int32))]) rfl ?_
 refine tl_lw114 l Z a0 hw i0 i1 i2 i3 s j t (ex + (0 : Int32)) p1 f1 u1 h0 q0 q1 q2 q3 q4 (oT0 q5) (fun v8 h8 U8 => ?_) K (X7.mono (by decide) (by decide))
 obtain rfl : v8 = some (.int 1) := U8
 exact hQ _ _ rfl
def Q_lw99B (Z : State) (i0 i1 i2 i3 : Int32) (s j t : Addr) (ex : Int32) (rp u m e c : Addr) (p1 f1 u1 : Int32) (em : Addr) (h0 : Heap) (v : Option Value) (h : Heap) : Prop := v = some (.int 1)
theorem tl_lw99B (l : Launch) (Z : State) (a0 : Array Value) (hw : oHw Z a0) (i0 i1 i2 i3 : Int32) (s j t : Addr) (ex : Int32) (rp u m e c : Addr) (p1 f1 u1 : Int32) (em : Addr) (h0 : Heap) (q0 : Exa Z h0 t z1) (q1 : Z.heap.size ≤ t) (q2 : Fld Z h0 t z1 "passed" "I" (.int p1)) (q3 : Fld Z h0 t z1 "failed" "I" (.int f1)) (q4 : Fld Z h0 t z1 "unusable" "I" (.int u1)) (q5 : ((p1 + f1) + u1) = ex) (q6 : Exa Z h0 s z2) (q7 : Fld Z h0 s z2 "report" z20 .null) (q8 : Exa Z h0 j z2) (q9 : Fld Z h0 j z2 "report" z20 (.ref rp)) (q10 : Exa Z h0 rp z5) (q11 : Fld Z h0 rp z5 "findings" z14 (.ref u)) (q12 : Exa Z h0 u z3) (q13 : Fld Z h0 u z3 "m" z14 (.ref m)) (q14 : Fld Z h0 u z3 "entrySet" z13 (.ref e)) (q15 : Exa Z h0 e z12) (q16 : Fld Z h0 e z19 "c" z25 (.ref c)) (q17 : Exa Z h0 c z6) (q18 : Fld Z h0 c z6 "this$0" z22 (.ref m)) (q19 : Fld Z h0 c z6 "reversed" "Z" (.int 0)) (q20 : Exa Z h0 m z0) (q21 : Fld Z h0 m z0 "head" z11 .null) (q22 : Fld Z h0 m z7 "modCount" "I" (.int 0)) (q23 : e ≠ t) (q24 : c ≠ t) (q25 : t ≠ u) (q26 : t ≠ m) (q27 : s ≠ t) (q28 : j ≠ t) (q29 : rp ≠ t) (q30 : Sta Z Z.heap z4 "EMPTY" "Ljava/util/Optional;" (.ref em)) (q31 : Exa Z Z.heap em z4) (q32 : Fld Z Z.heap em z4 "value" "Ljava/lang/Object;" .null) {Q : Option Value → Heap → Prop} (hQ : ∀ v h, Q_lw99B Z i0 i1 i2 i3 s j t ex rp u m e c p1 f1 u1 em h0 v h → Q v h) {pp : Program} {ee : Env} {ss : State} {mm : MethodId} {bb : List Frame} {mtd : Method} {cc : Code} {A : Array Value} {T0 : State} (K : oCtx pp ss mm mtd cc Z z17 code maxLocals "law" ret x) (X0 : oSt pp l ee room_1 ss mm A bb mtd cc Z T0 h0 38 340) : oGoes pp ee bb ss Z T0 (mkF mm 99 #[vI i0, vI i1, vI i2, vI i3, vR s, vR j, vR t, vI 1, vI ex] []) Q room_1.cells room_1.slots := by
 have E0 := X0.ext0
 by_cases c99_1 : (i3 &&& (3 : Int32)) = (2 : Int32)
 refine o_iload K X0 at_99 rfl rfl ?_
 refine o_aload K X0 at_101 rfl rfl rfl ?_
 refine o_iloadN K X0 at_103 rfl rfl ?_
 refine o_aload K X0 at_104 rfl rfl rfl ?_
 refine o_aload K X0 at_106 rfl rfl rfl ?_
 refine o_static K X0  (w172 hw) (w173 hw) (w174 hw) (w175 hw) (by decide) (rm_stepL l Z a0 hw t i3 s j p1 f1 u1 em h0 c99_1 q0 q1 q2 q3 q4 q6 q7 q30 q31 q32) (by decide) rfl (argsL := [.ref t, .int i3, .ref s, .ref j]) rfl (lenOf pd19 rfl) (W := 1) rfl (by decide) (by decide) (by decide) at_108 rfl ?_
 intro v2 T2 h2 X2 U2
 obtain ⟨rfl, u2_0, u2_1, u2_2, u2_3, u2_4⟩ := U2
 show oGoes pp ee bb ss Z T2 (mkF mm 111 _ [.int 1, .int ex]) _ _ _
 refine o_iadd K X2 at_111 rfl (z := (ex + (1 : Int32))) rfl ?_
 refine o_istore K X2 at_112 rfl (L' := #[vI i0, vI i1, vI i2, vI i3, vR s, vR j, vR t, vI 1, vI (ex + (1 : Int32))]) rfl ?_
 refine tl_lw114 l Z a0 hw i0 i1 i2 i3 s j t (ex + (1 : Int32)) p1 f1 (u1 + (1 : Int32)) h2 u2_1 q1 u2_2 u2_3 u2_4 (oT1 q5) (fun v3 h3 U3 => ?_) K (X2.mono (by decide) (by decide))
 obtain rfl : v3 = some (.int 1) := U3
 exact hQ _ _ rfl
 by_cases c99_4 : (i3 &&& (3 : Int32)) = (3 : Int32)
 refine o_iload K X0 at_99 rfl rfl ?_
 refine o_aload K X0 at_101 rfl rfl rfl ?_
 refine o_iloadN K X0 at_103 rfl rfl ?_
 refine o_aload K X0 at_104 rfl rfl rfl ?_
 refine o_aload K X0 at_106 rfl rfl rfl ?_
 refine o_static K X0  (w172 hw) (w173 hw) (w174 hw) (w175 hw) (by decide) (rm_stepB l Z a0 hw t i3 s j rp u m e c p1 f1 u1 h0 c99_1 c99_4 q0 q1 q2 q3 q4 q8 q9 q10 q11 q12 q13 q14 q15 q16 q17 q18 q19 q20 q21 q22) (by decide) rfl (argsL := [.ref t, .int i3, .ref s, .ref j]) rfl (lenOf pd19 rfl) (W := 1) rfl (by decide) (by decide) (by decide) at_108 rfl ?_
 intro v5 T5 h5 X5 U5
 obtain ⟨rfl, u5_0, u5_1, u5_2, u5_3, u5_4⟩ := U5
 show oGoes pp ee bb ss Z T5 (mkF mm 111 _ [.int 1, .int ex]) _ _ _
 refine o_iadd K X5 at_111 rfl (z := (ex + (1 : Int32))) rfl ?_
 refine o_istore K X5 at_112 rfl (L' := #[vI i0, vI i1, vI i2, vI i3, vR s, vR j, vR t, vI 1, vI (ex + (1 : Int32))]) rfl ?_
 refine tl_lw114 l Z a0 hw i0 i1 i2 i3 s j t (ex + (1 : Int32)) (p1 + (1 : Int32)) f1 u1 h5 u5_1 q1 u5_2 u5_3 u5_4 (oT2 q5) (fun v6 h6 U6 => ?_) K (X5.mono (by decide) (by decide))
 obtain rfl : v6 = some (.int 1) := U6
 exact hQ _ _ rfl
 refine o_iload K X0 at_99 rfl rfl ?_
 refine o_aload K X0 at_101 rfl rfl rfl ?_
 refine o_iloadN K X0 at_103 rfl rfl ?_
 refine o_aload K X0 at_104 rfl rfl rfl ?_
 refine o_aload K X0 at_106 rfl rfl rfl ?_
 refine o_static K X0  (w172 hw) (w173 hw) (w174 hw) (w175 hw) (by decide) (rm_step0 l Z a0 hw t i3 s j h0 c99_1 c99_4) (by decide) rfl (argsL := [.ref t, .int i3, .ref s, .ref j]) rfl (lenOf pd19 rfl) (W := 1) rfl (by decide) (by decide) (by decide) at_108 rfl ?_
 intro v7 T7 h7 X7 U7
 obtain ⟨rfl, rfl⟩ := U7
 show oGoes pp ee bb ss Z T7 (mkF mm 111 _ [.int 0, .int ex]) _ _ _
 refine o_iadd K X7 at_111 rfl (z := (ex + (0 : Int32))) rfl ?_
 refine o_istore K X7 at_112 rfl (L' := #[vI i0, vI i1, vI i2, vI i3, vR s, vR j, vR t, vI 1, vI (ex + (0 : Int32))]) rfl ?_
 refine tl_lw114 l Z a0 hw i0 i1 i2 i3 s j t (ex + (0 : Int32)) p1 f1 u1 h0 q0 q1 q2 q3 q4 (oT0 q5) (fun v8 h8 U8 => ?_) K (X7.mono (by decide) (by decide))
 obtain rfl : v8 = some (.int 1) := U8
 exact hQ _ _ rfl
def Q_lw84A (Z : State) (i0 i1 i2 i3 : Int32) (s j t : Addr) (ex : Int32) (rp u m : Addr) (p1 f1 u1 : Int32) (em : Addr) (h0 : Heap) (v : Option Value) (h : Heap) : Prop := v = some (.int 1)
theorem tl_lw84A (l : Launch) (Z : State) (a0 : Array Value) (hw : oHw Z a0) (i0 i1 i2 i3 : Int32) (s j t : Addr) (ex : Int32) (rp u m : Addr) (p1 f1 u1 : Int32) (em : Addr) (h0 : Heap) (q0 : Exa Z h0 t z1) (q1 : Z.heap.size ≤ t) (q2 : Fld Z h0 t z1 "passed" "I" (.int p1)) (q3 : Fld Z h0 t z1 "failed" "I" (.int f1)) (q4 : Fld Z h0 t z1 "unusable" "I" (.int u1)) (q5 : ((p1 + f1) + u1) = ex) (q6 : Exa Z h0 s z2) (q7 : Fld Z h0 s z2 "report" z20 .null) (q8 : Exa Z h0 j z2) (q9 : Fld Z h0 j z2 "report" z20 (.ref rp)) (q10 : Exa Z h0 rp z5) (q11 : Fld Z h0 rp z5 "findings" z14 (.ref u)) (q12 : Exa Z h0 u z3) (q13 : Fld Z h0 u z3 "m" z14 (.ref m)) (q14 : Fld Z h0 u z3 "entrySet" z13 .null) (q15 : Exa Z h0 m z0) (q16 : Fld Z h0 m z7 "entrySet" z13 .null) (q17 : Fld Z h0 m z0 "head" z11 .null) (q18 : Fld Z h0 m z7 "modCount" "I" (.int 0)) (q19 : Z.heap.size ≤ u) (q20 : Z.heap.size ≤ m) (q21 : u ≠ m) (q22 : t ≠ u) (q23 : t ≠ m) (q24 : s ≠ t) (q25 : j ≠ t) (q26 : rp ≠ t) (q27 : s ≠ u) (q28 : s ≠ m) (q29 : j ≠ u) (q30 : j ≠ m) (q31 : rp ≠ u) (q32 : rp ≠ m) (q33 : Sta Z Z.heap z4 "EMPTY" "Ljava/util/Optional;" (.ref em)) (q34 : Exa Z Z.heap em z4) (q35 : Fld Z Z.heap em z4 "value" "Ljava/lang/Object;" .null) {Q : Option Value → Heap → Prop} (hQ : ∀ v h, Q_lw84A Z i0 i1 i2 i3 s j t ex rp u m p1 f1 u1 em h0 v h → Q v h) {pp : Program} {ee : Env} {ss : State} {mm : MethodId} {bb : List Frame} {mtd : Method} {cc : Code} {A : Array Value} {T0 : State} (K : oCtx pp ss mm mtd cc Z z17 code maxLocals "law" ret x) (X0 : oSt pp l ee room_1 ss mm A bb mtd cc Z T0 h0 30 260) : oGoes pp ee bb ss Z T0 (mkF mm 84 #[vI i0, vI i1, vI i2, vI i3, vR s, vR j, vR t, vI 1, vI ex] []) Q room_1.cells room_1.slots := by
 have E0 := X0.ext0
 by_cases c84_1 : (i2 &&& (3 : Int32)) = (2 : Int32)
 refine o_iload K X0 at_84 rfl rfl ?_
 refine o_aload K X0 at_86 rfl rfl rfl ?_
 refine o_iloadN K X0 at_88 rfl rfl ?_
 refine o_aload K X0 at_89 rfl rfl rfl ?_
 refine o_aload K X0 at_91 rfl rfl rfl ?_
 refine o_static K X0  (w172 hw) (w173 hw) (w174 hw) (w175 hw) (by decide) (rm_stepL l Z a0 hw t i2 s j p1 f1 u1 em h0 c84_1 q0 q1 q2 q3 q4 q6 q7 q33 q34 q35) (by decide) rfl (argsL := [.ref t, .int i2, .ref s, .ref j]) rfl (lenOf pd19 rfl) (W := 1) rfl (by decide) (by decide) (by decide) at_93 rfl ?_
 intro v2 T2 h2 X2 U2
 obtain ⟨rfl, u2_0, u2_1, u2_2, u2_3, u2_4⟩ := U2
 show oGoes pp ee bb ss Z T2 (mkF mm 96 _ [.int 1, .int ex]) _ _ _
 refine o_iadd K X2 at_96 rfl (z := (ex + (1 : Int32))) rfl ?_
 refine o_istore K X2 at_97 rfl (L' := #[vI i0, vI i1, vI i2, vI i3, vR s, vR j, vR t, vI 1, vI (ex + (1 : Int32))]) rfl ?_
 have m4 := (q6.keep u2_0)
 have m5 := (q7.keep u2_0 (ninS q24 nin0))
 have m6 := (q8.keep u2_0)
 have m7 := (q9.keep u2_0 (ninS q25 nin0))
 have m8 := (q10.keep u2_0)
 have m9 := (q11.keep u2_0 (ninS q26 nin0))
 have m10 := (q12.keep u2_0)
 have m11 := (q13.keep u2_0 (ninS (Ne.symm q22) nin0))
 have m12 := (q14.keep u2_0 (ninS (Ne.symm q22) nin0))
 have m13 := (q15.keep u2_0)
 have m14 := (q16.keep u2_0 (ninS (Ne.symm q23) nin0))
 have m15 := (q17.keep u2_0 (ninS (Ne.symm q23) nin0))
 have m16 := (q18.keep u2_0 (ninS (Ne.symm q23) nin0))
 refine tl_lw99A l Z a0 hw i0 i1 i2 i3 s j t (ex + (1 : Int32)) rp u m p1 f1 (u1 + (1 : Int32)) em h2 u2_1 q1 u2_2 u2_3 u2_4 (oT1 q5) m4 m5 m6 m7 m8 m9 m10 m11 m12 m13 m14 m15 m16 q19 q20 q21 q22 q23 q24 q25 q26 q27 q28 q29 q30 q31 q32 q33 q34 q35 (fun v3 h3 U3 => ?_) K (X2.mono (by decide) (by decide))
 obtain rfl : v3 = some (.int 1) := U3
 exact hQ _ _ rfl
 by_cases c84_17 : (i2 &&& (3 : Int32)) = (3 : Int32)
 refine o_iload K X0 at_84 rfl rfl ?_
 refine o_aload K X0 at_86 rfl rfl rfl ?_
 refine o_iloadN K X0 at_88 rfl rfl ?_
 refine o_aload K X0 at_89 rfl rfl rfl ?_
 refine o_aload K X0 at_91 rfl rfl rfl ?_
 refine o_static K X0  (w172 hw) (w173 hw) (w174 hw) (w175 hw) (by decide) (rm_stepA l Z a0 hw t i2 s j rp u m p1 f1 u1 h0 c84_1 c84_17 q0 q1 q2 q3 q4 q8 q9 q10 q11 q12 q13 q14 q15 q16 q17 q18 q19 q20 q21 q22 q23) (by decide) rfl (argsL := [.ref t, .int i2, .ref s, .ref j]) rfl (lenOf pd19 rfl) (W := 1) rfl (by decide) (by decide) (by decide) at_93 rfl ?_
 intro v18 T18 h18 X18 U18
 obtain ⟨e_18, c_18, rfl, u18_0, u18_1, u18_2, u18_3, u18_4, u18_5, u18_6, u18_7, u18_8, u18_9, u18_10, u18_11, u18_12, u18_13, u18_14, u18_15, u18_16, u18_17⟩ := U18
 have G18_e : Z.heap.size ≤ e_18 := Nat.le_trans X0.ext0.1 u18_16
 have G18_c : Z.heap.size ≤ c_18 := Nat.le_trans X0.ext0.1 u18_17
 show oGoes pp ee bb ss Z T18 (mkF mm 96 _ [.int 1, .int ex]) _ _ _
 refine o_iadd K X18 at_96 rfl (z := (ex + (1 : Int32))) rfl ?_
 refine o_istore K X18 at_97 rfl (L' := #[vI i0, vI i1, vI i2, vI i3, vR s, vR j, vR t, vI 1, vI (ex + (1 : Int32))]) rfl ?_
 have m20 := (q6.keep u18_0)
 have m21 := (q7.keep u18_0 (ninS q24 (ninS q27 (ninS q28 nin0))))
 have m22 := (q8.keep u18_0)
 have m23 := (q9.keep u18_0 (ninS q25 (ninS q29 (ninS q30 nin0))))
 have m24 := (q10.keep u18_0)
 have m25 := (q11.keep u18_0 (ninS q26 (ninS q31 (ninS q32 nin0))))
 have n26 := oLsz q0.lt u18_16
 have n27 := oLsz q0.lt u18_17
 refine tl_lw99B l Z a0 hw i0 i1 i2 i3 s j t (ex + (1 : Int32)) rp u m e_18 c_18 (p1 + (1 : Int32)) f1 u1 em h18 u18_1 q1 u18_2 u18_3 u18_4 (oT2 q5) m20 m21 m22 m23 m24 m25 u18_5 u18_6 u18_7 u18_11 u18_12 u18_13 u18_14 u18_15 u18_8 u18_9 u18_10 n26 n27 q22 q23 q24 q25 q26 q33 q34 q35 (fun v19 h19 U19 => ?_) K (X18.mono (by decide) (by decide))
 obtain rfl : v19 = some (.int 1) := U19
 exact hQ _ _ rfl
 refine o_iload K X0 at_84 rfl rfl ?_
 refine o_aload K X0 at_86 rfl rfl rfl ?_
 refine o_iloadN K X0 at_88 rfl rfl ?_
 refine o_aload K X0 at_89 rfl rfl rfl ?_
 refine o_aload K X0 at_91 rfl rfl rfl ?_
 refine o_static K X0  (w172 hw) (w173 hw) (w174 hw) (w175 hw) (by decide) (rm_step0 l Z a0 hw t i2 s j h0 c84_1 c84_17) (by decide) rfl (argsL := [.ref t, .int i2, .ref s, .ref j]) rfl (lenOf pd19 rfl) (W := 1) rfl (by decide) (by decide) (by decide) at_93 rfl ?_
 intro v28 T28 h28 X28 U28
 obtain ⟨rfl, rfl⟩ := U28
 show oGoes pp ee bb ss Z T28 (mkF mm 96 _ [.int 0, .int ex]) _ _ _
 refine o_iadd K X28 at_96 rfl (z := (ex + (0 : Int32))) rfl ?_
 refine o_istore K X28 at_97 rfl (L' := #[vI i0, vI i1, vI i2, vI i3, vR s, vR j, vR t, vI 1, vI (ex + (0 : Int32))]) rfl ?_
 refine tl_lw99A l Z a0 hw i0 i1 i2 i3 s j t (ex + (0 : Int32)) rp u m p1 f1 u1 em h0 q0 q1 q2 q3 q4 (oT0 q5) q6 q7 q8 q9 q10 q11 q12 q13 q14 q15 q16 q17 q18 q19 q20 q21 q22 q23 q24 q25 q26 q27 q28 q29 q30 q31 q32 q33 q34 q35 (fun v29 h29 U29 => ?_) K (X28.mono (by decide) (by decide))
 obtain rfl : v29 = some (.int 1) := U29
 exact hQ _ _ rfl
def Q_lw84B (Z : State) (i0 i1 i2 i3 : Int32) (s j t : Addr) (ex : Int32) (rp u m e c : Addr) (p1 f1 u1 : Int32) (em : Addr) (h0 : Heap) (v : Option Value) (h : Heap) : Prop := v = some (.int 1)
theorem tl_lw84B (l : Launch) (Z : State) (a0 : Array Value) (hw : oHw Z a0) (i0 i1 i2 i3 : Int32) (s j t : Addr) (ex : Int32) (rp u m e c : Addr) (p1 f1 u1 : Int32) (em : Addr) (h0 : Heap) (q0 : Exa Z h0 t z1) (q1 : Z.heap.size ≤ t) (q2 : Fld Z h0 t z1 "passed" "I" (.int p1)) (q3 : Fld Z h0 t z1 "failed" "I" (.int f1)) (q4 : Fld Z h0 t z1 "unusable" "I" (.int u1)) (q5 : ((p1 + f1) + u1) = ex) (q6 : Exa Z h0 s z2) (q7 : Fld Z h0 s z2 "report" z20 .null) (q8 : Exa Z h0 j z2) (q9 : Fld Z h0 j z2 "report" z20 (.ref rp)) (q10 : Exa Z h0 rp z5) (q11 : Fld Z h0 rp z5 "findings" z14 (.ref u)) (q12 : Exa Z h0 u z3) (q13 : Fld Z h0 u z3 "m" z14 (.ref m)) (q14 : Fld Z h0 u z3 "entrySet" z13 (.ref e)) (q15 : Exa Z h0 e z12) (q16 : Fld Z h0 e z19 "c" z25 (.ref c)) (q17 : Exa Z h0 c z6) (q18 : Fld Z h0 c z6 "this$0" z22 (.ref m)) (q19 : Fld Z h0 c z6 "reversed" "Z" (.int 0)) (q20 : Exa Z h0 m z0) (q21 : Fld Z h0 m z0 "head" z11 .null) (q22 : Fld Z h0 m z7 "modCount" "I" (.int 0)) (q23 : e ≠ t) (q24 : c ≠ t) (q25 : t ≠ u) (q26 : t ≠ m) (q27 : s ≠ t) (q28 : j ≠ t) (q29 : rp ≠ t) (q30 : Sta Z Z.heap z4 "EMPTY" "Ljava/util/Optional;" (.ref em)) (q31 : Exa Z Z.heap em z4) (q32 : Fld Z Z.heap em z4 "value" "Ljava/lang/Object;" .null) {Q : Option Value → Heap → Prop} (hQ : ∀ v h, Q_lw84B Z i0 i1 i2 i3 s j t ex rp u m e c p1 f1 u1 em h0 v h → Q v h) {pp : Program} {ee : Env} {ss : State} {mm : MethodId} {bb : List Frame} {mtd : Method} {cc : Code} {A : Array Value} {T0 : State} (K : oCtx pp ss mm mtd cc Z z17 code maxLocals "law" ret x) (X0 : oSt pp l ee room_1 ss mm A bb mtd cc Z T0 h0 30 260) : oGoes pp ee bb ss Z T0 (mkF mm 84 #[vI i0, vI i1, vI i2, vI i3, vR s, vR j, vR t, vI 1, vI ex] []) Q room_1.cells room_1.slots := by
 have E0 := X0.ext0
 by_cases c84_1 : (i2 &&& (3 : Int32)) = (2 : Int32)
 refine o_iload K X0 at_84 rfl rfl ?_
 refine o_aload K X0 at_86 rfl rfl rfl ?_
 refine o_iloadN K X0 at_88 rfl rfl ?_
 refine o_aload K X0 at_89 rfl rfl rfl ?_
 refine o_aload K X0 at_91 rfl rfl rfl ?_
 refine o_static K X0  (w172 hw) (w173 hw) (w174 hw) (w175 hw) (by decide) (rm_stepL l Z a0 hw t i2 s j p1 f1 u1 em h0 c84_1 q0 q1 q2 q3 q4 q6 q7 q30 q31 q32) (by decide) rfl (argsL := [.ref t, .int i2, .ref s, .ref j]) rfl (lenOf pd19 rfl) (W := 1) rfl (by decide) (by decide) (by decide) at_93 rfl ?_
 intro v2 T2 h2 X2 U2
 obtain ⟨rfl, u2_0, u2_1, u2_2, u2_3, u2_4⟩ := U2
 show oGoes pp ee bb ss Z T2 (mkF mm 96 _ [.int 1, .int ex]) _ _ _
 refine o_iadd K X2 at_96 rfl (z := (ex + (1 : Int32))) rfl ?_
 refine o_istore K X2 at_97 rfl (L' := #[vI i0, vI i1, vI i2, vI i3, vR s, vR j, vR t, vI 1, vI (ex + (1 : Int32))]) rfl ?_
 have m4 := (q6.keep u2_0)
 have m5 := (q7.keep u2_0 (ninS q27 nin0))
 have m6 := (q8.keep u2_0)
 have m7 := (q9.keep u2_0 (ninS q28 nin0))
 have m8 := (q10.keep u2_0)
 have m9 := (q11.keep u2_0 (ninS q29 nin0))
 have m10 := (q12.keep u2_0)
 have m11 := (q13.keep u2_0 (ninS (Ne.symm q25) nin0))
 have m12 := (q14.keep u2_0 (ninS (Ne.symm q25) nin0))
 have m13 := (q15.keep u2_0)
 have m14 := (q16.keep u2_0 (ninS q23 nin0))
 have m15 := (q17.keep u2_0)
 have m16 := (q18.keep u2_0 (ninS q24 nin0))
 have m17 := (q19.keep u2_0 (ninS q24 nin0))
 have m18 := (q20.keep u2_0)
 have m19 := (q21.keep u2_0 (ninS (Ne.symm q26) nin0))
 have m20 := (q22.keep u2_0 (ninS (Ne.symm q26) nin0))
 refine tl_lw99B l Z a0 hw i0 i1 i2 i3 s j t (ex + (1 : Int32)) rp u m e c p1 f1 (u1 + (1 : Int32)) em h2 u2_1 q1 u2_2 u2_3 u2_4 (oT1 q5) m4 m5 m6 m7 m8 m9 m10 m11 m12 m13 m14 m15 m16 m17 m18 m19 m20 q23 q24 q25 q26 q27 q28 q29 q30 q31 q32 (fun v3 h3 U3 => ?_) K (X2.mono (by decide) (by decide))
 obtain rfl : v3 = some (.int 1) := U3
 exact hQ _ _ rfl
 by_cases c84_21 : (i2 &&& (3 : Int32)) = (3 : Int32)
 refine o_iload K X0 at_84 rfl rfl ?_
 refine o_aload K X0 at_86 rfl rfl rfl ?_
 refine o_iloadN K X0 at_88 rfl rfl ?_
 refine o_aload K X0 at_89 rfl rfl rfl ?_
 refine o_aload K X0 at_91 rfl rfl rfl ?_
 refine o_static K X0  (w172 hw) (w173 hw) (w174 hw) (w175 hw) (by decide) (rm_stepB l Z a0 hw t i2 s j rp u m e c p1 f1 u1 h0 c84_1 c84_21 q0 q1 q2 q3 q4 q8 q9 q10 q11 q12 q13 q14 q15 q16 q17 q18 q19 q20 q21 q22) (by decide) rfl (argsL := [.ref t, .int i2, .ref s, .ref j]) rfl (lenOf pd19 rfl) (W := 1) rfl (by decide) (by decide) (by decide) at_93 rfl ?_
 intro v22 T22 h22 X22 U22
 obtain ⟨rfl, u22_0, u22_1, u22_2, u22_3, u22_4⟩ := U22
 show oGoes pp ee bb ss Z T22 (mkF mm 96 _ [.int 1, .int ex]) _ _ _
 refine o_iadd K X22 at_96 rfl (z := (ex + (1 : Int32))) rfl ?_
 refine o_istore K X22 at_97 rfl (L' := #[vI i0, vI i1, vI i2, vI i3, vR s, vR j, vR t, vI 1, vI (ex + (1 : Int32))]) rfl ?_
 have m24 := (q6.keep u22_0)
 have m25 := (q7.keep u22_0 (ninS q27 nin0))
 have m26 := (q8.keep u22_0)
 have m27 := (q9.keep u22_0 (ninS q28 nin0))
 have m28 := (q10.keep u22_0)
 have m29 := (q11.keep u22_0 (ninS q29 nin0))
 have m30 := (q12.keep u22_0)
 have m31 := (q13.keep u22_0 (ninS (Ne.symm q25) nin0))
 have m32 := (q14.keep u22_0 (ninS (Ne.symm q25) nin0))
 have m33 := (q15.keep u22_0)
 have m34 := (q16.keep u22_0 (ninS q23 nin0))
 have m35 := (q17.keep u22_0)
 have m36 := (q18.keep u22_0 (ninS q24 nin0))
 have m37 := (q19.keep u22_0 (ninS q24 nin0))
 have m38 := (q20.keep u22_0)
 have m39 := (q21.keep u22_0 (ninS (Ne.symm q26) nin0))
 have m40 := (q22.keep u22_0 (ninS (Ne.symm q26) nin0))
 refine tl_lw99B l Z a0 hw i0 i1 i2 i3 s j t (ex + (1 : Int32)) rp u m e c (p1 + (1 : Int32)) f1 u1 em h22 u22_1 q1 u22_2 u22_3 u22_4 (oT2 q5) m24 m25 m26 m27 m28 m29 m30 m31 m32 m33 m34 m35 m36 m37 m38 m39 m40 q23 q24 q25 q26 q27 q28 q29 q30 q31 q32 (fun v23 h23 U23 => ?_) K (X22.mono (by decide) (by decide))
 obtain rfl : v23 = some (.int 1) := U23
 exact hQ _ _ rfl
 refine o_iload K X0 at_84 rfl rfl ?_
 refine o_aload K X0 at_86 rfl rfl rfl ?_
 refine o_iloadN K X0 at_88 rfl rfl ?_
 refine o_aload K X0 at_89 rfl rfl rfl ?_
 refine o_aload K X0 at_91 rfl rfl rfl ?_
 refine o_static K X0  (w172 hw) (w173 hw) (w174 hw) (w175 hw) (by decide) (rm_step0 l Z a0 hw t i2 s j h0 c84_1 c84_21) (by decide) rfl (argsL := [.ref t, .int i2, .ref s, .ref j]) rfl (lenOf pd19 rfl) (W := 1) rfl (by decide) (by decide) (by decide) at_93 rfl ?_
 intro v41 T41 h41 X41 U41
 obtain ⟨rfl, rfl⟩ := U41
 show oGoes pp ee bb ss Z T41 (mkF mm 96 _ [.int 0, .int ex]) _ _ _
 refine o_iadd K X41 at_96 rfl (z := (ex + (0 : Int32))) rfl ?_
 refine o_istore K X41 at_97 rfl (L' := #[vI i0, vI i1, vI i2, vI i3, vR s, vR j, vR t, vI 1, vI (ex + (0 : Int32))]) rfl ?_
 refine tl_lw99B l Z a0 hw i0 i1 i2 i3 s j t (ex + (0 : Int32)) rp u m e c p1 f1 u1 em h0 q0 q1 q2 q3 q4 (oT0 q5) q6 q7 q8 q9 q10 q11 q12 q13 q14 q15 q16 q17 q18 q19 q20 q21 q22 q23 q24 q25 q26 q27 q28 q29 q30 q31 q32 (fun v42 h42 U42 => ?_) K (X41.mono (by decide) (by decide))
 obtain rfl : v42 = some (.int 1) := U42
 exact hQ _ _ rfl
def Q_lw69A (Z : State) (i0 i1 i2 i3 : Int32) (s j t : Addr) (ex : Int32) (rp u m : Addr) (p1 f1 u1 : Int32) (em : Addr) (h0 : Heap) (v : Option Value) (h : Heap) : Prop := v = some (.int 1)
theorem tl_lw69A (l : Launch) (Z : State) (a0 : Array Value) (hw : oHw Z a0) (i0 i1 i2 i3 : Int32) (s j t : Addr) (ex : Int32) (rp u m : Addr) (p1 f1 u1 : Int32) (em : Addr) (h0 : Heap) (q0 : Exa Z h0 t z1) (q1 : Z.heap.size ≤ t) (q2 : Fld Z h0 t z1 "passed" "I" (.int p1)) (q3 : Fld Z h0 t z1 "failed" "I" (.int f1)) (q4 : Fld Z h0 t z1 "unusable" "I" (.int u1)) (q5 : ((p1 + f1) + u1) = ex) (q6 : Exa Z h0 s z2) (q7 : Fld Z h0 s z2 "report" z20 .null) (q8 : Exa Z h0 j z2) (q9 : Fld Z h0 j z2 "report" z20 (.ref rp)) (q10 : Exa Z h0 rp z5) (q11 : Fld Z h0 rp z5 "findings" z14 (.ref u)) (q12 : Exa Z h0 u z3) (q13 : Fld Z h0 u z3 "m" z14 (.ref m)) (q14 : Fld Z h0 u z3 "entrySet" z13 .null) (q15 : Exa Z h0 m z0) (q16 : Fld Z h0 m z7 "entrySet" z13 .null) (q17 : Fld Z h0 m z0 "head" z11 .null) (q18 : Fld Z h0 m z7 "modCount" "I" (.int 0)) (q19 : Z.heap.size ≤ u) (q20 : Z.heap.size ≤ m) (q21 : u ≠ m) (q22 : t ≠ u) (q23 : t ≠ m) (q24 : s ≠ t) (q25 : j ≠ t) (q26 : rp ≠ t) (q27 : s ≠ u) (q28 : s ≠ m) (q29 : j ≠ u) (q30 : j ≠ m) (q31 : rp ≠ u) (q32 : rp ≠ m) (q33 : Sta Z Z.heap z4 "EMPTY" "Ljava/util/Optional;" (.ref em)) (q34 : Exa Z Z.heap em z4) (q35 : Fld Z Z.heap em z4 "value" "Ljava/lang/Object;" .null) {Q : Option Value → Heap → Prop} (hQ : ∀ v h, Q_lw69A Z i0 i1 i2 i3 s j t ex rp u m p1 f1 u1 em h0 v h → Q v h) {pp : Program} {ee : Env} {ss : State} {mm : MethodId} {bb : List Frame} {mtd : Method} {cc : Code} {A : Array Value} {T0 : State} (K : oCtx pp ss mm mtd cc Z z17 code maxLocals "law" ret x) (X0 : oSt pp l ee room_1 ss mm A bb mtd cc Z T0 h0 21 180) : oGoes pp ee bb ss Z T0 (mkF mm 69 #[vI i0, vI i1, vI i2, vI i3, vR s, vR j, vR t, vI 1, vI ex] []) Q room_1.cells room_1.slots := by
 have E0 := X0.ext0
 by_cases c69_1 : (i1 &&& (3 : Int32)) = (2 : Int32)
 refine o_iload K X0 at_69 rfl rfl ?_
 refine o_aload K X0 at_71 rfl rfl rfl ?_
 refine o_iloadN K X0 at_73 rfl rfl ?_
 refine o_aload K X0 at_74 rfl rfl rfl ?_
 refine o_aload K X0 at_76 rfl rfl rfl ?_
 refine o_static K X0  (w172 hw) (w173 hw) (w174 hw) (w175 hw) (by decide) (rm_stepL l Z a0 hw t i1 s j p1 f1 u1 em h0 c69_1 q0 q1 q2 q3 q4 q6 q7 q33 q34 q35) (by decide) rfl (argsL := [.ref t, .int i1, .ref s, .ref j]) rfl (lenOf pd19 rfl) (W := 1) rfl (by decide) (by decide) (by decide) at_78 rfl ?_
 intro v2 T2 h2 X2 U2
 obtain ⟨rfl, u2_0, u2_1, u2_2, u2_3, u2_4⟩ := U2
 show oGoes pp ee bb ss Z T2 (mkF mm 81 _ [.int 1, .int ex]) _ _ _
 refine o_iadd K X2 at_81 rfl (z := (ex + (1 : Int32))) rfl ?_
 refine o_istore K X2 at_82 rfl (L' := #[vI i0, vI i1, vI i2, vI i3, vR s, vR j, vR t, vI 1, vI (ex + (1 : Int32))]) rfl ?_
 have m4 := (q6.keep u2_0)
 have m5 := (q7.keep u2_0 (ninS q24 nin0))
 have m6 := (q8.keep u2_0)
 have m7 := (q9.keep u2_0 (ninS q25 nin0))
 have m8 := (q10.keep u2_0)
 have m9 := (q11.keep u2_0 (ninS q26 nin0))
 have m10 := (q12.keep u2_0)
 have m11 := (q13.keep u2_0 (ninS (Ne.symm q22) nin0))
 have m12 := (q14.keep u2_0 (ninS (Ne.symm q22) nin0))
 have m13 := (q15.keep u2_0)
 have m14 := (q16.keep u2_0 (ninS (Ne.symm q23) nin0))
 have m15 := (q17.keep u2_0 (ninS (Ne.symm q23) nin0))
 have m16 := (q18.keep u2_0 (ninS (Ne.symm q23) nin0))
 refine tl_lw84A l Z a0 hw i0 i1 i2 i3 s j t (ex + (1 : Int32)) rp u m p1 f1 (u1 + (1 : Int32)) em h2 u2_1 q1 u2_2 u2_3 u2_4 (oT1 q5) m4 m5 m6 m7 m8 m9 m10 m11 m12 m13 m14 m15 m16 q19 q20 q21 q22 q23 q24 q25 q26 q27 q28 q29 q30 q31 q32 q33 q34 q35 (fun v3 h3 U3 => ?_) K (X2.mono (by decide) (by decide))
 obtain rfl : v3 = some (.int 1) := U3
 exact hQ _ _ rfl
 by_cases c69_17 : (i1 &&& (3 : Int32)) = (3 : Int32)
 refine o_iload K X0 at_69 rfl rfl ?_
 refine o_aload K X0 at_71 rfl rfl rfl ?_
 refine o_iloadN K X0 at_73 rfl rfl ?_
 refine o_aload K X0 at_74 rfl rfl rfl ?_
 refine o_aload K X0 at_76 rfl rfl rfl ?_
 refine o_static K X0  (w172 hw) (w173 hw) (w174 hw) (w175 hw) (by decide) (rm_stepA l Z a0 hw t i1 s j rp u m p1 f1 u1 h0 c69_1 c69_17 q0 q1 q2 q3 q4 q8 q9 q10 q11 q12 q13 q14 q15 q16 q17 q18 q19 q20 q21 q22 q23) (by decide) rfl (argsL := [.ref t, .int i1, .ref s, .ref j]) rfl (lenOf pd19 rfl) (W := 1) rfl (by decide) (by decide) (by decide) at_78 rfl ?_
 intro v18 T18 h18 X18 U18
 obtain ⟨e_18, c_18, rfl, u18_0, u18_1, u18_2, u18_3, u18_4, u18_5, u18_6, u18_7, u18_8, u18_9, u18_10, u18_11, u18_12, u18_13, u18_14, u18_15, u18_16, u18_17⟩ := U18
 have G18_e : Z.heap.size ≤ e_18 := Nat.le_trans X0.ext0.1 u18_16
 have G18_c : Z.heap.size ≤ c_18 := Nat.le_trans X0.ext0.1 u18_17
 show oGoes pp ee bb ss Z T18 (mkF mm 81 _ [.int 1, .int ex]) _ _ _
 refine o_iadd K X18 at_81 rfl (z := (ex + (1 : Int32))) rfl ?_
 refine o_istore K X18 at_82 rfl (L' := #[vI i0, vI i1, vI i2, vI i3, vR s, vR j, vR t, vI 1, vI (ex + (1 : Int32))]) rfl ?_
 have m20 := (q6.keep u18_0)
 have m21 := (q7.keep u18_0 (ninS q24 (ninS q27 (ninS q28 nin0))))
 have m22 := (q8.keep u18_0)
 have m23 := (q9.keep u18_0 (ninS q25 (ninS q29 (ninS q30 nin0))))
 have m24 := (q10.keep u18_0)
 have m25 := (q11.keep u18_0 (ninS q26 (ninS q31 (ninS q32 nin0))))
 have n26 := oLsz q0.lt u18_16
 have n27 := oLsz q0.lt u18_17
 refine tl_lw84B l Z a0 hw i0 i1 i2 i3 s j t (ex + (1 : Int32)) rp u m e_18 c_18 (p1 + (1 : Int32)) f1 u1 em h18 u18_1 q1 u18_2 u18_3 u18_4 (oT2 q5) m20 m21 m22 m23 m24 m25 u18_5 u18_6 u18_7 u18_11 u18_12 u18_13 u18_14 u18_15 u18_8 u18_9 u18_10 n26 n27 q22 q23 q24 q25 q26 q33 q34 q35 (fun v19 h19 U19 => ?_) K (X18.mono (by decide) (by decide))
 obtain rfl : v19 = some (.int 1) := U19
 exact hQ _ _ rfl
 refine o_iload K X0 at_69 rfl rfl ?_
 refine o_aload K X0 at_71 rfl rfl rfl ?_
 refine o_iloadN K X0 at_73 rfl rfl ?_
 refine o_aload K X0 at_74 rfl rfl rfl ?_
 refine o_aload K X0 at_76 rfl rfl rfl ?_
 refine o_static K X0  (w172 hw) (w173 hw) (w174 hw) (w175 hw) (by decide) (rm_step0 l Z a0 hw t i1 s j h0 c69_1 c69_17) (by decide) rfl (argsL := [.ref t, .int i1, .ref s, .ref j]) rfl (lenOf pd19 rfl) (W := 1) rfl (by decide) (by decide) (by decide) at_78 rfl ?_
 intro v28 T28 h28 X28 U28
 obtain ⟨rfl, rfl⟩ := U28
 show oGoes pp ee bb ss Z T28 (mkF mm 81 _ [.int 0, .int ex]) _ _ _
 refine o_iadd K X28 at_81 rfl (z := (ex + (0 : Int32))) rfl ?_
 refine o_istore K X28 at_82 rfl (L' := #[vI i0, vI i1, vI i2, vI i3, vR s, vR j, vR t, vI 1, vI (ex + (0 : Int32))]) rfl ?_
 refine tl_lw84A l Z a0 hw i0 i1 i2 i3 s j t (ex + (0 : Int32)) rp u m p1 f1 u1 em h0 q0 q1 q2 q3 q4 (oT0 q5) q6 q7 q8 q9 q10 q11 q12 q13 q14 q15 q16 q17 q18 q19 q20 q21 q22 q23 q24 q25 q26 q27 q28 q29 q30 q31 q32 q33 q34 q35 (fun v29 h29 U29 => ?_) K (X28.mono (by decide) (by decide))
 obtain rfl : v29 = some (.int 1) := U29
 exact hQ _ _ rfl
def Q_lw69B (Z : State) (i0 i1 i2 i3 : Int32) (s j t : Addr) (ex : Int32) (rp u m e c : Addr) (p1 f1 u1 : Int32) (em : Addr) (h0 : Heap) (v : Option Value) (h : Heap) : Prop := v = some (.int 1)
theorem tl_lw69B (l : Launch) (Z : State) (a0 : Array Value) (hw : oHw Z a0) (i0 i1 i2 i3 : Int32) (s j t : Addr) (ex : Int32) (rp u m e c : Addr) (p1 f1 u1 : Int32) (em : Addr) (h0 : Heap) (q0 : Exa Z h0 t z1) (q1 : Z.heap.size ≤ t) (q2 : Fld Z h0 t z1 "passed" "I" (.int p1)) (q3 : Fld Z h0 t z1 "failed" "I" (.int f1)) (q4 : Fld Z h0 t z1 "unusable" "I" (.int u1)) (q5 : ((p1 + f1) + u1) = ex) (q6 : Exa Z h0 s z2) (q7 : Fld Z h0 s z2 "report" z20 .null) (q8 : Exa Z h0 j z2) (q9 : Fld Z h0 j z2 "report" z20 (.ref rp)) (q10 : Exa Z h0 rp z5) (q11 : Fld Z h0 rp z5 "findings" z14 (.ref u)) (q12 : Exa Z h0 u z3) (q13 : Fld Z h0 u z3 "m" z14 (.ref m)) (q14 : Fld Z h0 u z3 "entrySet" z13 (.ref e)) (q15 : Exa Z h0 e z12) (q16 : Fld Z h0 e z19 "c" z25 (.ref c)) (q17 : Exa Z h0 c z6) (q18 : Fld Z h0 c z6 "this$0" z22 (.ref m)) (q19 : Fld Z h0 c z6 "reversed" "Z" (.int 0)) (q20 : Exa Z h0 m z0) (q21 : Fld Z h0 m z0 "head" z11 .null) (q22 : Fld Z h0 m z7 "modCount" "I" (.int 0)) (q23 : e ≠ t) (q24 : c ≠ t) (q25 : t ≠ u) (q26 : t ≠ m) (q27 : s ≠ t) (q28 : j ≠ t) (q29 : rp ≠ t) (q30 : Sta Z Z.heap z4 "EMPTY" "Ljava/util/Optional;" (.ref em)) (q31 : Exa Z Z.heap em z4) (q32 : Fld Z Z.heap em z4 "value" "Ljava/lang/Object;" .null) {Q : Option Value → Heap → Prop} (hQ : ∀ v h, Q_lw69B Z i0 i1 i2 i3 s j t ex rp u m e c p1 f1 u1 em h0 v h → Q v h) {pp : Program} {ee : Env} {ss : State} {mm : MethodId} {bb : List Frame} {mtd : Method} {cc : Code} {A : Array Value} {T0 : State} (K : oCtx pp ss mm mtd cc Z z17 code maxLocals "law" ret x) (X0 : oSt pp l ee room_1 ss mm A bb mtd cc Z T0 h0 21 180) : oGoes pp ee bb ss Z T0 (mkF mm 69 #[vI i0, vI i1, vI i2, vI i3, vR s, vR j, vR t, vI 1, vI ex] []) Q room_1.cells room_1.slots := by
 have E0 := X0.ext0
 by_cases c69_1 : (i1 &&& (3 : Int32)) = (2 : Int32)
 refine o_iload K X0 at_69 rfl rfl ?_
 refine o_aload K X0 at_71 rfl rfl rfl ?_
 refine o_iloadN K X0 at_73 rfl rfl ?_
 refine o_aload K X0 at_74 rfl rfl rfl ?_
 refine o_aload K X0 at_76 rfl rfl rfl ?_
 refine o_static K X0  (w172 hw) (w173 hw) (w174 hw) (w175 hw) (by decide) (rm_stepL l Z a0 hw t i1 s j p1 f1 u1 em h0 c69_1 q0 q1 q2 q3 q4 q6 q7 q30 q31 q32) (by decide) rfl (argsL := [.ref t, .int i1, .ref s, .ref j]) rfl (lenOf pd19 rfl) (W := 1) rfl (by decide) (by decide) (by decide) at_78 rfl ?_
 intro v2 T2 h2 X2 U2
 obtain ⟨rfl, u2_0, u2_1, u2_2, u2_3, u2_4⟩ := U2
 show oGoes pp ee bb ss Z T2 (mkF mm 81 _ [.int 1, .int ex]) _ _ _
 refine o_iadd K X2 at_81 rfl (z := (ex + (1 : Int32))) rfl ?_
 refine o_istore K X2 at_82 rfl (L' := #[vI i0, vI i1, vI i2, vI i3, vR s, vR j, vR t, vI 1, vI (ex + (1 : Int32))]) rfl ?_
 have m4 := (q6.keep u2_0)
 have m5 := (q7.keep u2_0 (ninS q27 nin0))
 have m6 := (q8.keep u2_0)
 have m7 := (q9.keep u2_0 (ninS q28 nin0))
 have m8 := (q10.keep u2_0)
 have m9 := (q11.keep u2_0 (ninS q29 nin0))
 have m10 := (q12.keep u2_0)
 have m11 := (q13.keep u2_0 (ninS (Ne.symm q25) nin0))
 have m12 := (q14.keep u2_0 (ninS (Ne.symm q25) nin0))
 have m13 := (q15.keep u2_0)
 have m14 := (q16.keep u2_0 (ninS q23 nin0))
 have m15 := (q17.keep u2_0)
 have m16 := (q18.keep u2_0 (ninS q24 nin0))
 have m17 := (q19.keep u2_0 (ninS q24 nin0))
 have m18 := (q20.keep u2_0)
 have m19 := (q21.keep u2_0 (ninS (Ne.symm q26) nin0))
 have m20 := (q22.keep u2_0 (ninS (Ne.symm q26) nin0))
 refine tl_lw84B l Z a0 hw i0 i1 i2 i3 s j t (ex + (1 : Int32)) rp u m e c p1 f1 (u1 + (1 : Int32)) em h2 u2_1 q1 u2_2 u2_3 u2_4 (oT1 q5) m4 m5 m6 m7 m8 m9 m10 m11 m12 m13 m14 m15 m16 m17 m18 m19 m20 q23 q24 q25 q26 q27 q28 q29 q30 q31 q32 (fun v3 h3 U3 => ?_) K (X2.mono (by decide) (by decide))
 obtain rfl : v3 = some (.int 1) := U3
 exact hQ _ _ rfl
 by_cases c69_21 : (i1 &&& (3 : Int32)) = (3 : Int32)
 refine o_iload K X0 at_69 rfl rfl ?_
 refine o_aload K X0 at_71 rfl rfl rfl ?_
 refine o_iloadN K X0 at_73 rfl rfl ?_
 refine o_aload K X0 at_74 rfl rfl rfl ?_
 refine o_aload K X0 at_76 rfl rfl rfl ?_
 refine o_static K X0  (w172 hw) (w173 hw) (w174 hw) (w175 hw) (by decide) (rm_stepB l Z a0 hw t i1 s j rp u m e c p1 f1 u1 h0 c69_1 c69_21 q0 q1 q2 q3 q4 q8 q9 q10 q11 q12 q13 q14 q15 q16 q17 q18 q19 q20 q21 q22) (by decide) rfl (argsL := [.ref t, .int i1, .ref s, .ref j]) rfl (lenOf pd19 rfl) (W := 1) rfl (by decide) (by decide) (by decide) at_78 rfl ?_
 intro v22 T22 h22 X22 U22
 obtain ⟨rfl, u22_0, u22_1, u22_2, u22_3, u22_4⟩ := U22
 show oGoes pp ee bb ss Z T22 (mkF mm 81 _ [.int 1, .int ex]) _ _ _
 refine o_iadd K X22 at_81 rfl (z := (ex + (1 : Int32))) rfl ?_
 refine o_istore K X22 at_82 rfl (L' := #[vI i0, vI i1, vI i2, vI i3, vR s, vR j, vR t, vI 1, vI (ex + (1 : Int32))]) rfl ?_
 have m24 := (q6.keep u22_0)
 have m25 := (q7.keep u22_0 (ninS q27 nin0))
 have m26 := (q8.keep u22_0)
 have m27 := (q9.keep u22_0 (ninS q28 nin0))
 have m28 := (q10.keep u22_0)
 have m29 := (q11.keep u22_0 (ninS q29 nin0))
 have m30 := (q12.keep u22_0)
 have m31 := (q13.keep u22_0 (ninS (Ne.symm q25) nin0))
 have m32 := (q14.keep u22_0 (ninS (Ne.symm q25) nin0))
 have m33 := (q15.keep u22_0)
 have m34 := (q16.keep u22_0 (ninS q23 nin0))
 have m35 := (q17.keep u22_0)
 have m36 := (q18.keep u22_0 (ninS q24 nin0))
 have m37 := (q19.keep u22_0 (ninS q24 nin0))
 have m38 := (q20.keep u22_0)
 have m39 := (q21.keep u22_0 (ninS (Ne.symm q26) nin0))
 have m40 := (q22.keep u22_0 (ninS (Ne.symm q26) nin0))
 refine tl_lw84B l Z a0 hw i0 i1 i2 i3 s j t (ex + (1 : Int32)) rp u m e c (p1 + (1 : Int32)) f1 u1 em h22 u22_1 q1 u22_2 u22_3 u22_4 (oT2 q5) m24 m25 m26 m27 m28 m29 m30 m31 m32 m33 m34 m35 m36 m37 m38 m39 m40 q23 q24 q25 q26 q27 q28 q29 q30 q31 q32 (fun v23 h23 U23 => ?_) K (X22.mono (by decide) (by decide))
 obtain rfl : v23 = some (.int 1) := U23
 exact hQ _ _ rfl
 refine o_iload K X0 at_69 rfl rfl ?_
 refine o_aload K X0 at_71 rfl rfl rfl ?_
 refine o_iloadN K X0 at_73 rfl rfl ?_
 refine o_aload K X0 at_74 rfl rfl rfl ?_
 refine o_aload K X0 at_76 rfl rfl rfl ?_
 refine o_static K X0  (w172 hw) (w173 hw) (w174 hw) (w175 hw) (by decide) (rm_step0 l Z a0 hw t i1 s j h0 c69_1 c69_21) (by decide) rfl (argsL := [.ref t, .int i1, .ref s, .ref j]) rfl (lenOf pd19 rfl) (W := 1) rfl (by decide) (by decide) (by decide) at_78 rfl ?_
 intro v41 T41 h41 X41 U41
 obtain ⟨rfl, rfl⟩ := U41
 show oGoes pp ee bb ss Z T41 (mkF mm 81 _ [.int 0, .int ex]) _ _ _
 refine o_iadd K X41 at_81 rfl (z := (ex + (0 : Int32))) rfl ?_
 refine o_istore K X41 at_82 rfl (L' := #[vI i0, vI i1, vI i2, vI i3, vR s, vR j, vR t, vI 1, vI (ex + (0 : Int32))]) rfl ?_
 refine tl_lw84B l Z a0 hw i0 i1 i2 i3 s j t (ex + (0 : Int32)) rp u m e c p1 f1 u1 em h0 q0 q1 q2 q3 q4 (oT0 q5) q6 q7 q8 q9 q10 q11 q12 q13 q14 q15 q16 q17 q18 q19 q20 q21 q22 q23 q24 q25 q26 q27 q28 q29 q30 q31 q32 (fun v42 h42 U42 => ?_) K (X41.mono (by decide) (by decide))
 obtain rfl : v42 = some (.int 1) := U42
 exact hQ _ _ rfl
theorem pd20 : parseMethodDescriptor z31 = some ⟨[(.object "java/lang/String"), (.object "java/lang/String")], some (.object z2)⟩ := by decide +kernel
theorem pd21 : parseMethodDescriptor z32 = some ⟨[(.object "java/util/List"), (.object "com/example/phone_conformance_check/phoneconformancecheck/capture/Capture")], some (.object z5)⟩ := by decide +kernel
theorem pd22 : parseMethodDescriptor z33 = some ⟨[(.object "java/lang/String"), (.object z5)], some (.object z2)⟩ := by decide +kernel
def Q_law (Z : State) (i0 i1 i2 i3 : Int32) (dce ma mb em : Addr) (h0 : Heap) (v : Option Value) (h : Heap) : Prop := v = some (.int 1)
theorem rm_law (l : Launch) (Z : State) (a0 : Array Value) (hw : oHw Z a0) (i0 i1 i2 i3 : Int32) (dce ma mb em : Addr) (h0 : Heap) (q0 : Sta Z Z.heap z8 "DEFAULTCAPACITY_EMPTY_ELEMENTDATA" "[Ljava/lang/Object;" (.ref dce)) (q1 : oMir Z z0 ma) (q2 : oMir Z z3 mb) (q3 : ma ≠ mb) (q4 : Sta Z Z.heap z4 "EMPTY" "Ljava/util/Optional;" (.ref em)) (q5 : Exa Z Z.heap em z4) (q6 : Fld Z Z.heap em z4 "value" "Ljava/lang/Object;" .null) (ws : List Jvm.Cond) : oMet l Z x code maxLocals ret room_1 ws #[.int i0, .int i1, .int i2, .int i3] h0 (Q_law Z i0 i1 i2 i3 dce ma mb em h0) := by
 refine oEnter (plainFor_of_name (by first | (simp [plainName, overriddenIn]; done) | decide +kernel)) (own := z17) (nm := "law") rfl rfl (L := #[.val (.int i0), .val (.int i1), .val (.int i2), .val (.int i3), .unset, .unset, .unset, .unset, .unset]) (fun m => by first | (simp [entryFrame, mkF, argsToLocals, Value.category, maxLocals]; done) | rfl) ?_
 intro pp ee ss mm bb mtd cc T0 K X0
 have E0 := X0.ext0
 refine o_ldcS K X0 4 (w0 hw) (oSA hw) at_0 rfl (by decide) (by decide) (by decide) (by decide) ?_
 intro T1 h1 a1 X1 E1
 refine o_ldcS K X1 48 (w8 hw) (oSA hw) at_2 rfl (by decide) (by decide) (by decide) (by decide) ?_
 intro T2 h2 a2 X2 E2
 refine o_static K X2  (w9 hw) (w10 hw) (w11 hw) (w12 hw) (by decide) (rm_unus l Z a0 hw a1 a2 h2) (by decide) rfl (argsL := [.ref a1, .ref a2]) rfl (lenOf pd20 rfl) (W := 0) rfl (by decide) (by decide) (by decide) at_4 rfl ?_
 intro v3 T3 h3 X3 U3
 obtain ⟨r_3, rfl, u3_0, u3_1, u3_2, u3_3⟩ := U3
 have G3_r : Z.heap.size ≤ r_3 := Nat.le_trans X2.ext0.1 u3_1
 show oGoes pp ee bb ss Z T3 (mkF mm 7 _ [.ref r_3]) _ _ _
 refine o_astore K X3 at_7 rfl rfl (L' := #[vI i0, vI i1, vI i2, vI i3, vR r_3, uS, uS, uS, uS]) rfl ?_
 refine o_ldcS K X3 4 (w0 hw) (oSA hw) at_9 rfl (by decide) (by decide) (by decide) (by decide) ?_
 intro T4 h4 a4 X4 E4
 refine o_new K X4 (w27 hw) (w28 hw) (w29 hw) at_11 rfl (by decide) (by decide) ?_
 intro T5 h5 b5 X5 g5 E5 A5 D5 G5
 have F5_modCount : Fld Z h5 b5 z26 "modCount" "I" (.int 0) := (D5 (Or.inl (w47 hw)) (ty := .int) (by decide))
 have F5_elementData : Fld Z h5 b5 z8 "elementData" "[Ljava/lang/Object;" .null := (D5 (Or.inl (w50 hw)) (ty := (.array (.object z18))) (by decide))
 have F5_size : Fld Z h5 b5 z8 "size" "I" (.int 0) := (D5 (Or.inl (w118 hw)) (ty := .int) (by decide))
 refine o_dup K X5 at_14 rfl rfl ?_
 refine o_special K X5 (y := (⟨z8, "<init>", "()V"⟩ : MethodName)) rfl (w30 hw) (w31 hw) (w29 hw) (w32 hw) (by decide) (rm_alinit l Z a0 hw b5 dce h5 A5 G5 F5_modCount F5_elementData F5_size q0) (by decide) rfl (argsL := []) rfl (lenOf pd1 rfl) (W := 2) rfl (by decide) (by decide) (by decide) at_15 rfl ?_
 intro v6 T6 h6 X6 U6
 obtain ⟨rfl, u6_0, u6_1, u6_2, u6_3, u6_4⟩ := U6
 show oGoes pp ee bb ss Z T6 (mkF mm 18 _ [.ref b5, .ref a4]) _ _ _
 refine o_aconst_null K X6 at_18 rfl ?_
 refine o_static K X6  (w51 hw) (w52 hw) (w53 hw) (w54 hw) (by decide) (rm_judge l Z a0 hw b5 0 ma mb h6 u6_1 u6_4 u6_2 q1 q2 q3) (by decide) rfl (argsL := [.ref b5, .null]) rfl (lenOf pd21 rfl) (W := 1) rfl (by decide) (by decide) (by decide) at_19 rfl ?_
 intro v7 T7 h7 X7 U7
 obtain ⟨r_7, u_7, m_7, rfl, u7_0, u7_1, u7_2, u7_3, u7_4, u7_5, u7_6, u7_7, u7_8, u7_9, u7_10, u7_11, u7_12, u7_13, u7_14, u7_15⟩ := U7
 have G7_r : Z.heap.size ≤ r_7 := Nat.le_trans X6.ext0.1 u7_1
 have G7_u : Z.heap.size ≤ u_7 := Nat.le_trans X6.ext0.1 u7_4
 have G7_m : Z.heap.size ≤ m_7 := Nat.le_trans X6.ext0.1 u7_8
 show oGoes pp ee bb ss Z T7 (mkF mm 22 _ [.ref r_7, .ref a4]) _ _ _
 refine o_static K X7  (w151 hw) (w152 hw) (w11 hw) (w153 hw) (by decide) (rm_judgd l Z a0 hw a4 r_7 h7) (by decide) rfl (argsL := [.ref a4, .ref r_7]) rfl (lenOf pd22 rfl) (W := 0) rfl (by decide) (by decide) (by decide) at_22 rfl ?_
 intro v8 T8 h8 X8 U8
 obtain ⟨r_8, rfl, u8_0, u8_1, u8_2, u8_3⟩ := U8
 have G8_r : Z.heap.size ≤ r_8 := Nat.le_trans X7.ext0.1 u8_1
 show oGoes pp ee bb ss Z T8 (mkF mm 25 _ [.ref r_8]) _ _ _
 refine o_astore K X8 at_25 rfl rfl (L' := #[vI i0, vI i1, vI i2, vI i3, vR r_3, vR r_8, uS, uS, uS]) rfl ?_
 refine o_new K X8 (w154 hw) (w155 hw) (w156 hw) at_27 rfl (by decide) (by decide) ?_
 intro T9 h9 b9 X9 g9 E9 A9 D9 G9
 have F9_passed : Fld Z h9 b9 z1 "passed" "I" (.int 0) := (D9 (Or.inl (w167 hw)) (ty := .int) (by decide))
 have F9_failed : Fld Z h9 b9 z1 "failed" "I" (.int 0) := (D9 (Or.inl (w169 hw)) (ty := .int) (by decide))
 have F9_unusable : Fld Z h9 b9 z1 "unusable" "I" (.int 0) := (D9 (Or.inl (w171 hw)) (ty := .int) (by decide))
 refine o_dup K X9 at_30 rfl rfl ?_
 refine o_special K X9 (y := (⟨z1, "<init>", "()V"⟩ : MethodName)) rfl (w157 hw) (w158 hw) (w156 hw) (w159 hw) (by decide) (rm_toinit l Z a0 hw b9 h9 A9 G9 F9_passed F9_failed F9_unusable) (by decide) rfl (argsL := []) rfl (lenOf pd1 rfl) (W := 1) rfl (by decide) (by decide) (by decide) at_31 rfl ?_
 intro v10 T10 h10 X10 U10
 obtain ⟨rfl, u10_0, u10_1, u10_2, u10_3, u10_4⟩ := U10
 show oGoes pp ee bb ss Z T10 (mkF mm 34 _ [.ref b9]) _ _ _
 refine o_astore K X10 at_34 rfl rfl (L' := #[vI i0, vI i1, vI i2, vI i3, vR r_3, vR r_8, vR b9, uS, uS]) rfl ?_
 refine o_aload K X10 at_36 rfl rfl rfl ?_
 refine o_virtual K X10   (w161 hw) (w162 hw) (oNF (w164 hw)) (w164 hw) (w163 hw) (w156 hw) (w165 hw) (by decide) u10_1 (rm_gcap0 l Z a0 hw b9 h10 u10_2 u10_3 u10_4) (by decide) rfl (argsL := []) rfl (lenOf pd18 rfl) (W := 0) rfl (by decide) (by decide) (by decide) at_38 rfl ?_
 intro v11 T11 h11 X11 U11
 obtain ⟨rfl, rfl⟩ := U11
 show oGoes pp ee bb ss Z T11 (mkF mm 41 _ [.int 0]) _ _ _
 refine o_if_ne_f K X11 at_41 rfl (by decide) ?_
 refine o_iconst K X11 at_44 rfl (z := 1) rfl ?_
 refine o_goto K X11 at_45 (by decide) (pc' := 49) (by decide) ?_
 refine o_istore K X11 at_49 rfl (L' := #[vI i0, vI i1, vI i2, vI i3, vR r_3, vR r_8, vR b9, vI 1, uS]) rfl ?_
 refine o_iconst K X11 at_51 rfl (z := 0) rfl ?_
 refine o_istore K X11 at_52 rfl (L' := #[vI i0, vI i1, vI i2, vI i3, vR r_3, vR r_8, vR b9, vI 1, vI 0]) rfl ?_
 by_cases c54_12 : (i0 &&& (3 : Int32)) = (2 : Int32)
 refine o_iload K X11 at_54 rfl rfl ?_
 refine o_aload K X11 at_56 rfl rfl rfl ?_
 refine o_iloadN K X11 at_58 rfl rfl ?_
 refine o_aload K X11 at_59 rfl rfl rfl ?_
 refine o_aload K X11 at_61 rfl rfl rfl ?_
 have m13 := (((((((u3_2.ext E4).ext E5).keep u6_0).keep u7_0).keep u8_0).ext E9).keep u10_0)
 have n14 := oLn u3_2.lt E4.1 (oLe g5)
 have y3_8 := Nat.le_trans (Nat.le_trans (Nat.le_trans (Nat.le_trans E4.1 E5.1) u6_0.1) u7_0.1) u8_0.1
 have n15 := oLn u3_2.lt y3_8 (oLe g9)
 have m16 := (((((((u3_3.ext E4).ext E5).keep u6_0 (ninS n14 nin0)).keep u7_0 nin0).keep u8_0 nin0).ext E9).keep u10_0 (ninS n15 nin0))
 refine o_static K X11  (w172 hw) (w173 hw) (w174 hw) (w175 hw) (by decide) (rm_stepL l Z a0 hw b9 i0 r_3 r_8 0 0 0 em h10 c54_12 u10_1 G9 u10_2 u10_3 u10_4 m13 m16 q4 q5 q6) (by decide) rfl (argsL := [.ref b9, .int i0, .ref r_3, .ref r_8]) rfl (lenOf pd19 rfl) (W := 1) rfl (by decide) (by decide) (by decide) at_63 rfl ?_
 intro v17 T17 h17 X17 U17
 obtain ⟨rfl, u17_0, u17_1, u17_2, u17_3, u17_4⟩ := U17
 show oGoes pp ee bb ss Z T17 (mkF mm 66 _ [.int 1, .int 0]) _ _ _
 refine o_iadd K X17 at_66 rfl (z := 1) (by decide) ?_
 refine o_istore K X17 at_67 rfl (L' := #[vI i0, vI i1, vI i2, vI i3, vR r_3, vR r_8, vR b9, vI 1, vI 1]) rfl ?_
 have m19 := (m13.keep u17_0)
 have m20 := (m16.keep u17_0 (ninS n15 nin0))
 have m21 := (((u8_2.ext E9).keep u10_0).keep u17_0)
 have n22 := oLz u8_2.lt (oLe g9)
 have m23 := (((u8_3.ext E9).keep u10_0 (ninS n22 nin0)).keep u17_0 (ninS n22 nin0))
 have m24 := ((((u7_2.keep u8_0).ext E9).keep u10_0).keep u17_0)
 have n25 := oLn u7_2.lt u8_0.1 (oLe g9)
 have m26 := ((((u7_3.keep u8_0 nin0).ext E9).keep u10_0 (ninS n25 nin0)).keep u17_0 (ninS n25 nin0))
 have m27 := ((((u7_5.keep u8_0).ext E9).keep u10_0).keep u17_0)
 have n28 := oLn u7_5.lt u8_0.1 (oLe g9)
 have m29 := ((((u7_6.keep u8_0 nin0).ext E9).keep u10_0 (ninS n28 nin0)).keep u17_0 (ninS n28 nin0))
 have m30 := ((((u7_7.keep u8_0 nin0).ext E9).keep u10_0 (ninS n28 nin0)).keep u17_0 (ninS n28 nin0))
 have m31 := ((((u7_9.keep u8_0).ext E9).keep u10_0).keep u17_0)
 have n32 := oLn u7_9.lt u8_0.1 (oLe g9)
 have m33 := ((((u7_10.keep u8_0 nin0).ext E9).keep u10_0 (ninS n32 nin0)).keep u17_0 (ninS n32 nin0))
 have m34 := ((((u7_11.keep u8_0 nin0).ext E9).keep u10_0 (ninS n32 nin0)).keep u17_0 (ninS n32 nin0))
 have m35 := ((((u7_12.keep u8_0 nin0).ext E9).keep u10_0 (ninS n32 nin0)).keep u17_0 (ninS n32 nin0))
 have y3_6 := Nat.le_trans (Nat.le_trans E4.1 E5.1) u6_0.1
 have n36 := oLn u3_2.lt y3_6 u7_4
 have n37 := oLn u3_2.lt y3_6 u7_8
 have n38 := oLsz u7_5.lt u8_1
 have n39 := oLsz u7_9.lt u8_1
 refine tl_lw69A l Z a0 hw i0 i1 i2 i3 r_3 r_8 b9 1 r_7 u_7 m_7 0 0 ((0 : Int32) + (1 : Int32)) em h17 u17_1 G9 u17_2 u17_3 u17_4 (by decide) m19 m20 m21 m23 m24 m26 m27 m29 m30 m31 m33 m34 m35 G7_u G7_m u7_13 (Ne.symm n28) (Ne.symm n32) n15 n22 n25 n36 n37 n38 n39 u7_14 u7_15 q4 q5 q6 (fun v18 h18 U18 => ?_) K (X17.mono (by decide) (by decide))
 obtain rfl : v18 = some (.int 1) := U18
 exact rfl
 by_cases c54_40 : (i0 &&& (3 : Int32)) = (3 : Int32)
 refine o_iload K X11 at_54 rfl rfl ?_
 refine o_aload K X11 at_56 rfl rfl rfl ?_
 refine o_iloadN K X11 at_58 rfl rfl ?_
 refine o_aload K X11 at_59 rfl rfl rfl ?_
 refine o_aload K X11 at_61 rfl rfl rfl ?_
 have m41 := ((u8_2.ext E9).keep u10_0)
 have n42 := oLz u8_2.lt (oLe g9)
 have m43 := ((u8_3.ext E9).keep u10_0 (ninS n42 nin0))
 have m44 := (((u7_2.keep u8_0).ext E9).keep u10_0)
 have n45 := oLn u7_2.lt u8_0.1 (oLe g9)
 have m46 := (((u7_3.keep u8_0 nin0).ext E9).keep u10_0 (ninS n45 nin0))
 have m47 := (((u7_5.keep u8_0).ext E9).keep u10_0)
 have n48 := oLn u7_5.lt u8_0.1 (oLe g9)
 have m49 := (((u7_6.keep u8_0 nin0).ext E9).keep u10_0 (ninS n48 nin0))
 have m50 := (((u7_7.keep u8_0 nin0).ext E9).keep u10_0 (ninS n48 nin0))
 have m51 := (((u7_9.keep u8_0).ext E9).keep u10_0)
 have n52 := oLn u7_9.lt u8_0.1 (oLe g9)
 have m53 := (((u7_10.keep u8_0 nin0).ext E9).keep u10_0 (ninS n52 nin0))
 have m54 := (((u7_11.keep u8_0 nin0).ext E9).keep u10_0 (ninS n52 nin0))
 have m55 := (((u7_12.keep u8_0 nin0).ext E9).keep u10_0 (ninS n52 nin0))
 refine o_static K X11  (w172 hw) (w173 hw) (w174 hw) (w175 hw) (by decide) (rm_stepA l Z a0 hw b9 i0 r_3 r_8 r_7 u_7 m_7 0 0 0 h10 c54_12 c54_40 u10_1 G9 u10_2 u10_3 u10_4 m41 m43 m44 m46 m47 m49 m50 m51 m53 m54 m55 G7_u G7_m u7_13 (Ne.symm n48) (Ne.symm n52)) (by decide) rfl (argsL := [.ref b9, .int i0, .ref r_3, .ref r_8]) rfl (lenOf pd19 rfl) (W := 1) rfl (by decide) (by decide) (by decide) at_63 rfl ?_
 intro v56 T56 h56 X56 U56
 obtain ⟨e_56, c_56, rfl, u56_0, u56_1, u56_2, u56_3, u56_4, u56_5, u56_6, u56_7, u56_8, u56_9, u56_10, u56_11, u56_12, u56_13, u56_14, u56_15, u56_16, u56_17⟩ := U56
 have G56_e : Z.heap.size ≤ e_56 := Nat.le_trans X11.ext0.1 u56_16
 have G56_c : Z.heap.size ≤ c_56 := Nat.le_trans X11.ext0.1 u56_17
 show oGoes pp ee bb ss Z T56 (mkF mm 66 _ [.int 1, .int 0]) _ _ _
 refine o_iadd K X56 at_66 rfl (z := 1) (by decide) ?_
 refine o_istore K X56 at_67 rfl (L' := #[vI i0, vI i1, vI i2, vI i3, vR r_3, vR r_8, vR b9, vI 1, vI 1]) rfl ?_
 have m58 := ((((((((u3_2.ext E4).ext E5).keep u6_0).keep u7_0).keep u8_0).ext E9).keep u10_0).keep u56_0)
 have n59 := oLn u3_2.lt E4.1 (oLe g5)
 have y3_8 := Nat.le_trans (Nat.le_trans (Nat.le_trans (Nat.le_trans E4.1 E5.1) u6_0.1) u7_0.1) u8_0.1
 have n60 := oLn u3_2.lt y3_8 (oLe g9)
 have y3_6 := Nat.le_trans (Nat.le_trans E4.1 E5.1) u6_0.1
 have n61 := oLn u3_2.lt y3_6 u7_8
 have n62 := oLn u3_2.lt y3_6 u7_4
 have m63 := ((((((((u3_3.ext E4).ext E5).keep u6_0 (ninS n59 nin0)).keep u7_0 nin0).keep u8_0 nin0).ext E9).keep u10_0 (ninS n60 nin0)).keep u56_0 (ninS n60 (ninS n62 (ninS n61 nin0))))
 have m64 := (m41.keep u56_0)
 have n65 := oLsz u7_9.lt u8_1
 have n66 := oLsz u7_5.lt u8_1
 have m67 := (m43.keep u56_0 (ninS n42 (ninS n66 (ninS n65 nin0))))
 have m68 := (m44.keep u56_0)
 have m69 := (m46.keep u56_0 (ninS n45 (ninS u7_14 (ninS u7_15 nin0))))
 have n70 := oLsn A9.lt u10_0.1 u56_16
 have n71 := oLsn A9.lt u10_0.1 u56_17
 refine tl_lw69B l Z a0 hw i0 i1 i2 i3 r_3 r_8 b9 1 r_7 u_7 m_7 e_56 c_56 ((0 : Int32) + (1 : Int32)) 0 0 em h56 u56_1 G9 u56_2 u56_3 u56_4 (by decide) m58 m63 m64 m67 m68 m69 u56_5 u56_6 u56_7 u56_11 u56_12 u56_13 u56_14 u56_15 u56_8 u56_9 u56_10 n70 n71 (Ne.symm n48) (Ne.symm n52) n60 n42 n45 q4 q5 q6 (fun v57 h57 U57 => ?_) K (X56.mono (by decide) (by decide))
 obtain rfl : v57 = some (.int 1) := U57
 exact rfl
 refine o_iload K X11 at_54 rfl rfl ?_
 refine o_aload K X11 at_56 rfl rfl rfl ?_
 refine o_iloadN K X11 at_58 rfl rfl ?_
 refine o_aload K X11 at_59 rfl rfl rfl ?_
 refine o_aload K X11 at_61 rfl rfl rfl ?_
 refine o_static K X11  (w172 hw) (w173 hw) (w174 hw) (w175 hw) (by decide) (rm_step0 l Z a0 hw b9 i0 r_3 r_8 h10 c54_12 c54_40) (by decide) rfl (argsL := [.ref b9, .int i0, .ref r_3, .ref r_8]) rfl (lenOf pd19 rfl) (W := 1) rfl (by decide) (by decide) (by decide) at_63 rfl ?_
 intro v72 T72 h72 X72 U72
 obtain ⟨rfl, rfl⟩ := U72
 show oGoes pp ee bb ss Z T72 (mkF mm 66 _ [.int 0, .int 0]) _ _ _
 refine o_iadd K X72 at_66 rfl (z := 0) (by decide) ?_
 refine o_istore K X72 at_67 rfl (L' := #[vI i0, vI i1, vI i2, vI i3, vR r_3, vR r_8, vR b9, vI 1, vI 0]) rfl ?_
 have m74 := (((((((u3_2.ext E4).ext E5).keep u6_0).keep u7_0).keep u8_0).ext E9).keep u10_0)
 have n75 := oLn u3_2.lt E4.1 (oLe g5)
 have y3_8 := Nat.le_trans (Nat.le_trans (Nat.le_trans (Nat.le_trans E4.1 E5.1) u6_0.1) u7_0.1) u8_0.1
 have n76 := oLn u3_2.lt y3_8 (oLe g9)
 have m77 := (((((((u3_3.ext E4).ext E5).keep u6_0 (ninS n75 nin0)).keep u7_0 nin0).keep u8_0 nin0).ext E9).keep u10_0 (ninS n76 nin0))
 have m78 := ((u8_2.ext E9).keep u10_0)
 have n79 := oLz u8_2.lt (oLe g9)
 have m80 := ((u8_3.ext E9).keep u10_0 (ninS n79 nin0))
 have m81 := (((u7_2.keep u8_0).ext E9).keep u10_0)
 have n82 := oLn u7_2.lt u8_0.1 (oLe g9)
 have m83 := (((u7_3.keep u8_0 nin0).ext E9).keep u10_0 (ninS n82 nin0))
 have m84 := (((u7_5.keep u8_0).ext E9).keep u10_0)
 have n85 := oLn u7_5.lt u8_0.1 (oLe g9)
 have m86 := (((u7_6.keep u8_0 nin0).ext E9).keep u10_0 (ninS n85 nin0))
 have m87 := (((u7_7.keep u8_0 nin0).ext E9).keep u10_0 (ninS n85 nin0))
 have m88 := (((u7_9.keep u8_0).ext E9).keep u10_0)
 have n89 := oLn u7_9.lt u8_0.1 (oLe g9)
 have m90 := (((u7_10.keep u8_0 nin0).ext E9).keep u10_0 (ninS n89 nin0))
 have m91 := (((u7_11.keep u8_0 nin0).ext E9).keep u10_0 (ninS n89 nin0))
 have m92 := (((u7_12.keep u8_0 nin0).ext E9).keep u10_0 (ninS n89 nin0))
 have y3_6 := Nat.le_trans (Nat.le_trans E4.1 E5.1) u6_0.1
 have n93 := oLn u3_2.lt y3_6 u7_4
 have n94 := oLn u3_2.lt y3_6 u7_8
 have n95 := oLsz u7_5.lt u8_1
 have n96 := oLsz u7_9.lt u8_1
 refine tl_lw69A l Z a0 hw i0 i1 i2 i3 r_3 r_8 b9 0 r_7 u_7 m_7 0 0 0 em h10 u10_1 G9 u10_2 u10_3 u10_4 (by decide) m74 m77 m78 m80 m81 m83 m84 m86 m87 m88 m90 m91 m92 G7_u G7_m u7_13 (Ne.symm n85) (Ne.symm n89) n76 n79 n82 n93 n94 n95 n96 u7_14 u7_15 q4 q5 q6 (fun v73 h73 U73 => ?_) K (X72.mono (by decide) (by decide))
 obtain rfl : v73 = some (.int 1) := U73
 exact rfl
set_option maxRecDepth 65536 in
set_option maxHeartbeats 40000000 in
theorem comes_1 {Post : Tables → Env → Array Value → State → Outcome → State → Prop} (hpost : ∀ tb e args s v u, (limb_1_1.after args s (.returned v) u = true ∧ limb_1_2.after args s (.returned v) u = true ∧ True) → ReturnedEndW s (.returned v) u (Jvm.fieldLocs frame_1_writes args s ++ Jvm.arrayLocs frame_1_arrays args s ++ Jvm.staticLocs frame_1_statics s) 64 2304 → Post tb e args s (.returned v) u) :
    ArmFor flags0 classFile x code maxLocals ret World_1 tables_1 room_1 Calls_1 rest_1 Pre_1 Post := by
  intro l hfl _ _ p e ha hc hk s m args below hf hA hF happ hP
  obtain ⟨hcalls, hrest, hpre⟩ := hP
  obtain ⟨-, -, -, hnamed, -, -, -, hat⟩ := (Spec.applies_iff hf).mp happ
  obtain ⟨hg, hn⟩ := and_e (Cond.before_iff.mp (show (Jvm.Cond.and given_1 narrow_1).before args s = true from hpre))
  obtain ⟨g0, gr0⟩ := and_e hg
  obtain ⟨g1, gr1⟩ := and_e gr0
  obtain ⟨g2, gr2⟩ := and_e gr1
  obtain ⟨g3, gr3⟩ := and_e gr2
  obtain ⟨w_0, w_1, w_2, w_3, rfl⟩ : ∃ w_0 w_1 w_2 w_3 : Value, args = #[w_0, w_1, w_2, w_3] := by
    have hs : args.size = 4 := by simpa [Jvm.Cond.value] using g0
    obtain ⟨L⟩ := args
    match L, hs with
    | [w_0, w_1, w_2, w_3], _ => exact ⟨w_0, w_1, w_2, w_3, rfl⟩
  have hw : oHw s #[w_0, w_1, w_2, w_3] := fun d (hd : d ∈ tables_1) => atoms_spec (ws := Jvm.Cond.code x code maxLocals ret :: tables_1) hat d (List.mem_cons_of_mem _ hd)
  have hfit : Fit s := fun {y c} hc i hi => by
    obtain ⟨ha, rfl⟩ := Array.getElem?_eq_some_iff.mp hc
    have q := List.all_eq_true.mp ((Array.all_eq_true_iff_forall_mem.mp hF) _ (Array.getElem_mem ha)) i (List.mem_range.mpr hi)
    simpa [Array.getElem?_eq_getElem hi] using q
  obtain ⟨hsets, hown0⟩ := atoms_of _ (rest_1_c_eq ▸ (show rest_1_c.before _ s = true from hrest))
  obtain ⟨i0, ei0⟩ := is_v g1
  obtain rfl : w_0 = (.int i0) := Option.some.inj ei0
  obtain ⟨i1, ei1⟩ := is_v g2
  obtain rfl : w_1 = (.int i1) := Option.some.inj ei1
  obtain ⟨i2, ei2⟩ := is_v g3
  obtain rfl : w_2 = (.int i2) := Option.some.inj ei2
  obtain ⟨i3, ei3⟩ := is_v gr3
  obtain rfl : w_3 = (.int i3) := Option.some.inj ei3
  have dx1 := Cond.before_iff.mp (hsets _ (List.mem_of_getElem? (i := 6) rfl))
  have dx2 := Cond.before_iff.mp (hsets _ (List.mem_of_getElem? (i := 8) rfl))
  obtain ⟨dce, ed, Sd⟩ := oStaRef dx1 (Or.inr ⟨(w29 hw), (hsets _ (List.mem_of_getElem? (i := 2) rfl))⟩)
  obtain ⟨em, eem, Xem⟩ := own_exactly (Cond.before_iff.mp (hsets _ (List.mem_of_getElem? (i := 11) rfl)))
  have Sem := Sta.start eem (Or.inl (hsets _ (List.mem_of_getElem? (i := 10) rfl)))
  have nem := null_v (Cond.before_iff.mp (hsets _ (List.mem_of_getElem? (i := 12) rfl)))
  have Fem := Fld.start ((fld_at eem).symm.trans nem)
  obtain ⟨ca_, ka_, ma, a1, a2, a3⟩ := hcalls.1
  obtain ⟨cb_, kb_, mb, b1, b2, b3⟩ := hcalls.2.1
  have Nm : ma ≠ mb := Mir.ne (C := z0) (D := z3) ⟨ca_, ka_, a1, a2, a3⟩ ⟨cb_, kb_, b1, b2, b3⟩ (by decide)
  have Ma : oMir s z0 ma := ⟨ca_, ka_, a1, a2, a3.1⟩
  have Mb : oMir s z3 mb := ⟨cb_, kb_, b1, b2, b3.1⟩
  obtain ⟨n, o, h1, h2, h3, v, L, rfl, ⟨hQ, N, E⟩, hq⟩ := rm_law l s _ hw i0 i1 i2 i3 dce ma mb em s.heap Sd Ma Mb Nm Sem Xem Fem tables_1 ⟨Nat.le_refl _, fun _ _ q => q⟩ p e ha hc hk s m _ below hf ((Spec.applies_iff_loose hf).mp happ).1 ⟨rfl, State.Warmed39.refl s, rfl⟩ trivial
  obtain rfl : v = some (.int 1) := hQ
  refine ⟨n, _, h1, h2, h3, hpost _ _ _ _ _ _ ⟨Cond.after_iff.mpr rfl, Cond.after_iff.mpr (eq_i res_at (Term.int_eval (1)) rfl), trivial⟩ ⟨hq.1, hq.2.1, hq.2.2.1, (hq.2.2.2.sift fun y hy => Or.inr (N y hy)).mono (by decide) (by decide)⟩⟩
theorem main_1_1 : Claimed_1_1 := comes_1 fun _ _ _ _ _ _ h hF => ⟨h.1, hF⟩
theorem main_1_2 : Claimed_1_2 := comes_1 fun _ _ _ _ _ _ h hF => ⟨h.2.1, hF⟩
end Jvm.Pilot.@@N@@
namespace Jvm.Pilot.@@N@@
open Jvm Jvm.ClassFile Sem Op Lib Jvm.Free Jvm.Stand Jvm.Pilot.@@N@@.Jvm.D
/-! MADE BY PROGRAM (witnessworld.py) out of the Statement's table words and the real class files: 46 classes; the members and pool entries that the words name. The judged class is class 1, her method 1. -/
namespace start1
open Jvm.ClassFile
def u (s : String) : CpInfo := .utf8 (stringToUtf16 s)
/-- a pool by its gaps: so many unusable entries, then the entry; so many at the end -/
def gap : Nat → List CpInfo → List CpInfo
  | 0, r => r
  | n + 1, r => .unusable :: gap n r
def poolList (es : List (Nat × CpInfo)) (last : Nat) : List CpInfo := es.foldr (fun e r => gap e.1 (e.2 :: r)) (gap last [])
def pool (es : List (Nat × CpInfo)) (last : Nat) : Array CpInfo := ⟨poolList es last⟩
def fileOf (pool : Array CpInfo) (this : Nat) (attrs : Array Attribute := #[]) (ms : Array MethodInfo := #[]) (fl : Nat := 33) (sup : Nat := 0) (ifs : Array Nat := #[]) (fds : Array FieldInfo := #[]) : ClassFile where
  minorVersion := 0
  majorVersion := 65
  constantPool := pool
  accessFlags := fl
  thisClass := this
  superClass := sup
  interfaces := ifs
  fields := fds
  methods := ms
  attributes := attrs
def plain (name : String) (sup : Option ClassId) : Class where
  name := name
  kind := .ordinary
  loader := none
  accessFlags := 33
  super := sup
  interfaces := #[]
  cf := none
  fields := #[]
  methods := #[]
  instanceTypes := #[]
  staticTypes := #[]
  resolved := #[]
  callSites := []
  init := .initialized
  statics := none
  mirror := none

def pool0 : Array CpInfo := pool [(5, u "<init>"), (0, u "()V"), (1, .class_ 10), (1, u "java/lang/Object"), (0, u "getClass"), (0, u "()Ljava/lang/Class;")] 111

def k0c0 : Code := { maxStack := 0, maxLocals := 1, code := object_method_1_code, exceptionTable := #[], attributes := #[] }
def k0m0 : Method := { name := "<init>", desc := "()V", sig := { parameters := [], returnType := none }, accessFlags := 1, code := some k0c0 }
def k0m1 : Method := { name := "getClass", desc := "()Ljava/lang/Class;", sig := { parameters := [], returnType := some (.object "java/lang/Class") }, accessFlags := 273, code := none }
/-- java/lang/Object -/
def k0 : Class := { plain "java/lang/Object" none with
  accessFlags := 33
  interfaces := #[]
  cf := some (fileOf pool0 8 #[] #[{ accessFlags := 1, nameIndex := 5, descriptorIndex := 6, attributes := #[] }, { accessFlags := 273, nameIndex := 11, descriptorIndex := 12, attributes := #[] }] 33 0 #[] #[])
  fields := #[]
  methods := #[k0m0, k0m1]
  instanceTypes := #[]
  staticTypes := #[]
  resolved := Array.replicate 124 none
  statics := none }

def pool1 : Array CpInfo := pool [(2, .class_ 4), (0, .nameAndType 5 6), (0, u "java/lang/Object"), (0, u "<init>"), (0, u "()V"), (0, .string 8), (0, u "-"), (0, .string 10), (0, u "no such file"), (0, .methodref 12 13), (0, .class_ 14), (0, .nameAndType 15 16), (0, u "com/example/phone_conformance_check/phoneconformancecheck/report/CheckedCapture"), (0, u "unusable"), (0, u "(Ljava/lang/String;Ljava/lang/String;)Lcom/example/phone_conformance_check/phoneconformancecheck/report/CheckedCapture;"), (0, .class_ 18), (0, u "java/util/ArrayList"), (0, .methodref 17 3), (0, .methodref 21 22), (0, .class_ 23), (0, .nameAndType 24 25), (0, u "com/example/phone_conformance_check/phoneconformancecheck/judging/Report"), (0, u "judge"), (0, u "(Ljava/util/List;Lcom/example/phone_conformance_check/phoneconformancecheck/capture/Capture;)Lcom/example/phone_conformance_check/phoneconformancecheck/judging/Report;"), (0, .methodref 12 27), (0, .nameAndType 28 29), (0, u "judged"), (0, u "(Ljava/lang/String;Lcom/example/phone_conformance_check/phoneconformancecheck/judging/Report;)Lcom/example/phone_conformance_check/phoneconformancecheck/report/CheckedCapture;"), (0, .class_ 31), (0, u "com/example/phone_conformance_check/phoneconformancecheck/report/Total"), (0, .methodref 30 3), (0, .methodref 30 34), (0, .nameAndType 35 36), (0, u "getCaptures"), (0, u "()I"), (0, .methodref 38 39), (0, .class_ 40), (0, .nameAndType 41 42), (0, u "com/example/phone_conformance_check/phoneconformancecheck/report/TotalGetCapturesPinLaw"), (0, u "step"), (0, u "(Lcom/example/phone_conformance_check/phoneconformancecheck/report/Total;ILcom/example/phone_conformance_check/phoneconformancecheck/report/CheckedCapture;Lcom/example/phone_conformance_check/phoneconformancecheck/report/CheckedCapture;)I"), (0, .methodref 30 44), (0, .nameAndType 45 46), (0, u "add"), (0, u "(Lcom/example/phone_conformance_check/phoneconformancecheck/report/CheckedCapture;)V"), (2, u "law"), (0, u "(IIII)Z")] 3

def k1m0 : Method := { name := "<init>", desc := "()V", sig := { parameters := [], returnType := none }, accessFlags := 2, code := none }
def k1c1 : Code := { maxStack := 5, maxLocals := 9, code := code, exceptionTable := #[], attributes := #[] }
def k1m1 : Method := { name := "law", desc := "(IIII)Z", sig := { parameters := [.int, .int, .int, .int], returnType := some .boolean }, accessFlags := 9, code := some k1c1 }
def k1c2 : Code := { maxStack := 2, maxLocals := 5, code := method_3_code, exceptionTable := #[], attributes := #[] }
def k1m2 : Method := { name := "step", desc := "(Lcom/example/phone_conformance_check/phoneconformancecheck/report/Total;ILcom/example/phone_conformance_check/phoneconformancecheck/report/CheckedCapture;Lcom/example/phone_conformance_check/phoneconformancecheck/report/CheckedCapture;)I", sig := { parameters := [(.object "com/example/phone_conformance_check/phoneconformancecheck/report/Total"), .int, (.object "com/example/phone_conformance_check/phoneconformancecheck/report/CheckedCapture"), (.object "com/example/phone_conformance_check/phoneconformancecheck/report/CheckedCapture")], returnType := some .int }, accessFlags := 10, code := some k1c2 }
/-- com/example/phone_conformance_check/phoneconformancecheck/report/TotalGetCapturesPinLaw -/
def k1 : Class := { plain "com/example/phone_conformance_check/phoneconformancecheck/report/TotalGetCapturesPinLaw" (some 0) with
  accessFlags := 49
  interfaces := #[]
  cf := some (fileOf pool1 38 #[] #[{ accessFlags := 2, nameIndex := 5, descriptorIndex := 6, attributes := #[] }, { accessFlags := 9, nameIndex := 49, descriptorIndex := 50, attributes := #[] }, { accessFlags := 10, nameIndex := 41, descriptorIndex := 42, attributes := #[] }] 49 2 #[] #[])
  fields := #[]
  methods := #[k1m0, k1m1, k1m2]
  instanceTypes := #[]
  staticTypes := #[]
  resolved := Array.replicate 54 none
  statics := none }

def pool2 : Array CpInfo := pool [(1, .class_ 2), (0, u "java/io/Serializable"), (0, .class_ 4), (0, u "java/lang/Object")] 2

/-- java/io/Serializable -/
def k2 : Class := { plain "java/io/Serializable" (some 0) with
  accessFlags := 1537
  interfaces := #[]
  cf := some (fileOf pool2 1 #[] #[] 1537 3 #[] #[])
  fields := #[]
  methods := #[]
  instanceTypes := #[]
  staticTypes := #[]
  resolved := Array.replicate 7 none
  statics := none }

def pool3 : Array CpInfo := pool [(1, .class_ 2), (0, u "java/lang/Comparable"), (0, .class_ 4), (0, u "java/lang/Object")] 7

/-- java/lang/Comparable -/
def k3 : Class := { plain "java/lang/Comparable" (some 0) with
  accessFlags := 1537
  interfaces := #[]
  cf := some (fileOf pool3 1 #[] #[] 1537 3 #[] #[])
  fields := #[]
  methods := #[]
  instanceTypes := #[]
  staticTypes := #[]
  resolved := Array.replicate 12 none
  statics := none }

def pool4 : Array CpInfo := pool [(2, .class_ 4), (1, u "java/lang/CharSequence"), (42, .class_ 48), (0, u "java/lang/CharSequence$1CodePointIterator"), (10, .class_ 60), (0, u "java/lang/CharSequence$1CharIterator"), (5, .class_ 67), (0, u "java/lang/Object")] 63

/-- java/lang/CharSequence -/
def k4 : Class := { plain "java/lang/CharSequence" (some 0) with
  accessFlags := 1537
  interfaces := #[]
  cf := some (fileOf pool4 2 #[.nestMembers #[47, 59]] #[] 1537 66 #[] #[])
  fields := #[]
  methods := #[]
  instanceTypes := #[]
  staticTypes := #[]
  resolved := Array.replicate 131 none
  statics := none }

def pool5 : Array CpInfo := pool [(1, .class_ 2), (0, u "java/lang/constant/Constable"), (0, .class_ 4), (0, u "java/lang/Object")] 6

/-- java/lang/constant/Constable -/
def k5 : Class := { plain "java/lang/constant/Constable" (some 0) with
  accessFlags := 1537
  interfaces := #[]
  cf := some (fileOf pool5 1 #[] #[] 1537 3 #[] #[])
  fields := #[]
  methods := #[]
  instanceTypes := #[]
  staticTypes := #[]
  resolved := Array.replicate 11 none
  statics := none }

def pool6 : Array CpInfo := pool [(1, .class_ 2), (0, u "java/lang/constant/ConstantDesc"), (0, .class_ 4), (0, u "java/lang/Object")] 32

/-- java/lang/constant/ConstantDesc -/
def k6 : Class := { plain "java/lang/constant/ConstantDesc" (some 0) with
  accessFlags := 1537
  interfaces := #[]
  cf := some (fileOf pool6 1 #[] #[] 1537 3 #[] #[])
  fields := #[]
  methods := #[]
  instanceTypes := #[]
  staticTypes := #[]
  resolved := Array.replicate 37 none
  statics := none }

def pool7 : Array CpInfo := pool [(2, .class_ 4), (1, u "java/lang/Object"), (0, u "<init>"), (0, u "()V"), (3, .class_ 12), (1, u "java/lang/String"), (0, u "value"), (0, u "[B"), (2, u "coder"), (0, u "B"), (2, u "hash"), (0, u "I"), (2, u "hashIsZero"), (0, u "Z"), (13, u "COMPACT_STRINGS"), (534, .class_ 576), (0, u "java/lang/CharSequence"), (22, u "CASE_INSENSITIVE_ORDER"), (0, u "Ljava/util/Comparator;"), (500, u "serialPersistentFields"), (0, u "[Ljava/io/ObjectStreamField;"), (0, .class_ 1104), (0, u "java/lang/String$CaseInsensitiveComparator"), (1, .class_ 1107), (0, u "java/io/Serializable"), (0, .class_ 1109), (0, u "java/lang/Comparable"), (0, .class_ 1111), (0, u "java/lang/constant/Constable"), (0, .class_ 1113), (0, u "java/lang/constant/ConstantDesc"), (2, u "serialVersionUID"), (0, u "J"), (3, u "REPL"), (0, u "C"), (2, u "LATIN1"), (1, u "UTF16")] 323

def k7m0 : Method := { name := "<init>", desc := "()V", sig := { parameters := [], returnType := none }, accessFlags := 1, code := none }
/-- java/lang/String -/
def k7 : Class := { plain "java/lang/String" (some 0) with
  accessFlags := 49
  interfaces := #[2, 3, 4, 5, 6]
  cf := some (fileOf pool7 10 #[.nestMembers #[1103]] #[{ accessFlags := 1, nameIndex := 5, descriptorIndex := 6, attributes := #[] }] 49 2 #[1106, 1108, 575, 1110, 1112] #[{ accessFlags := 18, nameIndex := 13, descriptorIndex := 14, attributes := #[] }, { accessFlags := 18, nameIndex := 17, descriptorIndex := 18, attributes := #[] }, { accessFlags := 2, nameIndex := 21, descriptorIndex := 22, attributes := #[] }, { accessFlags := 2, nameIndex := 25, descriptorIndex := 26, attributes := #[] }, { accessFlags := 26, nameIndex := 1116, descriptorIndex := 1117, attributes := #[] }, { accessFlags := 24, nameIndex := 40, descriptorIndex := 26, attributes := #[] }, { accessFlags := 26, nameIndex := 1101, descriptorIndex := 1102, attributes := #[] }, { accessFlags := 26, nameIndex := 1121, descriptorIndex := 1122, attributes := #[] }, { accessFlags := 25, nameIndex := 599, descriptorIndex := 600, attributes := #[] }, { accessFlags := 24, nameIndex := 1125, descriptorIndex := 18, attributes := #[] }, { accessFlags := 24, nameIndex := 1127, descriptorIndex := 18, attributes := #[] }])
  fields := #[{ name := "value", type := (.array .byte), accessFlags := 18, slot := 0, constantValue := 0 }, { name := "coder", type := .byte, accessFlags := 18, slot := 1, constantValue := 0 }, { name := "hash", type := .int, accessFlags := 2, slot := 2, constantValue := 0 }, { name := "hashIsZero", type := .boolean, accessFlags := 2, slot := 3, constantValue := 0 }, { name := "serialVersionUID", type := .long, accessFlags := 26, slot := 0, constantValue := 0 }, { name := "COMPACT_STRINGS", type := .boolean, accessFlags := 24, slot := 1, constantValue := 0 }, { name := "serialPersistentFields", type := (.array (.object "java/io/ObjectStreamField")), accessFlags := 26, slot := 2, constantValue := 0 }, { name := "REPL", type := .char, accessFlags := 26, slot := 3, constantValue := 0 }, { name := "CASE_INSENSITIVE_ORDER", type := (.object "java/util/Comparator"), accessFlags := 25, slot := 4, constantValue := 0 }, { name := "LATIN1", type := .byte, accessFlags := 24, slot := 5, constantValue := 0 }, { name := "UTF16", type := .byte, accessFlags := 24, slot := 6, constantValue := 0 }]
  methods := #[k7m0]
  instanceTypes := #[(.array .byte), .byte, .int, .boolean]
  staticTypes := #[.long, .boolean, (.array (.object "java/io/ObjectStreamField")), .char, (.object "java/util/Comparator"), .byte, .byte]
  resolved := Array.replicate 1451 none
  statics := none }

def pool8 : Array CpInfo := pool [(1, .methodref 2 3), (0, .class_ 4), (0, .nameAndType 5 6), (0, u "java/lang/Object"), (0, u "<init>"), (0, u "()V"), (0, .fieldref 8 9), (0, .class_ 10), (0, .nameAndType 11 12), (0, u "com/example/phone_conformance_check/phoneconformancecheck/report/CheckedCapture"), (0, u "name"), (0, u "Ljava/lang/String;"), (0, .fieldref 8 14), (0, .nameAndType 15 16), (0, u "report"), (0, u "Lcom/example/phone_conformance_check/phoneconformancecheck/judging/Report;"), (0, .fieldref 8 18), (0, .nameAndType 19 12), (0, u "reason"), (0, .methodref 8 21), (0, .nameAndType 5 22), (0, u "(Ljava/lang/String;Lcom/example/phone_conformance_check/phoneconformancecheck/judging/Report;Ljava/lang/String;)V"), (0, .methodref 24 25), (0, .class_ 26), (0, .nameAndType 27 28), (0, u "java/util/Optional"), (0, u "ofNullable"), (0, u "(Ljava/lang/Object;)Ljava/util/Optional;"), (2, u "judged"), (0, u "(Ljava/lang/String;Lcom/example/phone_conformance_check/phoneconformancecheck/judging/Report;)Lcom/example/phone_conformance_check/phoneconformancecheck/report/CheckedCapture;"), (0, u "unusable"), (0, u "(Ljava/lang/String;Ljava/lang/String;)Lcom/example/phone_conformance_check/phoneconformancecheck/report/CheckedCapture;"), (2, u "getReport"), (0, u "()Ljava/util/Optional;")] 6

def k8c0 : Code := { maxStack := 2, maxLocals := 4, code := prog_35_method_1_code, exceptionTable := #[], attributes := #[] }
def k8m0 : Method := { name := "<init>", desc := "(Ljava/lang/String;Lcom/example/phone_conformance_check/phoneconformancecheck/judging/Report;Ljava/lang/String;)V", sig := { parameters := [(.object "java/lang/String"), (.object "com/example/phone_conformance_check/phoneconformancecheck/judging/Report"), (.object "java/lang/String")], returnType := none }, accessFlags := 2, code := some k8c0 }
def k8c1 : Code := { maxStack := 5, maxLocals := 2, code := prog_35_method_2_code, exceptionTable := #[], attributes := #[] }
def k8m1 : Method := { name := "judged", desc := "(Ljava/lang/String;Lcom/example/phone_conformance_check/phoneconformancecheck/judging/Report;)Lcom/example/phone_conformance_check/phoneconformancecheck/report/CheckedCapture;", sig := { parameters := [(.object "java/lang/String"), (.object "com/example/phone_conformance_check/phoneconformancecheck/judging/Report")], returnType := some (.object "com/example/phone_conformance_check/phoneconformancecheck/report/CheckedCapture") }, accessFlags := 9, code := some k8c1 }
def k8c2 : Code := { maxStack := 5, maxLocals := 2, code := prog_35_method_3_code, exceptionTable := #[], attributes := #[] }
def k8m2 : Method := { name := "unusable", desc := "(Ljava/lang/String;Ljava/lang/String;)Lcom/example/phone_conformance_check/phoneconformancecheck/report/CheckedCapture;", sig := { parameters := [(.object "java/lang/String"), (.object "java/lang/String")], returnType := some (.object "com/example/phone_conformance_check/phoneconformancecheck/report/CheckedCapture") }, accessFlags := 9, code := some k8c2 }
def k8c3 : Code := { maxStack := 1, maxLocals := 1, code := prog_35_method_5_code, exceptionTable := #[], attributes := #[] }
def k8m3 : Method := { name := "getReport", desc := "()Ljava/util/Optional;", sig := { parameters := [], returnType := some (.object "java/util/Optional") }, accessFlags := 1, code := some k8c3 }
/-- com/example/phone_conformance_check/phoneconformancecheck/report/CheckedCapture -/
def k8 : Class := { plain "com/example/phone_conformance_check/phoneconformancecheck/report/CheckedCapture" (some 0) with
  accessFlags := 33
  interfaces := #[]
  cf := some (fileOf pool8 8 #[] #[{ accessFlags := 2, nameIndex := 5, descriptorIndex := 22, attributes := #[] }, { accessFlags := 9, nameIndex := 31, descriptorIndex := 32, attributes := #[] }, { accessFlags := 9, nameIndex := 33, descriptorIndex := 34, attributes := #[] }, { accessFlags := 1, nameIndex := 37, descriptorIndex := 38, attributes := #[] }] 33 2 #[] #[{ accessFlags := 18, nameIndex := 11, descriptorIndex := 12, attributes := #[] }, { accessFlags := 18, nameIndex := 15, descriptorIndex := 16, attributes := #[] }, { accessFlags := 18, nameIndex := 19, descriptorIndex := 12, attributes := #[] }])
  fields := #[{ name := "name", type := (.object "java/lang/String"), accessFlags := 18, slot := 0, constantValue := 0 }, { name := "report", type := (.object "com/example/phone_conformance_check/phoneconformancecheck/judging/Report"), accessFlags := 18, slot := 1, constantValue := 0 }, { name := "reason", type := (.object "java/lang/String"), accessFlags := 18, slot := 2, constantValue := 0 }]
  methods := #[k8m0, k8m1, k8m2, k8m3]
  instanceTypes := #[(.object "java/lang/String"), (.object "com/example/phone_conformance_check/phoneconformancecheck/judging/Report"), (.object "java/lang/String")]
  staticTypes := #[]
  resolved := Array.replicate 45 none
  statics := none }

def pool9 : Array CpInfo := pool [(8, .class_ 10), (1, u "java/lang/Iterable"), (24, .class_ 36), (0, u "java/lang/Object")] 25

/-- java/lang/Iterable -/
def k9 : Class := { plain "java/lang/Iterable" (some 0) with
  accessFlags := 1537
  interfaces := #[]
  cf := some (fileOf pool9 8 #[] #[] 1537 35 #[] #[])
  fields := #[]
  methods := #[]
  instanceTypes := #[]
  staticTypes := #[]
  resolved := Array.replicate 62 none
  statics := none }

def pool10 : Array CpInfo := pool [(10, .class_ 12), (1, u "java/util/Collection"), (10, u "iterator"), (0, u "()Ljava/util/Iterator;"), (35, .class_ 61), (0, u "java/lang/Object"), (0, .class_ 63), (0, u "java/lang/Iterable")] 51

def k10m0 : Method := { name := "iterator", desc := "()Ljava/util/Iterator;", sig := { parameters := [], returnType := some (.object "java/util/Iterator") }, accessFlags := 1025, code := none }
/-- java/util/Collection -/
def k10 : Class := { plain "java/util/Collection" (some 0) with
  accessFlags := 1537
  interfaces := #[9]
  cf := some (fileOf pool10 10 #[] #[{ accessFlags := 1025, nameIndex := 23, descriptorIndex := 24, attributes := #[] }] 1537 60 #[62] #[])
  fields := #[]
  methods := #[k10m0]
  instanceTypes := #[]
  staticTypes := #[]
  resolved := Array.replicate 115 none
  statics := none }

def pool11 : Array CpInfo := pool [(1, .methodref 2 3), (0, .class_ 4), (0, .nameAndType 5 6), (0, u "java/lang/Object"), (0, u "<init>"), (0, u "()V"), (1, .class_ 10), (1, u "java/util/AbstractCollection"), (66, .class_ 78), (0, u "java/util/Collection")] 81

def k11c0 : Code := { maxStack := 1, maxLocals := 1, code := jdk_22_method_1_code, exceptionTable := #[], attributes := #[] }
def k11m0 : Method := { name := "<init>", desc := "()V", sig := { parameters := [], returnType := none }, accessFlags := 4, code := some k11c0 }
/-- java/util/AbstractCollection -/
def k11 : Class := { plain "java/util/AbstractCollection" (some 0) with
  accessFlags := 1057
  interfaces := #[10]
  cf := some (fileOf pool11 8 #[] #[{ accessFlags := 4, nameIndex := 5, descriptorIndex := 6, attributes := #[] }] 1057 2 #[77] #[])
  fields := #[]
  methods := #[k11m0]
  instanceTypes := #[]
  staticTypes := #[]
  resolved := Array.replicate 160 none
  statics := none }

def pool12 : Array CpInfo := pool [(8, .class_ 10), (1, u "java/util/SequencedCollection"), (15, .class_ 27), (0, u "java/lang/Object"), (0, .class_ 29), (0, u "java/util/Collection")] 27

/-- java/util/SequencedCollection -/
def k12 : Class := { plain "java/util/SequencedCollection" (some 0) with
  accessFlags := 1537
  interfaces := #[10]
  cf := some (fileOf pool12 8 #[] #[] 1537 26 #[28] #[])
  fields := #[]
  methods := #[]
  instanceTypes := #[]
  staticTypes := #[]
  resolved := Array.replicate 57 none
  statics := none }

def pool13 : Array CpInfo := pool [(8, .class_ 10), (1, u "java/util/List"), (92, .class_ 104), (0, u "java/lang/Object"), (15, .class_ 121), (0, u "java/util/SequencedCollection"), (1, u "iterator"), (0, u "()Ljava/util/Iterator;")] 126

def k13m0 : Method := { name := "iterator", desc := "()Ljava/util/Iterator;", sig := { parameters := [], returnType := some (.object "java/util/Iterator") }, accessFlags := 1025, code := none }
/-- java/util/List -/
def k13 : Class := { plain "java/util/List" (some 0) with
  accessFlags := 1537
  interfaces := #[12]
  cf := some (fileOf pool13 8 #[] #[{ accessFlags := 1025, nameIndex := 123, descriptorIndex := 124, attributes := #[] }] 1537 103 #[120] #[])
  fields := #[]
  methods := #[k13m0]
  instanceTypes := #[]
  staticTypes := #[]
  resolved := Array.replicate 251 none
  statics := none }

def pool14 : Array CpInfo := pool [(1, .methodref 2 3), (0, .class_ 4), (0, .nameAndType 5 6), (0, u "java/util/AbstractCollection"), (0, u "<init>"), (0, u "()V"), (0, .fieldref 8 9), (0, .class_ 10), (0, .nameAndType 11 12), (0, u "java/util/AbstractList"), (0, u "modCount"), (0, u "I"), (64, .class_ 78), (0, u "java/util/AbstractList$Itr"), (3, .class_ 83), (0, u "java/util/AbstractList$ListItr"), (9, .class_ 94), (0, u "java/util/AbstractList$RandomAccessSubList"), (3, .class_ 99), (0, u "java/util/AbstractList$SubList"), (33, .class_ 134), (0, u "java/util/List"), (73, .class_ 209), (0, u "java/util/AbstractList$SubList$1"), (0, .class_ 211), (0, u "java/util/AbstractList$RandomAccessSpliterator")] 6

def k14c0 : Code := { maxStack := 2, maxLocals := 1, code := jdk_39_method_1_code, exceptionTable := #[], attributes := #[] }
def k14m0 : Method := { name := "<init>", desc := "()V", sig := { parameters := [], returnType := none }, accessFlags := 4, code := some k14c0 }
/-- java/util/AbstractList -/
def k14 : Class := { plain "java/util/AbstractList" (some 11) with
  accessFlags := 1057
  interfaces := #[13]
  cf := some (fileOf pool14 8 #[.nestMembers #[93, 98, 208, 210, 82, 77]] #[{ accessFlags := 4, nameIndex := 5, descriptorIndex := 6, attributes := #[] }] 1057 2 #[133] #[{ accessFlags := 132, nameIndex := 11, descriptorIndex := 12, attributes := #[] }])
  fields := #[{ name := "modCount", type := .int, accessFlags := 132, slot := 0, constantValue := 0 }]
  methods := #[k14m0]
  instanceTypes := #[.int]
  staticTypes := #[]
  resolved := Array.replicate 218 none
  statics := none }

def pool15 : Array CpInfo := pool [(1, .class_ 2), (0, u "java/util/RandomAccess"), (0, .class_ 4), (0, u "java/lang/Object")] 2

/-- java/util/RandomAccess -/
def k15 : Class := { plain "java/util/RandomAccess" (some 0) with
  accessFlags := 1537
  interfaces := #[]
  cf := some (fileOf pool15 1 #[] #[] 1537 3 #[] #[])
  fields := #[]
  methods := #[]
  instanceTypes := #[]
  staticTypes := #[]
  resolved := Array.replicate 7 none
  statics := none }

def pool16 : Array CpInfo := pool [(1, .class_ 2), (0, u "java/lang/Cloneable"), (0, .class_ 4), (0, u "java/lang/Object")] 2

/-- java/lang/Cloneable -/
def k16 : Class := { plain "java/lang/Cloneable" (some 0) with
  accessFlags := 1537
  interfaces := #[]
  cf := some (fileOf pool16 1 #[] #[] 1537 3 #[] #[])
  fields := #[]
  methods := #[]
  instanceTypes := #[]
  staticTypes := #[]
  resolved := Array.replicate 7 none
  statics := none }

def pool17 : Array CpInfo := pool [(1, .methodref 2 3), (0, .class_ 4), (0, .nameAndType 5 6), (0, u "java/util/AbstractList"), (0, u "<init>"), (0, u "()V"), (2, .fieldref 10 11), (0, .class_ 12), (0, .nameAndType 13 14), (0, u "java/util/ArrayList"), (0, u "elementData"), (0, u "[Ljava/lang/Object;"), (2, u "EMPTY_ELEMENTDATA"), (21, .fieldref 10 40), (0, .nameAndType 41 14), (0, u "DEFAULTCAPACITY_EMPTY_ELEMENTDATA"), (8, u "size"), (0, u "I"), (96, .class_ 149), (0, u "java/util/List"), (16, u "iterator"), (0, u "()Ljava/util/Iterator;"), (94, .class_ 263), (0, u "java/util/ArrayList$ListItr"), (3, .class_ 268), (0, u "java/util/ArrayList$Itr"), (0, .methodref 267 270), (0, .nameAndType 5 271), (0, u "(Ljava/util/ArrayList;)V"), (4, .class_ 277), (0, u "java/util/ArrayList$SubList"), (12, .class_ 291), (0, u "java/util/ArrayList$ArrayListSpliterator"), (37, .class_ 330), (0, u "java/util/RandomAccess"), (0, .class_ 332), (0, u "java/lang/Cloneable"), (0, .class_ 334), (0, u "java/io/Serializable"), (0, u "serialVersionUID"), (0, u "J"), (3, u "DEFAULT_CAPACITY"), (159, .class_ 501), (0, u "java/util/ArrayList$SubList$2"), (0, .class_ 503), (0, u "java/util/ArrayList$SubList$1")] 5

def k17c0 : Code := { maxStack := 2, maxLocals := 1, code := jdk_38_method_2_code, exceptionTable := #[], attributes := #[] }
def k17m0 : Method := { name := "<init>", desc := "()V", sig := { parameters := [], returnType := none }, accessFlags := 1, code := some k17c0 }
def k17c1 : Code := { maxStack := 3, maxLocals := 1, code := jdk_38_method_55_code, exceptionTable := #[], attributes := #[] }
def k17m1 : Method := { name := "iterator", desc := "()Ljava/util/Iterator;", sig := { parameters := [], returnType := some (.object "java/util/Iterator") }, accessFlags := 1, code := some k17c1 }
/-- java/util/ArrayList -/
def k17 : Class := { plain "java/util/ArrayList" (some 14) with
  accessFlags := 33
  interfaces := #[13, 15, 16, 2]
  cf := some (fileOf pool17 10 #[.nestMembers #[290, 276, 500, 502, 262, 267]] #[{ accessFlags := 1, nameIndex := 5, descriptorIndex := 6, attributes := #[] }, { accessFlags := 1, nameIndex := 166, descriptorIndex := 167, attributes := #[] }] 33 2 #[148, 329, 331, 333] #[{ accessFlags := 26, nameIndex := 335, descriptorIndex := 336, attributes := #[] }, { accessFlags := 26, nameIndex := 340, descriptorIndex := 51, attributes := #[] }, { accessFlags := 26, nameIndex := 17, descriptorIndex := 14, attributes := #[] }, { accessFlags := 26, nameIndex := 41, descriptorIndex := 14, attributes := #[] }, { accessFlags := 128, nameIndex := 13, descriptorIndex := 14, attributes := #[] }, { accessFlags := 2, nameIndex := 50, descriptorIndex := 51, attributes := #[] }])
  fields := #[{ name := "serialVersionUID", type := .long, accessFlags := 26, slot := 0, constantValue := 0 }, { name := "DEFAULT_CAPACITY", type := .int, accessFlags := 26, slot := 1, constantValue := 0 }, { name := "EMPTY_ELEMENTDATA", type := (.array (.object "java/lang/Object")), accessFlags := 26, slot := 2, constantValue := 0 }, { name := "DEFAULTCAPACITY_EMPTY_ELEMENTDATA", type := (.array (.object "java/lang/Object")), accessFlags := 26, slot := 3, constantValue := 0 }, { name := "elementData", type := (.array (.object "java/lang/Object")), accessFlags := 128, slot := 1, constantValue := 0 }, { name := "size", type := .int, accessFlags := 2, slot := 2, constantValue := 0 }]
  methods := #[k17m0, k17m1]
  instanceTypes := #[.int, (.array (.object "java/lang/Object")), .int]
  staticTypes := #[.long, .int, (.array (.object "java/lang/Object")), (.array (.object "java/lang/Object"))]
  resolved := Array.replicate 509 none
  statics := some 0 }

def pool18 : Array CpInfo := pool [(1, .methodref 2 3), (0, .class_ 4), (0, .nameAndType 5 6), (0, u "java/lang/Object"), (0, u "<init>"), (0, u "()V"), (0, .methodref 8 9), (0, .class_ 10), (0, .nameAndType 11 12), (0, u "java/util/Collections"), (0, u "unmodifiableMap"), (0, u "(Ljava/util/Map;)Ljava/util/Map;"), (0, .fieldref 14 15), (0, .class_ 16), (0, .nameAndType 17 18), (0, u "com/example/phone_conformance_check/phoneconformancecheck/judging/Report"), (0, u "findings"), (0, u "Ljava/util/Map;"), (0, .class_ 20), (0, u "java/util/LinkedHashMap"), (0, .methodref 19 3), (0, .interfaceMethodref 23 24), (0, .class_ 25), (0, .nameAndType 26 27), (0, u "java/util/List"), (0, u "iterator"), (0, u "()Ljava/util/Iterator;"), (0, .interfaceMethodref 29 30), (0, .class_ 31), (0, .nameAndType 32 33), (0, u "java/util/Iterator"), (0, u "hasNext"), (0, u "()Z"), (8, u "judge"), (2, .class_ 47), (1, u "java/util/Map"), (17, .methodref 14 66), (0, .nameAndType 5 67), (0, u "(Ljava/util/Map;)V"), (13, .interfaceMethodref 45 82), (0, .nameAndType 83 84), (0, u "entrySet"), (0, u "()Ljava/util/Set;"), (0, .interfaceMethodref 86 24), (0, .class_ 87), (0, u "java/util/Set"), (10, u "failsAMust"), (22, u "(Ljava/util/List;Lcom/example/phone_conformance_check/phoneconformancecheck/capture/Capture;)Lcom/example/phone_conformance_check/phoneconformancecheck/judging/Report;")] 25

def k18c0 : Code := { maxStack := 2, maxLocals := 2, code := prog_32_method_1_code, exceptionTable := #[], attributes := #[] }
def k18m0 : Method := { name := "<init>", desc := "(Ljava/util/Map;)V", sig := { parameters := [(.object "java/util/Map")], returnType := none }, accessFlags := 2, code := some k18c0 }
def k18c1 : Code := { maxStack := 4, maxLocals := 5, code := prog_32_method_2_code, exceptionTable := #[], attributes := #[] }
def k18m1 : Method := { name := "judge", desc := "(Ljava/util/List;Lcom/example/phone_conformance_check/phoneconformancecheck/capture/Capture;)Lcom/example/phone_conformance_check/phoneconformancecheck/judging/Report;", sig := { parameters := [(.object "java/util/List"), (.object "com/example/phone_conformance_check/phoneconformancecheck/capture/Capture")], returnType := some (.object "com/example/phone_conformance_check/phoneconformancecheck/judging/Report") }, accessFlags := 9, code := some k18c1 }
def k18c2 : Code := { maxStack := 2, maxLocals := 3, code := prog_32_method_5_code, exceptionTable := #[], attributes := #[] }
def k18m2 : Method := { name := "failsAMust", desc := "()Z", sig := { parameters := [], returnType := some .boolean }, accessFlags := 1, code := some k18c2 }
/-- com/example/phone_conformance_check/phoneconformancecheck/judging/Report -/
def k18 : Class := { plain "com/example/phone_conformance_check/phoneconformancecheck/judging/Report" (some 0) with
  accessFlags := 33
  interfaces := #[]
  cf := some (fileOf pool18 14 #[] #[{ accessFlags := 2, nameIndex := 5, descriptorIndex := 67, attributes := #[] }, { accessFlags := 9, nameIndex := 42, descriptorIndex := 121, attributes := #[] }, { accessFlags := 1, nameIndex := 98, descriptorIndex := 33, attributes := #[] }] 33 2 #[] #[{ accessFlags := 18, nameIndex := 17, descriptorIndex := 18, attributes := #[] }])
  fields := #[{ name := "findings", type := (.object "java/util/Map"), accessFlags := 18, slot := 0, constantValue := 0 }]
  methods := #[k18m0, k18m1, k18m2]
  instanceTypes := #[(.object "java/util/Map")]
  staticTypes := #[]
  resolved := Array.replicate 147 none
  statics := none }

def pool19 : Array CpInfo := pool [(2, .class_ 4), (1, u "java/util/Map"), (13, u "entrySet"), (0, u "()Ljava/util/Set;"), (16, .class_ 37), (0, u "java/util/Map$Entry"), (55, .class_ 94), (0, u "java/lang/Object")] 168

def k19m0 : Method := { name := "entrySet", desc := "()Ljava/util/Set;", sig := { parameters := [], returnType := some (.object "java/util/Set") }, accessFlags := 1025, code := none }
/-- java/util/Map -/
def k19 : Class := { plain "java/util/Map" (some 0) with
  accessFlags := 1537
  interfaces := #[]
  cf := some (fileOf pool19 2 #[.nestMembers #[36]] #[{ accessFlags := 1025, nameIndex := 18, descriptorIndex := 19, attributes := #[] }] 1537 93 #[] #[])
  fields := #[]
  methods := #[k19m0]
  instanceTypes := #[]
  staticTypes := #[]
  resolved := Array.replicate 263 none
  statics := none }

def pool20 : Array CpInfo := pool [(1, .methodref 2 3), (0, .class_ 4), (0, .nameAndType 5 6), (0, u "java/lang/Object"), (0, u "<init>"), (0, u "()V"), (1, .class_ 10), (1, u "java/util/AbstractMap"), (42, .class_ 54), (0, u "java/util/Map"), (9, u "keySet"), (0, u "Ljava/util/Set;"), (0, .class_ 67), (0, u "java/util/AbstractMap$1"), (5, u "values"), (0, u "Ljava/util/Collection;"), (0, .class_ 76), (0, u "java/util/AbstractMap$2"), (104, .class_ 182), (0, u "java/util/AbstractMap$ViewCollection"), (0, .class_ 184), (0, u "java/util/AbstractMap$SimpleImmutableEntry"), (0, .class_ 186), (0, u "java/util/AbstractMap$SimpleEntry"), (0, .class_ 188), (0, u "java/util/AbstractMap$2$1"), (0, .class_ 190), (0, u "java/util/AbstractMap$1$1")] 5

def k20c0 : Code := { maxStack := 1, maxLocals := 1, code := jdk_71_method_1_code, exceptionTable := #[], attributes := #[] }
def k20m0 : Method := { name := "<init>", desc := "()V", sig := { parameters := [], returnType := none }, accessFlags := 4, code := some k20c0 }
/-- java/util/AbstractMap -/
def k20 : Class := { plain "java/util/AbstractMap" (some 0) with
  accessFlags := 1057
  interfaces := #[19]
  cf := some (fileOf pool20 8 #[.nestMembers #[181, 183, 185, 75, 187, 66, 189]] #[{ accessFlags := 4, nameIndex := 5, descriptorIndex := 6, attributes := #[] }] 1057 2 #[53] #[{ accessFlags := 128, nameIndex := 64, descriptorIndex := 65, attributes := #[] }, { accessFlags := 128, nameIndex := 73, descriptorIndex := 74, attributes := #[] }])
  fields := #[{ name := "keySet", type := (.object "java/util/Set"), accessFlags := 128, slot := 0, constantValue := 0 }, { name := "values", type := (.object "java/util/Collection"), accessFlags := 128, slot := 1, constantValue := 0 }]
  methods := #[k20m0]
  instanceTypes := #[(.object "java/util/Set"), (.object "java/util/Collection")]
  staticTypes := #[]
  resolved := Array.replicate 196 none
  statics := none }

def pool21 : Array CpInfo := pool [(40, .class_ 41), (0, u "java/util/HashMap"), (1, .methodref 44 45), (0, .class_ 46), (0, .nameAndType 47 48), (0, u "java/util/AbstractMap"), (0, u "<init>"), (0, u "()V"), (32, .fieldref 40 82), (0, .nameAndType 83 84), (0, u "loadFactor"), (0, u "F"), (5, u "threshold"), (0, u "I"), (0, .float 1061158912), (8, .class_ 103), (1, u "java/util/Map"), (0, u "size"), (2, u "table"), (0, u "[Ljava/util/HashMap$Node;"), (14, u "entrySet"), (39, .class_ 165), (1, u "java/util/HashMap$Node"), (14, .class_ 181), (0, u "java/util/HashMap$TreeNode"), (22, u "modCount"), (37, u "Ljava/util/Set;"), (0, .class_ 244), (0, u "java/util/HashMap$KeySet"), (18, .class_ 264), (0, u "java/util/HashMap$Values"), (3, .class_ 269), (0, u "java/util/HashMap$EntrySet"), (76, .class_ 348), (1, u "java/util/HashMap$UnsafeHolder"), (43, .class_ 393), (0, u "java/lang/Cloneable"), (0, .class_ 395), (0, u "java/io/Serializable"), (0, u "serialVersionUID"), (0, u "J"), (3, u "DEFAULT_INITIAL_CAPACITY"), (1, u "MAXIMUM_CAPACITY"), (0, u "DEFAULT_LOAD_FACTOR"), (0, u "TREEIFY_THRESHOLD"), (1, u "UNTREEIFY_THRESHOLD"), (1, u "MIN_TREEIFY_CAPACITY"), (186, .class_ 597), (0, u "java/util/HashMap$EntrySpliterator"), (0, .class_ 599), (0, u "java/util/HashMap$ValueSpliterator"), (0, .class_ 601), (0, u "java/util/HashMap$KeySpliterator"), (0, .class_ 603), (0, u "java/util/HashMap$HashMapSpliterator"), (0, .class_ 605), (0, u "java/util/HashMap$EntryIterator"), (0, .class_ 607), (0, u "java/util/HashMap$ValueIterator"), (0, .class_ 609), (0, u "java/util/HashMap$KeyIterator"), (0, .class_ 611), (0, u "java/util/HashMap$HashIterator")] 17

def k21c0 : Code := { maxStack := 2, maxLocals := 1, code := jdk_69_method_7_code, exceptionTable := #[], attributes := #[] }
def k21m0 : Method := { name := "<init>", desc := "()V", sig := { parameters := [], returnType := none }, accessFlags := 1, code := some k21c0 }
/-- java/util/HashMap -/
def k21 : Class := { plain "java/util/HashMap" (some 20) with
  accessFlags := 33
  interfaces := #[19, 16, 2]
  cf := some (fileOf pool21 40 #[.nestMembers #[180, 596, 598, 600, 602, 604, 606, 608, 610, 346, 268, 263, 243, 163]] #[{ accessFlags := 1, nameIndex := 47, descriptorIndex := 48, attributes := #[] }] 33 44 #[101, 392, 394] #[{ accessFlags := 26, nameIndex := 396, descriptorIndex := 397, attributes := #[] }, { accessFlags := 24, nameIndex := 401, descriptorIndex := 91, attributes := #[] }, { accessFlags := 24, nameIndex := 403, descriptorIndex := 91, attributes := #[] }, { accessFlags := 24, nameIndex := 404, descriptorIndex := 84, attributes := #[] }, { accessFlags := 24, nameIndex := 405, descriptorIndex := 91, attributes := #[] }, { accessFlags := 24, nameIndex := 407, descriptorIndex := 91, attributes := #[] }, { accessFlags := 24, nameIndex := 409, descriptorIndex := 91, attributes := #[] }, { accessFlags := 128, nameIndex := 107, descriptorIndex := 108, attributes := #[] }, { accessFlags := 128, nameIndex := 123, descriptorIndex := 242, attributes := #[] }, { accessFlags := 128, nameIndex := 104, descriptorIndex := 91, attributes := #[] }, { accessFlags := 128, nameIndex := 204, descriptorIndex := 91, attributes := #[] }, { accessFlags := 0, nameIndex := 90, descriptorIndex := 91, attributes := #[] }, { accessFlags := 16, nameIndex := 83, descriptorIndex := 84, attributes := #[] }])
  fields := #[{ name := "serialVersionUID", type := .long, accessFlags := 26, slot := 0, constantValue := 0 }, { name := "DEFAULT_INITIAL_CAPACITY", type := .int, accessFlags := 24, slot := 1, constantValue := 0 }, { name := "MAXIMUM_CAPACITY", type := .int, accessFlags := 24, slot := 2, constantValue := 0 }, { name := "DEFAULT_LOAD_FACTOR", type := .float, accessFlags := 24, slot := 3, constantValue := 0 }, { name := "TREEIFY_THRESHOLD", type := .int, accessFlags := 24, slot := 4, constantValue := 0 }, { name := "UNTREEIFY_THRESHOLD", type := .int, accessFlags := 24, slot := 5, constantValue := 0 }, { name := "MIN_TREEIFY_CAPACITY", type := .int, accessFlags := 24, slot := 6, constantValue := 0 }, { name := "table", type := (.array (.object "java/util/HashMap$Node")), accessFlags := 128, slot := 2, constantValue := 0 }, { name := "entrySet", type := (.object "java/util/Set"), accessFlags := 128, slot := 3, constantValue := 0 }, { name := "size", type := .int, accessFlags := 128, slot := 4, constantValue := 0 }, { name := "modCount", type := .int, accessFlags := 128, slot := 5, constantValue := 0 }, { name := "threshold", type := .int, accessFlags := 0, slot := 6, constantValue := 0 }, { name := "loadFactor", type := .float, accessFlags := 16, slot := 7, constantValue := 0 }]
  methods := #[k21m0]
  instanceTypes := #[(.object "java/util/Set"), (.object "java/util/Collection"), (.array (.object "java/util/HashMap$Node")), (.object "java/util/Set"), .int, .int, .int, .float]
  staticTypes := #[.long, .int, .int, .float, .int, .int, .int]
  resolved := Array.replicate 629 none
  statics := none }

def pool22 : Array CpInfo := pool [(2, .class_ 4), (1, u "java/util/SequencedMap"), (38, .class_ 44), (0, u "java/util/SequencedMap$1SeqKeySet"), (3, .class_ 49), (0, u "java/util/SequencedMap$1SeqValues"), (1, .class_ 52), (0, u "java/util/SequencedMap$1SeqEntrySet"), (1, .class_ 55), (0, u "java/lang/Object"), (0, .class_ 57), (0, u "java/util/Map")] 48

/-- java/util/SequencedMap -/
def k22 : Class := { plain "java/util/SequencedMap" (some 0) with
  accessFlags := 1537
  interfaces := #[19]
  cf := some (fileOf pool22 2 #[.nestMembers #[51, 48, 43]] #[] 1537 54 #[56] #[])
  fields := #[]
  methods := #[]
  instanceTypes := #[]
  staticTypes := #[]
  resolved := Array.replicate 106 none
  statics := none }

def pool23 : Array CpInfo := pool [(1, .fieldref 2 3), (0, .class_ 4), (0, .nameAndType 5 6), (0, u "java/util/LinkedHashMap"), (0, u "putMode"), (0, u "I"), (2, u "head"), (0, u "Ljava/util/LinkedHashMap$Entry;"), (2, u "tail"), (1, .class_ 17), (1, u "java/util/LinkedHashMap$Entry"), (5, .class_ 25), (1, u "java/util/HashMap"), (1, u "()V"), (2, u "<init>"), (33, .fieldref 2 65), (0, .nameAndType 66 67), (0, u "accessOrder"), (0, u "Z"), (19, .methodref 23 88), (0, .nameAndType 30 27), (27, u "()Ljava/util/SequencedSet;"), (3, u "Ljava/util/Set;"), (0, .class_ 122), (0, u "java/util/LinkedHashMap$LinkedKeySet"), (1, .nameAndType 30 125), (0, u "(Ljava/util/LinkedHashMap;Z)V"), (17, .class_ 144), (0, u "java/util/LinkedHashMap$LinkedValues"), (3, .methodref 2 149), (0, .nameAndType 150 116), (0, u "sequencedEntrySet"), (0, .fieldref 2 152), (0, .nameAndType 153 120), (0, u "entrySet"), (0, .class_ 155), (0, u "java/util/LinkedHashMap$LinkedEntrySet"), (0, .methodref 154 124), (43, .class_ 201), (0, u "java/util/LinkedHashMap$ReversedLinkedHashMapView"), (3, .class_ 206), (0, u "java/util/SequencedMap"), (0, u "serialVersionUID"), (0, u "J"), (5, u "PUT_NORM"), (1, u "PUT_FIRST"), (1, u "PUT_LAST"), (79, u "()Ljava/util/Set;"), (63, .class_ 363), (0, u "java/util/LinkedHashMap$LinkedEntryIterator"), (0, .class_ 365), (0, u "java/util/LinkedHashMap$LinkedValueIterator"), (0, .class_ 367), (0, u "java/util/LinkedHashMap$LinkedKeyIterator"), (0, .class_ 369), (0, u "java/util/LinkedHashMap$LinkedHashIterator")] 16

def k23c0 : Code := { maxStack := 2, maxLocals := 1, code := jdk_94_method_16_code, exceptionTable := #[], attributes := #[] }
def k23m0 : Method := { name := "<init>", desc := "()V", sig := { parameters := [], returnType := none }, accessFlags := 1, code := some k23c0 }
def k23c1 : Code := { maxStack := 1, maxLocals := 1, code := jdk_94_method_32_code, exceptionTable := #[], attributes := #[] }
def k23m1 : Method := { name := "entrySet", desc := "()Ljava/util/Set;", sig := { parameters := [], returnType := some (.object "java/util/Set") }, accessFlags := 1, code := some k23c1 }
def k23c2 : Code := { maxStack := 4, maxLocals := 3, code := jdk_94_method_33_code, exceptionTable := #[], attributes := #[] }
def k23m2 : Method := { name := "sequencedEntrySet", desc := "()Ljava/util/SequencedSet;", sig := { parameters := [], returnType := some (.object "java/util/SequencedSet") }, accessFlags := 1, code := some k23c2 }
/-- java/util/LinkedHashMap -/
def k23 : Class := { plain "java/util/LinkedHashMap" (some 21) with
  accessFlags := 33
  interfaces := #[22]
  cf := some (fileOf pool23 2 #[.nestMembers #[200, 362, 364, 366, 368, 154, 143, 121, 15]] #[{ accessFlags := 1, nameIndex := 30, descriptorIndex := 27, attributes := #[] }, { accessFlags := 1, nameIndex := 153, descriptorIndex := 298, attributes := #[] }, { accessFlags := 1, nameIndex := 150, descriptorIndex := 116, attributes := #[] }] 33 23 #[205] #[{ accessFlags := 26, nameIndex := 207, descriptorIndex := 208, attributes := #[] }, { accessFlags := 128, nameIndex := 9, descriptorIndex := 10, attributes := #[] }, { accessFlags := 128, nameIndex := 13, descriptorIndex := 10, attributes := #[] }, { accessFlags := 16, nameIndex := 66, descriptorIndex := 67, attributes := #[] }, { accessFlags := 24, nameIndex := 214, descriptorIndex := 6, attributes := #[] }, { accessFlags := 24, nameIndex := 216, descriptorIndex := 6, attributes := #[] }, { accessFlags := 24, nameIndex := 218, descriptorIndex := 6, attributes := #[] }, { accessFlags := 128, nameIndex := 5, descriptorIndex := 6, attributes := #[] }])
  fields := #[{ name := "serialVersionUID", type := .long, accessFlags := 26, slot := 0, constantValue := 0 }, { name := "head", type := (.object "java/util/LinkedHashMap$Entry"), accessFlags := 128, slot := 8, constantValue := 0 }, { name := "tail", type := (.object "java/util/LinkedHashMap$Entry"), accessFlags := 128, slot := 9, constantValue := 0 }, { name := "accessOrder", type := .boolean, accessFlags := 16, slot := 10, constantValue := 0 }, { name := "PUT_NORM", type := .int, accessFlags := 24, slot := 1, constantValue := 0 }, { name := "PUT_FIRST", type := .int, accessFlags := 24, slot := 2, constantValue := 0 }, { name := "PUT_LAST", type := .int, accessFlags := 24, slot := 3, constantValue := 0 }, { name := "putMode", type := .int, accessFlags := 128, slot := 11, constantValue := 0 }]
  methods := #[k23m0, k23m1, k23m2]
  instanceTypes := #[(.object "java/util/Set"), (.object "java/util/Collection"), (.array (.object "java/util/HashMap$Node")), (.object "java/util/Set"), .int, .int, .int, .float, (.object "java/util/LinkedHashMap$Entry"), (.object "java/util/LinkedHashMap$Entry"), .boolean, .int]
  staticTypes := #[.long, .int, .int, .int]
  resolved := Array.replicate 386 none
  mirror := some 2
  statics := none }

def pool24 : Array CpInfo := pool [(16, .class_ 18), (1, u "java/util/Iterator"), (0, u "hasNext"), (0, u "()Z"), (10, .class_ 32), (0, u "java/lang/Object")] 20

def k24m0 : Method := { name := "hasNext", desc := "()Z", sig := { parameters := [], returnType := some .boolean }, accessFlags := 1025, code := none }
/-- java/util/Iterator -/
def k24 : Class := { plain "java/util/Iterator" (some 0) with
  accessFlags := 1537
  interfaces := #[]
  cf := some (fileOf pool24 16 #[] #[{ accessFlags := 1025, nameIndex := 19, descriptorIndex := 20, attributes := #[] }] 1537 31 #[] #[])
  fields := #[]
  methods := #[k24m0]
  instanceTypes := #[]
  staticTypes := #[]
  resolved := Array.replicate 53 none
  statics := none }

def pool25 : Array CpInfo := pool [(1, .fieldref 2 3), (0, .class_ 4), (0, .nameAndType 5 6), (0, u "java/util/ArrayList$Itr"), (0, u "this$0"), (0, u "Ljava/util/ArrayList;"), (0, .methodref 8 9), (0, .class_ 10), (0, .nameAndType 11 12), (0, u "java/lang/Object"), (0, u "<init>"), (0, u "()V"), (0, .fieldref 2 14), (0, .nameAndType 15 16), (0, u "lastRet"), (0, u "I"), (0, .fieldref 18 19), (0, .class_ 20), (0, .nameAndType 21 16), (0, u "java/util/ArrayList"), (0, u "modCount"), (0, .fieldref 2 23), (0, .nameAndType 24 16), (0, u "expectedModCount"), (0, .fieldref 2 26), (0, .nameAndType 27 16), (0, u "cursor"), (0, .fieldref 18 29), (0, .nameAndType 30 16), (0, u "size"), (38, .class_ 70), (0, u "java/util/Iterator"), (0, u "(Ljava/util/ArrayList;)V"), (8, u "hasNext"), (0, u "()Z")] 22

def k25c0 : Code := { maxStack := 2, maxLocals := 2, code := jdk_49_method_1_code, exceptionTable := #[], attributes := #[] }
def k25m0 : Method := { name := "<init>", desc := "(Ljava/util/ArrayList;)V", sig := { parameters := [(.object "java/util/ArrayList")], returnType := none }, accessFlags := 0, code := some k25c0 }
def k25c1 : Code := { maxStack := 2, maxLocals := 1, code := jdk_49_method_2_code, exceptionTable := #[], attributes := #[] }
def k25m1 : Method := { name := "hasNext", desc := "()Z", sig := { parameters := [], returnType := some .boolean }, accessFlags := 1, code := some k25c1 }
/-- java/util/ArrayList$Itr -/
def k25 : Class := { plain "java/util/ArrayList$Itr" (some 0) with
  accessFlags := 32
  interfaces := #[24]
  cf := some (fileOf pool25 2 #[.nestHost 18] #[{ accessFlags := 0, nameIndex := 11, descriptorIndex := 71, attributes := #[] }, { accessFlags := 1, nameIndex := 80, descriptorIndex := 81, attributes := #[] }] 32 8 #[69] #[{ accessFlags := 0, nameIndex := 27, descriptorIndex := 16, attributes := #[] }, { accessFlags := 0, nameIndex := 15, descriptorIndex := 16, attributes := #[] }, { accessFlags := 0, nameIndex := 24, descriptorIndex := 16, attributes := #[] }, { accessFlags := 4112, nameIndex := 5, descriptorIndex := 6, attributes := #[] }])
  fields := #[{ name := "cursor", type := .int, accessFlags := 0, slot := 0, constantValue := 0 }, { name := "lastRet", type := .int, accessFlags := 0, slot := 1, constantValue := 0 }, { name := "expectedModCount", type := .int, accessFlags := 0, slot := 2, constantValue := 0 }, { name := "this$0", type := (.object "java/util/ArrayList"), accessFlags := 4112, slot := 3, constantValue := 0 }]
  methods := #[k25m0, k25m1]
  instanceTypes := #[.int, .int, .int, (.object "java/util/ArrayList")]
  staticTypes := #[]
  resolved := Array.replicate 104 none
  statics := none }

def pool26 : Array CpInfo := pool [(2, .class_ 4), (1, u "java/lang/Object"), (0, u "<init>"), (0, u "()V"), (12, .class_ 20), (0, u "java/util/Collections"), (63, u "r"), (0, u "Ljava/util/Random;"), (77, .nameAndType 164 165), (0, u "getClass"), (0, u "()Ljava/lang/Class;"), (0, .class_ 167), (0, u "java/util/Collections$UnmodifiableCollection"), (6, .class_ 175), (0, u "java/util/Collections$UnmodifiableSequencedCollection"), (6, .class_ 183), (0, u "java/util/Collections$UnmodifiableSet"), (6, .class_ 191), (0, u "java/util/Collections$UnmodifiableSequencedSet"), (6, .class_ 199), (0, u "java/util/Collections$UnmodifiableSortedSet"), (6, .class_ 207), (0, u "java/util/Collections$UnmodifiableNavigableSet"), (4, .class_ 213), (0, u "java/util/Collections$UnmodifiableList"), (1, .class_ 216), (0, u "java/util/Collections$UnmodifiableRandomAccessList"), (3, .interfaceMethodref 221 163), (0, .class_ 222), (0, u "java/util/Map"), (0, .class_ 224), (0, u "java/util/Collections$UnmodifiableMap"), (0, .methodref 223 226), (0, .nameAndType 5 227), (0, u "(Ljava/util/Map;)V"), (3, .class_ 232), (0, u "java/util/Collections$UnmodifiableSequencedMap"), (4, .class_ 238), (0, u "java/util/Collections$UnmodifiableSortedMap"), (6, .class_ 246), (0, u "java/util/Collections$UnmodifiableNavigableMap"), (3, .class_ 251), (0, u "java/util/Collections$SynchronizedCollection"), (4, .class_ 257), (0, u "java/util/Collections$SynchronizedSet"), (4, .class_ 263), (0, u "java/util/Collections$SynchronizedSortedSet"), (1, .class_ 266), (0, u "java/util/Collections$SynchronizedNavigableSet"), (1, .class_ 269), (0, u "java/util/Collections$SynchronizedRandomAccessList"), (1, .class_ 272), (0, u "java/util/Collections$SynchronizedList"), (5, .class_ 279), (0, u "java/util/Collections$SynchronizedMap"), (1, .class_ 282), (0, u "java/util/Collections$SynchronizedSortedMap"), (1, .class_ 285), (0, u "java/util/Collections$SynchronizedNavigableMap"), (1, .class_ 288), (0, u "java/util/Collections$CheckedCollection"), (11, .class_ 301), (0, u "java/util/Collections$CheckedQueue"), (3, .class_ 306), (0, u "java/util/Collections$CheckedSet"), (3, .class_ 311), (0, u "java/util/Collections$CheckedSortedSet"), (3, .class_ 316), (0, u "java/util/Collections$CheckedNavigableSet"), (3, .class_ 321), (0, u "java/util/Collections$CheckedRandomAccessList"), (3, .class_ 326), (0, u "java/util/Collections$CheckedList"), (1, .class_ 329), (0, u "java/util/Collections$CheckedMap"), (3, .class_ 334), (0, u "java/util/Collections$CheckedSortedMap"), (3, .class_ 339), (0, u "java/util/Collections$CheckedNavigableMap"), (4, .class_ 346), (1, u "java/util/Collections$EmptyIterator"), (3, .class_ 352), (1, u "java/util/Collections$EmptyListIterator"), (2, .class_ 357), (1, u "java/util/Collections$EmptyEnumeration"), (4, u "EMPTY_SET"), (0, u "Ljava/util/Set;"), (6, u "EMPTY_LIST"), (0, u "Ljava/util/List;"), (2, u "EMPTY_MAP"), (0, u "Ljava/util/Map;"), (4, .class_ 381), (0, u "java/util/Collections$SingletonSet"), (2, .class_ 385), (0, u "java/util/Collections$1"), (1, .class_ 388), (0, u "java/util/Collections$2"), (1, .class_ 391), (0, u "java/util/Collections$SingletonList"), (1, .class_ 394), (0, u "java/util/Collections$SingletonMap"), (22, .class_ 418), (0, u "java/util/Collections$CopiesList"), (4, .class_ 425), (1, u "java/util/Collections$ReverseComparator"), (8, .class_ 435), (0, u "java/util/Collections$ReverseComparator2"), (6, .class_ 443), (0, u "java/util/Collections$3"), (25, .class_ 470), (0, u "java/util/Collections$SetFromMap"), (2, .class_ 474), (0, u "java/util/Collections$SequencedSetFromMap"), (3, .class_ 479), (0, u "java/util/Collections$AsLIFOQueue"), (11, .class_ 492), (0, u "java/util/Collections$EmptySet"), (1, .class_ 495), (0, u "java/util/Collections$EmptyList"), (1, .class_ 498), (0, u "java/util/Collections$EmptyMap"), (1, u "BINARYSEARCH_THRESHOLD"), (0, u "I"), (2, u "REVERSE_THRESHOLD"), (1, u "SHUFFLE_THRESHOLD"), (1, u "FILL_THRESHOLD"), (1, u "ROTATE_THRESHOLD"), (1, u "COPY_THRESHOLD"), (1, u "REPLACEALL_THRESHOLD"), (1, u "INDEXOFSUBLIST_THRESHOLD"), (132, u "unmodifiableMap"), (0, u "(Ljava/util/Map;)Ljava/util/Map;"), (199, .class_ 851), (0, u "java/util/Collections$CheckedMap$CheckedEntrySet"), (0, .class_ 853), (0, u "java/util/Collections$CheckedMap$CheckedEntrySet$CheckedEntry"), (0, .class_ 855), (0, u "java/util/Collections$CheckedMap$CheckedEntrySet$1"), (0, .class_ 857), (0, u "java/util/Collections$CheckedList$1"), (0, .class_ 859), (0, u "java/util/Collections$CheckedCollection$1"), (0, .class_ 861), (0, u "java/util/Collections$UnmodifiableNavigableMap$EmptyNavigableMap"), (0, .class_ 863), (0, u "java/util/Collections$UnmodifiableMap$UnmodifiableEntrySet"), (0, .class_ 865), (0, u "java/util/Collections$UnmodifiableMap$UnmodifiableEntrySet$UnmodifiableEntry"), (0, .class_ 867), (0, u "java/util/Collections$UnmodifiableMap$UnmodifiableEntrySet$UnmodifiableEntrySetSpliterator"), (0, .class_ 869), (0, u "java/util/Collections$UnmodifiableMap$UnmodifiableEntrySet$1"), (0, .class_ 871), (0, u "java/util/Collections$UnmodifiableList$1"), (0, .class_ 873), (0, u "java/util/Collections$UnmodifiableNavigableSet$EmptyNavigableSet"), (0, .class_ 875), (0, u "java/util/Collections$UnmodifiableCollection$1")] 57

def k26m0 : Method := { name := "<init>", desc := "()V", sig := { parameters := [], returnType := none }, accessFlags := 2, code := none }
def k26c1 : Code := { maxStack := 3, maxLocals := 1, code := jdk_79_method_36_code, exceptionTable := #[], attributes := #[] }
def k26m1 : Method := { name := "unmodifiableMap", desc := "(Ljava/util/Map;)Ljava/util/Map;", sig := { parameters := [(.object "java/util/Map")], returnType := some (.object "java/util/Map") }, accessFlags := 9, code := some k26c1 }
/-- java/util/Collections -/
def k26 : Class := { plain "java/util/Collections" (some 0) with
  accessFlags := 33
  interfaces := #[]
  cf := some (fileOf pool26 19 #[.nestMembers #[478, 473, 469, 434, 423, 417, 393, 390, 380, 497, 494, 491, 355, 350, 344, 338, 333, 328, 850, 852, 854, 320, 325, 856, 315, 310, 305, 300, 287, 858, 284, 281, 278, 268, 271, 265, 262, 256, 250, 245, 860, 237, 231, 223, 862, 864, 866, 868, 215, 212, 870, 206, 872, 198, 190, 182, 174, 166, 874, 442, 387, 384]] #[{ accessFlags := 2, nameIndex := 5, descriptorIndex := 6, attributes := #[] }, { accessFlags := 9, nameIndex := 649, descriptorIndex := 650, attributes := #[] }] 33 2 #[] #[{ accessFlags := 26, nameIndex := 500, descriptorIndex := 501, attributes := #[] }, { accessFlags := 26, nameIndex := 504, descriptorIndex := 501, attributes := #[] }, { accessFlags := 26, nameIndex := 506, descriptorIndex := 501, attributes := #[] }, { accessFlags := 26, nameIndex := 508, descriptorIndex := 501, attributes := #[] }, { accessFlags := 26, nameIndex := 510, descriptorIndex := 501, attributes := #[] }, { accessFlags := 26, nameIndex := 512, descriptorIndex := 501, attributes := #[] }, { accessFlags := 26, nameIndex := 514, descriptorIndex := 501, attributes := #[] }, { accessFlags := 26, nameIndex := 516, descriptorIndex := 501, attributes := #[] }, { accessFlags := 10, nameIndex := 84, descriptorIndex := 85, attributes := #[] }, { accessFlags := 25, nameIndex := 362, descriptorIndex := 363, attributes := #[] }, { accessFlags := 25, nameIndex := 370, descriptorIndex := 371, attributes := #[] }, { accessFlags := 25, nameIndex := 374, descriptorIndex := 375, attributes := #[] }])
  fields := #[{ name := "BINARYSEARCH_THRESHOLD", type := .int, accessFlags := 26, slot := 0, constantValue := 0 }, { name := "REVERSE_THRESHOLD", type := .int, accessFlags := 26, slot := 1, constantValue := 0 }, { name := "SHUFFLE_THRESHOLD", type := .int, accessFlags := 26, slot := 2, constantValue := 0 }, { name := "FILL_THRESHOLD", type := .int, accessFlags := 26, slot := 3, constantValue := 0 }, { name := "ROTATE_THRESHOLD", type := .int, accessFlags := 26, slot := 4, constantValue := 0 }, { name := "COPY_THRESHOLD", type := .int, accessFlags := 26, slot := 5, constantValue := 0 }, { name := "REPLACEALL_THRESHOLD", type := .int, accessFlags := 26, slot := 6, constantValue := 0 }, { name := "INDEXOFSUBLIST_THRESHOLD", type := .int, accessFlags := 26, slot := 7, constantValue := 0 }, { name := "r", type := (.object "java/util/Random"), accessFlags := 10, slot := 8, constantValue := 0 }, { name := "EMPTY_SET", type := (.object "java/util/Set"), accessFlags := 25, slot := 9, constantValue := 0 }, { name := "EMPTY_LIST", type := (.object "java/util/List"), accessFlags := 25, slot := 10, constantValue := 0 }, { name := "EMPTY_MAP", type := (.object "java/util/Map"), accessFlags := 25, slot := 11, constantValue := 0 }]
  methods := #[k26m0, k26m1]
  instanceTypes := #[]
  staticTypes := #[.int, .int, .int, .int, .int, .int, .int, .int, (.object "java/util/Random"), (.object "java/util/Set"), (.object "java/util/List"), (.object "java/util/Map")]
  resolved := Array.replicate 933 none
  statics := none }

def pool27 : Array CpInfo := pool [(1, .methodref 2 3), (0, .class_ 4), (0, .nameAndType 5 6), (0, u "java/lang/Object"), (0, u "<init>"), (0, u "()V"), (3, .fieldref 11 12), (0, .class_ 13), (0, .nameAndType 14 15), (0, u "java/util/Collections$UnmodifiableMap"), (0, u "m"), (0, u "Ljava/util/Map;"), (1, .class_ 19), (1, u "java/util/Map"), (22, u "keySet"), (0, u "Ljava/util/Set;"), (2, u "()Ljava/util/Set;"), (1, .class_ 50), (1, u "java/util/Collections"), (2, .fieldref 11 54), (0, .nameAndType 55 43), (0, u "entrySet"), (0, .class_ 57), (0, u "java/util/Collections$UnmodifiableMap$UnmodifiableEntrySet"), (0, .interfaceMethodref 17 59), (0, .nameAndType 55 46), (0, .methodref 56 61), (0, .nameAndType 5 62), (0, u "(Ljava/util/Set;)V"), (2, u "values"), (0, u "Ljava/util/Collection;"), (25, .class_ 93), (0, u "java/io/Serializable"), (0, u "serialVersionUID"), (0, u "J"), (8, u "(Ljava/util/Map;)V")] 70

def k27c0 : Code := { maxStack := 2, maxLocals := 2, code := jdk_2500_method_1_code, exceptionTable := #[], attributes := #[] }
def k27m0 : Method := { name := "<init>", desc := "(Ljava/util/Map;)V", sig := { parameters := [(.object "java/util/Map")], returnType := none }, accessFlags := 0, code := some k27c0 }
def k27c1 : Code := { maxStack := 4, maxLocals := 1, code := jdk_2500_method_12_code, exceptionTable := #[], attributes := #[] }
def k27m1 : Method := { name := "entrySet", desc := "()Ljava/util/Set;", sig := { parameters := [], returnType := some (.object "java/util/Set") }, accessFlags := 1, code := some k27c1 }
/-- java/util/Collections$UnmodifiableMap -/
def k27 : Class := { plain "java/util/Collections$UnmodifiableMap" (some 0) with
  accessFlags := 32
  interfaces := #[19, 2]
  cf := some (fileOf pool27 11 #[.nestHost 48] #[{ accessFlags := 0, nameIndex := 5, descriptorIndex := 104, attributes := #[] }, { accessFlags := 1, nameIndex := 55, descriptorIndex := 46, attributes := #[] }] 32 2 #[17, 92] #[{ accessFlags := 26, nameIndex := 94, descriptorIndex := 95, attributes := #[] }, { accessFlags := 16, nameIndex := 14, descriptorIndex := 15, attributes := #[] }, { accessFlags := 130, nameIndex := 42, descriptorIndex := 43, attributes := #[] }, { accessFlags := 130, nameIndex := 55, descriptorIndex := 43, attributes := #[] }, { accessFlags := 130, nameIndex := 65, descriptorIndex := 66, attributes := #[] }])
  fields := #[{ name := "serialVersionUID", type := .long, accessFlags := 26, slot := 0, constantValue := 0 }, { name := "m", type := (.object "java/util/Map"), accessFlags := 16, slot := 0, constantValue := 0 }, { name := "keySet", type := (.object "java/util/Set"), accessFlags := 130, slot := 1, constantValue := 0 }, { name := "entrySet", type := (.object "java/util/Set"), accessFlags := 130, slot := 2, constantValue := 0 }, { name := "values", type := (.object "java/util/Collection"), accessFlags := 130, slot := 3, constantValue := 0 }]
  methods := #[k27m0, k27m1]
  instanceTypes := #[(.object "java/util/Map"), (.object "java/util/Set"), (.object "java/util/Set"), (.object "java/util/Collection")]
  staticTypes := #[.long]
  resolved := Array.replicate 175 none
  mirror := some 3
  statics := none }

def pool28 : Array CpInfo := pool [(1, .methodref 2 3), (0, .class_ 4), (0, .nameAndType 5 6), (0, u "java/lang/Object"), (0, u "<init>"), (0, u "()V"), (0, .methodref 8 9), (0, .class_ 10), (0, .nameAndType 11 12), (0, u "com/example/phone_conformance_check/phoneconformancecheck/report/CheckedCapture"), (0, u "getReport"), (0, u "()Ljava/util/Optional;"), (0, .methodref 14 15), (0, .class_ 16), (0, .nameAndType 17 18), (0, u "java/util/Optional"), (0, u "isEmpty"), (0, u "()Z"), (0, .fieldref 20 21), (0, .class_ 22), (0, .nameAndType 23 24), (0, u "com/example/phone_conformance_check/phoneconformancecheck/report/Total"), (0, u "unusable"), (0, u "I"), (0, .methodref 14 26), (0, .nameAndType 27 28), (0, u "get"), (0, u "()Ljava/lang/Object;"), (0, .class_ 30), (0, u "com/example/phone_conformance_check/phoneconformancecheck/judging/Report"), (0, .methodref 29 32), (0, .nameAndType 33 18), (0, u "failsAMust"), (0, .fieldref 20 35), (0, .nameAndType 36 24), (0, u "failed"), (0, .fieldref 20 38), (0, .nameAndType 39 24), (0, u "passed"), (2, u "add"), (0, u "(Lcom/example/phone_conformance_check/phoneconformancecheck/report/CheckedCapture;)V"), (1, u "getCaptures"), (0, u "()I")] 5

def k28c0 : Code := { maxStack := 1, maxLocals := 1, code := prog_42_method_1_code, exceptionTable := #[], attributes := #[] }
def k28m0 : Method := { name := "<init>", desc := "()V", sig := { parameters := [], returnType := none }, accessFlags := 1, code := some k28c0 }
def k28c1 : Code := { maxStack := 3, maxLocals := 2, code := prog_42_method_2_code, exceptionTable := #[], attributes := #[] }
def k28m1 : Method := { name := "add", desc := "(Lcom/example/phone_conformance_check/phoneconformancecheck/report/CheckedCapture;)V", sig := { parameters := [(.object "com/example/phone_conformance_check/phoneconformancecheck/report/CheckedCapture")], returnType := none }, accessFlags := 1, code := some k28c1 }
def k28c2 : Code := { maxStack := 2, maxLocals := 1, code := prog_42_method_3_code, exceptionTable := #[], attributes := #[] }
def k28m2 : Method := { name := "getCaptures", desc := "()I", sig := { parameters := [], returnType := some .int }, accessFlags := 1, code := some k28c2 }
/-- com/example/phone_conformance_check/phoneconformancecheck/report/Total -/
def k28 : Class := { plain "com/example/phone_conformance_check/phoneconformancecheck/report/Total" (some 0) with
  accessFlags := 33
  interfaces := #[]
  cf := some (fileOf pool28 20 #[] #[{ accessFlags := 1, nameIndex := 5, descriptorIndex := 6, attributes := #[] }, { accessFlags := 1, nameIndex := 42, descriptorIndex := 43, attributes := #[] }, { accessFlags := 1, nameIndex := 45, descriptorIndex := 46, attributes := #[] }] 33 2 #[] #[{ accessFlags := 2, nameIndex := 39, descriptorIndex := 24, attributes := #[] }, { accessFlags := 2, nameIndex := 36, descriptorIndex := 24, attributes := #[] }, { accessFlags := 2, nameIndex := 23, descriptorIndex := 24, attributes := #[] }])
  fields := #[{ name := "passed", type := .int, accessFlags := 2, slot := 0, constantValue := 0 }, { name := "failed", type := .int, accessFlags := 2, slot := 1, constantValue := 0 }, { name := "unusable", type := .int, accessFlags := 2, slot := 2, constantValue := 0 }]
  methods := #[k28m0, k28m1, k28m2]
  instanceTypes := #[.int, .int, .int]
  staticTypes := #[]
  resolved := Array.replicate 52 none
  statics := none }

def pool29 : Array CpInfo := pool [(1, .fieldref 2 3), (0, .class_ 4), (0, .nameAndType 5 6), (0, u "java/util/Optional"), (0, u "EMPTY"), (0, u "Ljava/util/Optional;"), (0, .methodref 8 9), (0, .class_ 10), (0, .nameAndType 11 12), (0, u "java/lang/Object"), (0, u "<init>"), (0, u "()V"), (0, .fieldref 2 14), (0, .nameAndType 15 16), (0, u "value"), (0, u "Ljava/lang/Object;"), (6, .methodref 2 24), (0, .nameAndType 11 25), (0, u "(Ljava/lang/Object;)V"), (19, u "isEmpty"), (0, u "()Z"), (17, u "ofNullable"), (0, u "(Ljava/lang/Object;)Ljava/util/Optional;"), (7, u "get"), (0, u "()Ljava/lang/Object;")] 112

def k29c0 : Code := { maxStack := 2, maxLocals := 2, code := jdk_32_method_2_code, exceptionTable := #[], attributes := #[] }
def k29m0 : Method := { name := "<init>", desc := "(Ljava/lang/Object;)V", sig := { parameters := [(.object "java/lang/Object")], returnType := none }, accessFlags := 2, code := some k29c0 }
def k29c1 : Code := { maxStack := 3, maxLocals := 1, code := jdk_32_method_4_code, exceptionTable := #[], attributes := #[] }
def k29m1 : Method := { name := "ofNullable", desc := "(Ljava/lang/Object;)Ljava/util/Optional;", sig := { parameters := [(.object "java/lang/Object")], returnType := some (.object "java/util/Optional") }, accessFlags := 9, code := some k29c1 }
def k29c2 : Code := { maxStack := 3, maxLocals := 1, code := jdk_32_method_5_code, exceptionTable := #[], attributes := #[] }
def k29m2 : Method := { name := "get", desc := "()Ljava/lang/Object;", sig := { parameters := [], returnType := some (.object "java/lang/Object") }, accessFlags := 1, code := some k29c2 }
def k29c3 : Code := { maxStack := 1, maxLocals := 1, code := jdk_32_method_7_code, exceptionTable := #[], attributes := #[] }
def k29m3 : Method := { name := "isEmpty", desc := "()Z", sig := { parameters := [], returnType := some .boolean }, accessFlags := 1, code := some k29c3 }
/-- java/util/Optional -/
def k29 : Class := { plain "java/util/Optional" (some 0) with
  accessFlags := 49
  interfaces := #[]
  cf := some (fileOf pool29 2 #[] #[{ accessFlags := 2, nameIndex := 11, descriptorIndex := 25, attributes := #[] }, { accessFlags := 9, nameIndex := 64, descriptorIndex := 65, attributes := #[] }, { accessFlags := 1, nameIndex := 73, descriptorIndex := 74, attributes := #[] }, { accessFlags := 1, nameIndex := 45, descriptorIndex := 46, attributes := #[] }] 49 8 #[] #[{ accessFlags := 26, nameIndex := 5, descriptorIndex := 6, attributes := #[] }, { accessFlags := 18, nameIndex := 15, descriptorIndex := 16, attributes := #[] }])
  fields := #[{ name := "EMPTY", type := (.object "java/util/Optional"), accessFlags := 26, slot := 0, constantValue := 0 }, { name := "value", type := (.object "java/lang/Object"), accessFlags := 18, slot := 0, constantValue := 0 }]
  methods := #[k29m0, k29m1, k29m2, k29m3]
  instanceTypes := #[(.object "java/lang/Object")]
  staticTypes := #[(.object "java/util/Optional")]
  resolved := Array.replicate 187 none
  statics := some 1 }

def pool30 : Array CpInfo := pool [(1, .methodref 2 3), (0, .class_ 4), (0, .nameAndType 5 6), (0, u "java/lang/Object"), (0, u "<init>"), (0, u "()V"), (3, .fieldref 11 12), (0, .class_ 13), (0, .nameAndType 14 15), (0, u "java/util/Collections$UnmodifiableCollection"), (0, u "c"), (0, u "Ljava/util/Collection;"), (1, .class_ 19), (1, u "java/util/Collection"), (51, .class_ 72), (0, u "java/io/Serializable"), (0, u "serialVersionUID"), (0, u "J"), (5, u "(Ljava/util/Collection;)V"), (51, .class_ 133), (0, u "java/util/Collections")] 2

def k30c0 : Code := { maxStack := 2, maxLocals := 2, code := jdk_119_method_1_code, exceptionTable := #[], attributes := #[] }
def k30m0 : Method := { name := "<init>", desc := "(Ljava/util/Collection;)V", sig := { parameters := [(.object "java/util/Collection")], returnType := none }, accessFlags := 0, code := some k30c0 }
/-- java/util/Collections$UnmodifiableCollection -/
def k30 : Class := { plain "java/util/Collections$UnmodifiableCollection" (some 0) with
  accessFlags := 32
  interfaces := #[10, 2]
  cf := some (fileOf pool30 11 #[.nestHost 132] #[{ accessFlags := 0, nameIndex := 5, descriptorIndex := 80, attributes := #[] }] 32 2 #[17, 71] #[{ accessFlags := 26, nameIndex := 73, descriptorIndex := 74, attributes := #[] }, { accessFlags := 16, nameIndex := 14, descriptorIndex := 15, attributes := #[] }])
  fields := #[{ name := "serialVersionUID", type := .long, accessFlags := 26, slot := 0, constantValue := 0 }, { name := "c", type := (.object "java/util/Collection"), accessFlags := 16, slot := 0, constantValue := 0 }]
  methods := #[k30m0]
  instanceTypes := #[(.object "java/util/Collection")]
  staticTypes := #[.long]
  resolved := Array.replicate 136 none
  statics := none }

def pool31 : Array CpInfo := pool [(26, .class_ 27), (0, u "java/lang/Object"), (5, .class_ 34), (0, u "java/util/Set"), (1, .class_ 38), (1, u "java/util/Collection"), (22, u "iterator"), (0, u "()Ljava/util/Iterator;")] 81

def k31m0 : Method := { name := "iterator", desc := "()Ljava/util/Iterator;", sig := { parameters := [], returnType := some (.object "java/util/Iterator") }, accessFlags := 1025, code := none }
/-- java/util/Set -/
def k31 : Class := { plain "java/util/Set" (some 0) with
  accessFlags := 1537
  interfaces := #[10]
  cf := some (fileOf pool31 33 #[] #[{ accessFlags := 1025, nameIndex := 61, descriptorIndex := 62, attributes := #[] }] 1537 26 #[36] #[])
  fields := #[]
  methods := #[k31m0]
  instanceTypes := #[]
  staticTypes := #[]
  resolved := Array.replicate 144 none
  statics := none }

def pool32 : Array CpInfo := pool [(1, .methodref 2 3), (0, .class_ 4), (0, .nameAndType 5 6), (0, u "java/util/Collections$UnmodifiableCollection"), (0, u "<init>"), (0, u "(Ljava/util/Collection;)V"), (1, .class_ 10), (1, u "java/util/Collections$UnmodifiableSet"), (12, .class_ 24), (0, u "java/util/Set"), (0, .class_ 26), (0, u "java/io/Serializable"), (0, u "serialVersionUID"), (0, u "J"), (3, u "(Ljava/util/Set;)V"), (19, .class_ 53), (0, u "java/util/Collections")] 3

def k32c0 : Code := { maxStack := 2, maxLocals := 2, code := jdk_122_method_1_code, exceptionTable := #[], attributes := #[] }
def k32m0 : Method := { name := "<init>", desc := "(Ljava/util/Set;)V", sig := { parameters := [(.object "java/util/Set")], returnType := none }, accessFlags := 0, code := some k32c0 }
/-- java/util/Collections$UnmodifiableSet -/
def k32 : Class := { plain "java/util/Collections$UnmodifiableSet" (some 30) with
  accessFlags := 32
  interfaces := #[31, 2]
  cf := some (fileOf pool32 8 #[.nestHost 52] #[{ accessFlags := 0, nameIndex := 5, descriptorIndex := 32, attributes := #[] }] 32 2 #[23, 25] #[{ accessFlags := 26, nameIndex := 27, descriptorIndex := 28, attributes := #[] }])
  fields := #[{ name := "serialVersionUID", type := .long, accessFlags := 26, slot := 0, constantValue := 0 }]
  methods := #[k32m0]
  instanceTypes := #[(.object "java/util/Collection")]
  staticTypes := #[.long]
  resolved := Array.replicate 57 none
  statics := none }

def pool33 : Array CpInfo := pool [(1, .methodref 2 3), (0, .class_ 4), (0, .nameAndType 5 6), (0, u "java/util/Collections$UnmodifiableSet"), (0, u "<init>"), (0, u "(Ljava/util/Set;)V"), (11, .class_ 20), (1, u "java/util/Collections$UnmodifiableMap$UnmodifiableEntrySet"), (27, .class_ 49), (0, u "java/util/Collections$UnmodifiableMap$UnmodifiableEntrySet$1"), (0, .methodref 48 51), (0, .nameAndType 5 52), (0, u "(Ljava/util/Collections$UnmodifiableMap$UnmodifiableEntrySet;)V"), (32, u "iterator"), (0, u "()Ljava/util/Iterator;"), (27, u "serialVersionUID"), (0, u "J"), (49, .class_ 166), (0, u "java/util/Collections")] 29

def k33c0 : Code := { maxStack := 2, maxLocals := 2, code := jdk_2501_method_1_code, exceptionTable := #[], attributes := #[] }
def k33m0 : Method := { name := "<init>", desc := "(Ljava/util/Set;)V", sig := { parameters := [(.object "java/util/Set")], returnType := none }, accessFlags := 0, code := some k33c0 }
def k33c1 : Code := { maxStack := 3, maxLocals := 1, code := jdk_2501_method_7_code, exceptionTable := #[], attributes := #[] }
def k33m1 : Method := { name := "iterator", desc := "()Ljava/util/Iterator;", sig := { parameters := [], returnType := some (.object "java/util/Iterator") }, accessFlags := 1, code := some k33c1 }
/-- java/util/Collections$UnmodifiableMap$UnmodifiableEntrySet -/
def k33 : Class := { plain "java/util/Collections$UnmodifiableMap$UnmodifiableEntrySet" (some 32) with
  accessFlags := 32
  interfaces := #[]
  cf := some (fileOf pool33 18 #[.nestHost 165] #[{ accessFlags := 0, nameIndex := 5, descriptorIndex := 6, attributes := #[] }, { accessFlags := 1, nameIndex := 85, descriptorIndex := 86, attributes := #[] }] 32 2 #[] #[{ accessFlags := 26, nameIndex := 114, descriptorIndex := 115, attributes := #[] }])
  fields := #[{ name := "serialVersionUID", type := .long, accessFlags := 26, slot := 0, constantValue := 0 }]
  methods := #[k33m0, k33m1]
  instanceTypes := #[(.object "java/util/Collection")]
  staticTypes := #[.long]
  resolved := Array.replicate 196 none
  statics := none }

def pool34 : Array CpInfo := pool [(1, .methodref 2 3), (0, .class_ 4), (0, .nameAndType 5 6), (0, u "java/util/AbstractCollection"), (0, u "<init>"), (0, u "()V"), (0, .class_ 8), (0, u "java/util/Set"), (7, .class_ 17), (0, u "java/util/AbstractSet")] 78

def k34c0 : Code := { maxStack := 1, maxLocals := 1, code := jdk_91_method_1_code, exceptionTable := #[], attributes := #[] }
def k34m0 : Method := { name := "<init>", desc := "()V", sig := { parameters := [], returnType := none }, accessFlags := 4, code := some k34c0 }
/-- java/util/AbstractSet -/
def k34 : Class := { plain "java/util/AbstractSet" (some 11) with
  accessFlags := 1057
  interfaces := #[31]
  cf := some (fileOf pool34 16 #[] #[{ accessFlags := 4, nameIndex := 5, descriptorIndex := 6, attributes := #[] }] 1057 2 #[7] #[])
  fields := #[]
  methods := #[k34m0]
  instanceTypes := #[]
  staticTypes := #[]
  resolved := Array.replicate 96 none
  statics := none }

def pool35 : Array CpInfo := pool [(2, .class_ 4), (1, u "java/util/SequencedSet"), (2, .class_ 8), (0, u "java/lang/Object"), (0, .class_ 10), (0, u "java/util/SequencedCollection"), (0, .class_ 12), (0, u "java/util/Set")] 13

/-- java/util/SequencedSet -/
def k35 : Class := { plain "java/util/SequencedSet" (some 0) with
  accessFlags := 1537
  interfaces := #[12, 31]
  cf := some (fileOf pool35 2 #[] #[] 1537 7 #[9, 11] #[])
  fields := #[]
  methods := #[]
  instanceTypes := #[]
  staticTypes := #[]
  resolved := Array.replicate 26 none
  statics := none }

def pool36 : Array CpInfo := pool [(1, .fieldref 2 3), (0, .class_ 4), (0, .nameAndType 5 6), (0, u "java/util/LinkedHashMap$LinkedEntrySet"), (0, u "this$0"), (0, u "Ljava/util/LinkedHashMap;"), (0, .methodref 8 9), (0, .class_ 10), (0, .nameAndType 11 12), (0, u "java/util/AbstractSet"), (0, u "<init>"), (0, u "()V"), (0, .fieldref 2 14), (0, .nameAndType 15 16), (0, u "reversed"), (0, u "Z"), (1, .class_ 20), (1, u "java/util/LinkedHashMap"), (5, .class_ 27), (0, u "java/util/LinkedHashMap$LinkedEntryIterator"), (0, .methodref 26 29), (0, .nameAndType 11 30), (0, u "(Ljava/util/LinkedHashMap;Z)V"), (110, .class_ 142), (0, u "java/util/SequencedSet"), (9, u "iterator"), (0, u "()Ljava/util/Iterator;")] 43

def k36c0 : Code := { maxStack := 2, maxLocals := 3, code := jdk_113_method_1_code, exceptionTable := #[], attributes := #[] }
def k36m0 : Method := { name := "<init>", desc := "(Ljava/util/LinkedHashMap;Z)V", sig := { parameters := [(.object "java/util/LinkedHashMap"), .boolean], returnType := none }, accessFlags := 0, code := some k36c0 }
def k36c1 : Code := { maxStack := 4, maxLocals := 1, code := jdk_113_method_4_code, exceptionTable := #[], attributes := #[] }
def k36m1 : Method := { name := "iterator", desc := "()Ljava/util/Iterator;", sig := { parameters := [], returnType := some (.object "java/util/Iterator") }, accessFlags := 17, code := some k36c1 }
/-- java/util/LinkedHashMap$LinkedEntrySet -/
def k36 : Class := { plain "java/util/LinkedHashMap$LinkedEntrySet" (some 34) with
  accessFlags := 48
  interfaces := #[35]
  cf := some (fileOf pool36 2 #[.nestHost 18] #[{ accessFlags := 0, nameIndex := 11, descriptorIndex := 30, attributes := #[] }, { accessFlags := 17, nameIndex := 152, descriptorIndex := 153, attributes := #[] }] 48 8 #[141] #[{ accessFlags := 16, nameIndex := 15, descriptorIndex := 16, attributes := #[] }, { accessFlags := 4112, nameIndex := 5, descriptorIndex := 6, attributes := #[] }])
  fields := #[{ name := "reversed", type := .boolean, accessFlags := 16, slot := 0, constantValue := 0 }, { name := "this$0", type := (.object "java/util/LinkedHashMap"), accessFlags := 4112, slot := 1, constantValue := 0 }]
  methods := #[k36m0, k36m1]
  instanceTypes := #[.boolean, (.object "java/util/LinkedHashMap")]
  staticTypes := #[]
  resolved := Array.replicate 197 none
  statics := none }

def pool37 : Array CpInfo := pool [(1, .fieldref 2 3), (0, .class_ 4), (0, .nameAndType 5 6), (0, u "java/util/Collections$UnmodifiableMap$UnmodifiableEntrySet$1"), (0, u "this$0"), (0, u "Ljava/util/Collections$UnmodifiableMap$UnmodifiableEntrySet;"), (0, .methodref 8 9), (0, .class_ 10), (0, .nameAndType 11 12), (0, u "java/lang/Object"), (0, u "<init>"), (0, u "()V"), (0, .fieldref 14 15), (0, .class_ 16), (0, .nameAndType 17 18), (0, u "java/util/Collections$UnmodifiableMap$UnmodifiableEntrySet"), (0, u "c"), (0, u "Ljava/util/Collection;"), (0, .interfaceMethodref 20 21), (0, .class_ 22), (0, .nameAndType 23 24), (0, u "java/util/Collection"), (0, u "iterator"), (0, u "()Ljava/util/Iterator;"), (0, .fieldref 2 26), (0, .nameAndType 27 28), (0, u "i"), (0, u "Ljava/util/Iterator;"), (0, .interfaceMethodref 30 31), (0, .class_ 32), (0, .nameAndType 33 34), (0, u "java/util/Iterator"), (0, u "hasNext"), (0, u "()Z"), (33, u "(Ljava/util/Collections$UnmodifiableMap$UnmodifiableEntrySet;)V"), (18, .class_ 88), (0, u "java/util/Collections")] 9

def k37c0 : Code := { maxStack := 2, maxLocals := 2, code := jdk_2502_method_1_code, exceptionTable := #[], attributes := #[] }
def k37m0 : Method := { name := "<init>", desc := "(Ljava/util/Collections$UnmodifiableMap$UnmodifiableEntrySet;)V", sig := { parameters := [(.object "java/util/Collections$UnmodifiableMap$UnmodifiableEntrySet")], returnType := none }, accessFlags := 0, code := some k37c0 }
def k37c1 : Code := { maxStack := 1, maxLocals := 1, code := jdk_2502_method_2_code, exceptionTable := #[], attributes := #[] }
def k37m1 : Method := { name := "hasNext", desc := "()Z", sig := { parameters := [], returnType := some .boolean }, accessFlags := 1, code := some k37c1 }
/-- java/util/Collections$UnmodifiableMap$UnmodifiableEntrySet$1 -/
def k37 : Class := { plain "java/util/Collections$UnmodifiableMap$UnmodifiableEntrySet$1" (some 0) with
  accessFlags := 32
  interfaces := #[24]
  cf := some (fileOf pool37 2 #[.nestHost 87] #[{ accessFlags := 0, nameIndex := 11, descriptorIndex := 68, attributes := #[] }, { accessFlags := 1, nameIndex := 33, descriptorIndex := 34, attributes := #[] }] 32 8 #[30] #[{ accessFlags := 18, nameIndex := 27, descriptorIndex := 28, attributes := #[] }, { accessFlags := 4112, nameIndex := 5, descriptorIndex := 6, attributes := #[] }])
  fields := #[{ name := "i", type := (.object "java/util/Iterator"), accessFlags := 18, slot := 0, constantValue := 0 }, { name := "this$0", type := (.object "java/util/Collections$UnmodifiableMap$UnmodifiableEntrySet"), accessFlags := 4112, slot := 1, constantValue := 0 }]
  methods := #[k37m0, k37m1]
  instanceTypes := #[(.object "java/util/Iterator"), (.object "java/util/Collections$UnmodifiableMap$UnmodifiableEntrySet")]
  staticTypes := #[]
  resolved := Array.replicate 98 none
  statics := none }

def pool38 : Array CpInfo := pool [(1, .fieldref 2 3), (0, .class_ 4), (0, .nameAndType 5 6), (0, u "java/util/LinkedHashMap$LinkedHashIterator"), (0, u "this$0"), (0, u "Ljava/util/LinkedHashMap;"), (0, .methodref 8 9), (0, .class_ 10), (0, .nameAndType 11 12), (0, u "java/lang/Object"), (0, u "<init>"), (0, u "()V"), (0, .fieldref 2 14), (0, .nameAndType 15 16), (0, u "reversed"), (0, u "Z"), (1, .class_ 20), (1, u "java/util/LinkedHashMap"), (1, u "Ljava/util/LinkedHashMap$Entry;"), (0, .fieldref 18 24), (0, .nameAndType 25 22), (0, u "head"), (0, .fieldref 2 27), (0, .nameAndType 28 22), (0, u "next"), (0, .fieldref 18 30), (0, .nameAndType 31 32), (0, u "modCount"), (0, u "I"), (0, .fieldref 2 34), (0, .nameAndType 35 32), (0, u "expectedModCount"), (0, .fieldref 2 37), (0, .nameAndType 38 22), (0, u "current"), (32, u "(Ljava/util/LinkedHashMap;Z)V"), (9, u "hasNext"), (0, u "()Z")] 17

def k38c0 : Code := { maxStack := 2, maxLocals := 3, code := jdk_2616_method_1_code, exceptionTable := #[], attributes := #[] }
def k38m0 : Method := { name := "<init>", desc := "(Ljava/util/LinkedHashMap;Z)V", sig := { parameters := [(.object "java/util/LinkedHashMap"), .boolean], returnType := none }, accessFlags := 0, code := some k38c0 }
def k38c1 : Code := { maxStack := 1, maxLocals := 1, code := jdk_2616_method_2_code, exceptionTable := #[], attributes := #[] }
def k38m1 : Method := { name := "hasNext", desc := "()Z", sig := { parameters := [], returnType := some .boolean }, accessFlags := 17, code := some k38c1 }
/-- java/util/LinkedHashMap$LinkedHashIterator -/
def k38 : Class := { plain "java/util/LinkedHashMap$LinkedHashIterator" (some 0) with
  accessFlags := 1056
  interfaces := #[]
  cf := some (fileOf pool38 2 #[.nestHost 18] #[{ accessFlags := 0, nameIndex := 11, descriptorIndex := 71, attributes := #[] }, { accessFlags := 17, nameIndex := 81, descriptorIndex := 82, attributes := #[] }] 1056 8 #[] #[{ accessFlags := 0, nameIndex := 28, descriptorIndex := 22, attributes := #[] }, { accessFlags := 0, nameIndex := 38, descriptorIndex := 22, attributes := #[] }, { accessFlags := 0, nameIndex := 35, descriptorIndex := 32, attributes := #[] }, { accessFlags := 0, nameIndex := 15, descriptorIndex := 16, attributes := #[] }, { accessFlags := 4112, nameIndex := 5, descriptorIndex := 6, attributes := #[] }])
  fields := #[{ name := "next", type := (.object "java/util/LinkedHashMap$Entry"), accessFlags := 0, slot := 0, constantValue := 0 }, { name := "current", type := (.object "java/util/LinkedHashMap$Entry"), accessFlags := 0, slot := 1, constantValue := 0 }, { name := "expectedModCount", type := .int, accessFlags := 0, slot := 2, constantValue := 0 }, { name := "reversed", type := .boolean, accessFlags := 0, slot := 3, constantValue := 0 }, { name := "this$0", type := (.object "java/util/LinkedHashMap"), accessFlags := 4112, slot := 4, constantValue := 0 }]
  methods := #[k38m0, k38m1]
  instanceTypes := #[(.object "java/util/LinkedHashMap$Entry"), (.object "java/util/LinkedHashMap$Entry"), .int, .boolean, (.object "java/util/LinkedHashMap")]
  staticTypes := #[]
  resolved := Array.replicate 100 none
  statics := none }

def pool39 : Array CpInfo := pool [(1, .methodref 2 3), (0, .class_ 4), (0, .nameAndType 5 6), (0, u "java/util/LinkedHashMap$LinkedHashIterator"), (0, u "<init>"), (0, u "(Ljava/util/LinkedHashMap;Z)V"), (1, .class_ 10), (1, u "java/util/LinkedHashMap$LinkedEntryIterator"), (6, .class_ 18), (0, u "java/util/Iterator"), (19, .class_ 39), (0, u "java/util/LinkedHashMap")] 10

def k39c0 : Code := { maxStack := 3, maxLocals := 3, code := jdk_2615_method_1_code, exceptionTable := #[], attributes := #[] }
def k39m0 : Method := { name := "<init>", desc := "(Ljava/util/LinkedHashMap;Z)V", sig := { parameters := [(.object "java/util/LinkedHashMap"), .boolean], returnType := none }, accessFlags := 0, code := some k39c0 }
/-- java/util/LinkedHashMap$LinkedEntryIterator -/
def k39 : Class := { plain "java/util/LinkedHashMap$LinkedEntryIterator" (some 38) with
  accessFlags := 48
  interfaces := #[24]
  cf := some (fileOf pool39 8 #[.nestHost 38] #[{ accessFlags := 0, nameIndex := 5, descriptorIndex := 6, attributes := #[] }] 48 2 #[17] #[])
  fields := #[]
  methods := #[k39m0]
  instanceTypes := #[(.object "java/util/LinkedHashMap$Entry"), (.object "java/util/LinkedHashMap$Entry"), .int, .boolean, (.object "java/util/LinkedHashMap")]
  staticTypes := #[]
  resolved := Array.replicate 50 none
  statics := none }

def pool40 : Array CpInfo := pool [(1, .class_ 2), (0, u "java/lang/Class"), (0, .class_ 4), (0, u "java/lang/Object")] 0

/-- java/lang/Class -/
def k40 : Class := { plain "java/lang/Class" (some 0) with
  accessFlags := 49
  interfaces := #[]
  cf := some (fileOf pool40 1 #[] #[] 49 3 #[] #[])
  fields := #[]
  methods := #[]
  instanceTypes := #[]
  staticTypes := #[]
  resolved := Array.replicate 5 none
  statics := none }

/-- the primitive byte -/
def k41 : Class := { plain "byte" none with kind := .primitive 'B', accessFlags := 0x411 }
/-- [B -/
def k42 : Class := { plain "[B" (some 0) with kind := .array 41 .byte, interfaces := #[16, 2], accessFlags := 1041 }

/-- the primitive int -/
def k43 : Class := { plain "int" none with kind := .primitive 'I', accessFlags := 0x411 }
/-- [I -/
def k44 : Class := { plain "[I" (some 0) with kind := .array 43 .int, interfaces := #[16, 2], accessFlags := 1041 }

/-- [Ljava/lang/Object; -/
def k45 : Class := { plain "[Ljava/lang/Object;" (some 0) with kind := .array 0 (.object "java/lang/Object"), interfaces := #[16, 2], accessFlags := 1041 }

def heap : Heap := #[{ cls := 17, slots := #[.long 0, .int 0, .ref 4, .ref 5], vm := .statics 17 },
  { cls := 29, slots := #[.ref 6], vm := .statics 29 },
  { cls := 40, slots := #[], vm := .mirror 23 },
  { cls := 40, slots := #[], vm := .mirror 27 },
  { cls := 45, slots := #[], vm := .none },
  { cls := 45, slots := #[], vm := .none },
  { cls := 29, slots := #[.null], vm := .none }]
def classes : Array Class := #[k0, k1, k2, k3, k4, k5, k6, k7, k8, k9, k10, k11, k12, k13, k14, k15, k16, k17, k18, k19, k20, k21, k22, k23, k24, k25, k26, k27, k28, k29, k30, k31, k32, k33, k34, k35, k36, k37, k38, k39, k40, k41, k42, k43, k44, k45]
def interned : List (Array UInt16 × Addr) := []
def slotsUsed : Nat := 6
def theMethod : MethodId := ⟨1, 1⟩
def args0 : Array Value := #[.int 5, .int 1, .int 3, .int 2]
def aboutOver (below : List Frame) : State where
  vm := { classes := classes, interned := interned.toArray }
  heap := heap
  slotsUsed := slotsUsed
  threads := #[{ frames := .invoking theMethod args0 :: below }]
def below0 : List Frame := [.native { method := ⟨0, 0⟩, args := #[] }]
def about1 : State := aboutOver below0
def p0 : Program := .bare "" "" ""
def e0 : Env := launch0.env 0 0 0
theorem w_frames : about1.frames = Frame.invoking theMethod args0 :: below0 := rfl
set_option maxRecDepth 65536 in
theorem w_args : argsFit about1.vm theMethod args0 = true := by decide +kernel
set_option maxRecDepth 65536 in
theorem w_heap : heapFits about1 = true := by decide +kernel
set_option maxRecDepth 65536 in
theorem w_runnable : about1.curStatus? = some .runnable := by decide +kernel
set_option maxRecDepth 65536 in
theorem w_alone : about1.alone = true := by decide +kernel
set_option maxRecDepth 65536 in
theorem w_named : about1.methodNamed? x = some theMethod := by decide +kernel
set_option maxRecDepth 65536 in
theorem w_hears : about1.hears theMethod below0 = true := by decide +kernel
set_option maxRecDepth 65536 in
theorem w_ripe : about1.ripe theMethod args0 below0 = true := by decide +kernel
theorem w_running : about1.status = .running := rfl
set_option maxRecDepth 65536 in
theorem w_room : about1.hasRoom e0.platform room_1 = true :=
  launch0.hasRoom_least _ room_1 (by decide +kernel) (by decide +kernel) (by decide +kernel) (by decide +kernel) (by decide +kernel) (by decide +kernel)
theorem allAtoms_all (ts : List Jvm.Cond) (a : Array Jvm.Value) (st : Jvm.State) : (allAtoms ts).before a st = ts.all (fun c => c.before a st) := by
  induction ts with
  | nil => rfl
  | cons c t ih =>
    show (Jvm.Cond.and c (allAtoms t)).before a st = _
    rw [Jvm.Cond.before_and, ih, List.all_cons]
def words1 : List Jvm.Cond := Jvm.Cond.code x code maxLocals ret :: tables_1
/-- a 'code' word, met by the world's own term for the bytes: nothing is compared byte by byte -/
theorem code_word {y : MethodName} {bytes : ByteArray} {mx : Nat} {rt : Option FieldType} {a : Array Value} {s : State} {m : MethodId} {meth : Method} {c : Code} (h1 : s.methodNamed? y = some m) (h2 : s.vm.method? m = some meth) (h3 : meth.code = some c) (h4 : c.code = bytes)
    (h5 : (c.maxLocals == mx && c.exceptionTable.isEmpty && decide (c.maxStack ≤ mostOperands) && decide (meth.sig.returnType = rt) && !meth.locks && decide (parseMethodDescriptor y.desc = some meth.sig)) = true) : (Jvm.Cond.code y bytes mx rt).before a s = true := by
  simp only [Bool.and_eq_true, beq_iff_eq, Bool.not_eq_true', decide_eq_true_eq] at h5
  obtain ⟨⟨⟨⟨⟨g1, g2⟩, g3⟩, g4⟩, g5⟩, g6⟩ := h5
  simp [Cond.before, Cond.holds, Cond.value, h1, h2, h3, h4, g1, g2, g3, g4, g5, g6]
def isCode : Jvm.Cond → Bool
  | .code _ _ _ _ => true
  | _ => false
theorem all_split {L : List Jvm.Cond} {P : Jvm.Cond → Bool} (h1 : L.all (fun c => isCode c || P c) = true) (h2 : ∀ c ∈ L.filter isCode, P c = true) : L.all P = true := by
  refine List.all_eq_true.mpr fun c hc => ?_
  have h := List.all_eq_true.mp h1 c hc
  rcases Bool.eq_false_or_eq_true (isCode c) with hi | hi
  · exact h2 c (List.mem_filter.mpr ⟨hc, hi⟩)
  · simpa [hi] using h
set_option maxRecDepth 65536 in
theorem w_c0 : (Jvm.Cond.code x code maxLocals ret).before args0 about1 = true := code_word (m := ⟨1, 1⟩) (meth := k1m1) (c := k1c1) (by decide +kernel) rfl rfl rfl (by decide +kernel)
set_option maxRecDepth 65536 in
theorem w_c1 : (Jvm.Cond.code ({ cls := "com/example/phone_conformance_check/phoneconformancecheck/report/CheckedCapture", name := "unusable", desc := "(Ljava/lang/String;Ljava/lang/String;)Lcom/example/phone_conformance_check/phoneconformancecheck/report/CheckedCapture;" } : Jvm.MethodName) prog_35_method_3_code (2 : Nat) (Option.some (Jvm.ClassFile.FieldType.object "com/example/phone_conformance_check/phoneconformancecheck/report/CheckedCapture"))).before args0 about1 = true := code_word (m := ⟨8, 2⟩) (meth := k8m2) (c := k8c2) (by decide +kernel) rfl rfl rfl (by decide +kernel)
set_option maxRecDepth 65536 in
theorem w_c2 : (Jvm.Cond.code ({ cls := "com/example/phone_conformance_check/phoneconformancecheck/report/CheckedCapture", name := "<init>", desc := "(Ljava/lang/String;Lcom/example/phone_conformance_check/phoneconformancecheck/judging/Report;Ljava/lang/String;)V" } : Jvm.MethodName) prog_35_method_1_code (4 : Nat) (Option.none : Option Jvm.ClassFile.FieldType)).before args0 about1 = true := code_word (m := ⟨8, 0⟩) (meth := k8m0) (c := k8c0) (by decide +kernel) rfl rfl rfl (by decide +kernel)
set_option maxRecDepth 65536 in
theorem w_c3 : (Jvm.Cond.code ({ cls := "java/lang/Object", name := "<init>", desc := "()V" } : Jvm.MethodName) object_method_1_code (1 : Nat) (Option.none : Option Jvm.ClassFile.FieldType)).before args0 about1 = true := code_word (m := ⟨0, 0⟩) (meth := k0m0) (c := k0c0) (by decide +kernel) rfl rfl rfl (by decide +kernel)
set_option maxRecDepth 65536 in
theorem w_c4 : (Jvm.Cond.code ({ cls := "java/util/ArrayList", name := "<init>", desc := "()V" } : Jvm.MethodName) jdk_38_method_2_code (1 : Nat) (Option.none : Option Jvm.ClassFile.FieldType)).before args0 about1 = true := code_word (m := ⟨17, 0⟩) (meth := k17m0) (c := k17c0) (by decide +kernel) rfl rfl rfl (by decide +kernel)
set_option maxRecDepth 65536 in
theorem w_c5 : (Jvm.Cond.code ({ cls := "java/util/AbstractList", name := "<init>", desc := "()V" } : Jvm.MethodName) jdk_39_method_1_code (1 : Nat) (Option.none : Option Jvm.ClassFile.FieldType)).before args0 about1 = true := code_word (m := ⟨14, 0⟩) (meth := k14m0) (c := k14c0) (by decide +kernel) rfl rfl rfl (by decide +kernel)
set_option maxRecDepth 65536 in
theorem w_c6 : (Jvm.Cond.code ({ cls := "java/util/AbstractCollection", name := "<init>", desc := "()V" } : Jvm.MethodName) jdk_22_method_1_code (1 : Nat) (Option.none : Option Jvm.ClassFile.FieldType)).before args0 about1 = true := code_word (m := ⟨11, 0⟩) (meth := k11m0) (c := k11c0) (by decide +kernel) rfl rfl rfl (by decide +kernel)
set_option maxRecDepth 65536 in
theorem w_c7 : (Jvm.Cond.code ({ cls := "com/example/phone_conformance_check/phoneconformancecheck/judging/Report", name := "judge", desc := "(Ljava/util/List;Lcom/example/phone_conformance_check/phoneconformancecheck/capture/Capture;)Lcom/example/phone_conformance_check/phoneconformancecheck/judging/Report;" } : Jvm.MethodName) prog_32_method_2_code (5 : Nat) (Option.some (Jvm.ClassFile.FieldType.object "com/example/phone_conformance_check/phoneconformancecheck/judging/Report"))).before args0 about1 = true := code_word (m := ⟨18, 1⟩) (meth := k18m1) (c := k18c1) (by decide +kernel) rfl rfl rfl (by decide +kernel)
set_option maxRecDepth 65536 in
theorem w_c8 : (Jvm.Cond.code ({ cls := "java/util/LinkedHashMap", name := "<init>", desc := "()V" } : Jvm.MethodName) jdk_94_method_16_code (1 : Nat) (Option.none : Option Jvm.ClassFile.FieldType)).before args0 about1 = true := code_word (m := ⟨23, 0⟩) (meth := k23m0) (c := k23c0) (by decide +kernel) rfl rfl rfl (by decide +kernel)
set_option maxRecDepth 65536 in
theorem w_c9 : (Jvm.Cond.code ({ cls := "java/util/HashMap", name := "<init>", desc := "()V" } : Jvm.MethodName) jdk_69_method_7_code (1 : Nat) (Option.none : Option Jvm.ClassFile.FieldType)).before args0 about1 = true := code_word (m := ⟨21, 0⟩) (meth := k21m0) (c := k21c0) (by decide +kernel) rfl rfl rfl (by decide +kernel)
set_option maxRecDepth 65536 in
theorem w_c10 : (Jvm.Cond.code ({ cls := "java/util/AbstractMap", name := "<init>", desc := "()V" } : Jvm.MethodName) jdk_71_method_1_code (1 : Nat) (Option.none : Option Jvm.ClassFile.FieldType)).before args0 about1 = true := code_word (m := ⟨20, 0⟩) (meth := k20m0) (c := k20c0) (by decide +kernel) rfl rfl rfl (by decide +kernel)
set_option maxRecDepth 65536 in
theorem w_c11 : (Jvm.Cond.code ({ cls := "java/util/ArrayList", name := "iterator", desc := "()Ljava/util/Iterator;" } : Jvm.MethodName) jdk_38_method_55_code (1 : Nat) (Option.some (Jvm.ClassFile.FieldType.object "java/util/Iterator"))).before args0 about1 = true := code_word (m := ⟨17, 1⟩) (meth := k17m1) (c := k17c1) (by decide +kernel) rfl rfl rfl (by decide +kernel)
set_option maxRecDepth 65536 in
theorem w_c12 : (Jvm.Cond.code ({ cls := "java/util/ArrayList$Itr", name := "<init>", desc := "(Ljava/util/ArrayList;)V" } : Jvm.MethodName) jdk_49_method_1_code (2 : Nat) (Option.none : Option Jvm.ClassFile.FieldType)).before args0 about1 = true := code_word (m := ⟨25, 0⟩) (meth := k25m0) (c := k25c0) (by decide +kernel) rfl rfl rfl (by decide +kernel)
set_option maxRecDepth 65536 in
theorem w_c13 : (Jvm.Cond.code ({ cls := "java/util/ArrayList$Itr", name := "hasNext", desc := "()Z" } : Jvm.MethodName) jdk_49_method_2_code (1 : Nat) (Option.some Jvm.ClassFile.FieldType.boolean)).before args0 about1 = true := code_word (m := ⟨25, 1⟩) (meth := k25m1) (c := k25c1) (by decide +kernel) rfl rfl rfl (by decide +kernel)
set_option maxRecDepth 65536 in
theorem w_c14 : (Jvm.Cond.code ({ cls := "com/example/phone_conformance_check/phoneconformancecheck/judging/Report", name := "<init>", desc := "(Ljava/util/Map;)V" } : Jvm.MethodName) prog_32_method_1_code (2 : Nat) (Option.none : Option Jvm.ClassFile.FieldType)).before args0 about1 = true := code_word (m := ⟨18, 0⟩) (meth := k18m0) (c := k18c0) (by decide +kernel) rfl rfl rfl (by decide +kernel)
set_option maxRecDepth 65536 in
theorem w_c15 : (Jvm.Cond.code ({ cls := "java/util/Collections", name := "unmodifiableMap", desc := "(Ljava/util/Map;)Ljava/util/Map;" } : Jvm.MethodName) jdk_79_method_36_code (1 : Nat) (Option.some (Jvm.ClassFile.FieldType.object "java/util/Map"))).before args0 about1 = true := code_word (m := ⟨26, 1⟩) (meth := k26m1) (c := k26c1) (by decide +kernel) rfl rfl rfl (by decide +kernel)
set_option maxRecDepth 65536 in
theorem w_c16 : (Jvm.Cond.code ({ cls := "java/util/Collections$UnmodifiableMap", name := "<init>", desc := "(Ljava/util/Map;)V" } : Jvm.MethodName) jdk_2500_method_1_code (2 : Nat) (Option.none : Option Jvm.ClassFile.FieldType)).before args0 about1 = true := code_word (m := ⟨27, 0⟩) (meth := k27m0) (c := k27c0) (by decide +kernel) rfl rfl rfl (by decide +kernel)
set_option maxRecDepth 65536 in
theorem w_c17 : (Jvm.Cond.code ({ cls := "com/example/phone_conformance_check/phoneconformancecheck/report/CheckedCapture", name := "judged", desc := "(Ljava/lang/String;Lcom/example/phone_conformance_check/phoneconformancecheck/judging/Report;)Lcom/example/phone_conformance_check/phoneconformancecheck/report/CheckedCapture;" } : Jvm.MethodName) prog_35_method_2_code (2 : Nat) (Option.some (Jvm.ClassFile.FieldType.object "com/example/phone_conformance_check/phoneconformancecheck/report/CheckedCapture"))).before args0 about1 = true := code_word (m := ⟨8, 1⟩) (meth := k8m1) (c := k8c1) (by decide +kernel) rfl rfl rfl (by decide +kernel)
set_option maxRecDepth 65536 in
theorem w_c18 : (Jvm.Cond.code ({ cls := "com/example/phone_conformance_check/phoneconformancecheck/report/Total", name := "<init>", desc := "()V" } : Jvm.MethodName) prog_42_method_1_code (1 : Nat) (Option.none : Option Jvm.ClassFile.FieldType)).before args0 about1 = true := code_word (m := ⟨28, 0⟩) (meth := k28m0) (c := k28c0) (by decide +kernel) rfl rfl rfl (by decide +kernel)
set_option maxRecDepth 65536 in
theorem w_c19 : (Jvm.Cond.code ({ cls := "com/example/phone_conformance_check/phoneconformancecheck/report/Total", name := "getCaptures", desc := "()I" } : Jvm.MethodName) prog_42_method_3_code (1 : Nat) (Option.some Jvm.ClassFile.FieldType.int)).before args0 about1 = true := code_word (m := ⟨28, 2⟩) (meth := k28m2) (c := k28c2) (by decide +kernel) rfl rfl rfl (by decide +kernel)
set_option maxRecDepth 65536 in
theorem w_c20 : (Jvm.Cond.code ({ cls := "com/example/phone_conformance_check/phoneconformancecheck/report/TotalGetCapturesPinLaw", name := "step", desc := "(Lcom/example/phone_conformance_check/phoneconformancecheck/report/Total;ILcom/example/phone_conformance_check/phoneconformancecheck/report/CheckedCapture;Lcom/example/phone_conformance_check/phoneconformancecheck/report/CheckedCapture;)I" } : Jvm.MethodName) method_3_code (5 : Nat) (Option.some Jvm.ClassFile.FieldType.int)).before args0 about1 = true := code_word (m := ⟨1, 2⟩) (meth := k1m2) (c := k1c2) (by decide +kernel) rfl rfl rfl (by decide +kernel)
set_option maxRecDepth 65536 in
theorem w_c21 : (Jvm.Cond.code ({ cls := "com/example/phone_conformance_check/phoneconformancecheck/report/Total", name := "add", desc := "(Lcom/example/phone_conformance_check/phoneconformancecheck/report/CheckedCapture;)V" } : Jvm.MethodName) prog_42_method_2_code (2 : Nat) (Option.none : Option Jvm.ClassFile.FieldType)).before args0 about1 = true := code_word (m := ⟨28, 1⟩) (meth := k28m1) (c := k28c1) (by decide +kernel) rfl rfl rfl (by decide +kernel)
set_option maxRecDepth 65536 in
theorem w_c22 : (Jvm.Cond.code ({ cls := "com/example/phone_conformance_check/phoneconformancecheck/report/CheckedCapture", name := "getReport", desc := "()Ljava/util/Optional;" } : Jvm.MethodName) prog_35_method_5_code (1 : Nat) (Option.some (Jvm.ClassFile.FieldType.object "java/util/Optional"))).before args0 about1 = true := code_word (m := ⟨8, 3⟩) (meth := k8m3) (c := k8c3) (by decide +kernel) rfl rfl rfl (by decide +kernel)
set_option maxRecDepth 65536 in
theorem w_c23 : (Jvm.Cond.code ({ cls := "java/util/Optional", name := "ofNullable", desc := "(Ljava/lang/Object;)Ljava/util/Optional;" } : Jvm.MethodName) jdk_32_method_4_code (1 : Nat) (Option.some (Jvm.ClassFile.FieldType.object "java/util/Optional"))).before args0 about1 = true := code_word (m := ⟨29, 1⟩) (meth := k29m1) (c := k29c1) (by decide +kernel) rfl rfl rfl (by decide +kernel)
set_option maxRecDepth 65536 in
theorem w_c24 : (Jvm.Cond.code ({ cls := "java/util/Optional", name := "<init>", desc := "(Ljava/lang/Object;)V" } : Jvm.MethodName) jdk_32_method_2_code (2 : Nat) (Option.none : Option Jvm.ClassFile.FieldType)).before args0 about1 = true := code_word (m := ⟨29, 0⟩) (meth := k29m0) (c := k29c0) (by decide +kernel) rfl rfl rfl (by decide +kernel)
set_option maxRecDepth 65536 in
theorem w_c25 : (Jvm.Cond.code ({ cls := "java/util/Optional", name := "isEmpty", desc := "()Z" } : Jvm.MethodName) jdk_32_method_7_code (1 : Nat) (Option.some Jvm.ClassFile.FieldType.boolean)).before args0 about1 = true := code_word (m := ⟨29, 3⟩) (meth := k29m3) (c := k29c3) (by decide +kernel) rfl rfl rfl (by decide +kernel)
set_option maxRecDepth 65536 in
theorem w_c26 : (Jvm.Cond.code ({ cls := "java/util/Optional", name := "get", desc := "()Ljava/lang/Object;" } : Jvm.MethodName) jdk_32_method_5_code (1 : Nat) (Option.some (Jvm.ClassFile.FieldType.object "java/lang/Object"))).before args0 about1 = true := code_word (m := ⟨29, 2⟩) (meth := k29m2) (c := k29c2) (by decide +kernel) rfl rfl rfl (by decide +kernel)
set_option maxRecDepth 65536 in
theorem w_c27 : (Jvm.Cond.code ({ cls := "com/example/phone_conformance_check/phoneconformancecheck/judging/Report", name := "failsAMust", desc := "()Z" } : Jvm.MethodName) prog_32_method_5_code (3 : Nat) (Option.some Jvm.ClassFile.FieldType.boolean)).before args0 about1 = true := code_word (m := ⟨18, 2⟩) (meth := k18m2) (c := k18c2) (by decide +kernel) rfl rfl rfl (by decide +kernel)
set_option maxRecDepth 65536 in
theorem w_c28 : (Jvm.Cond.code ({ cls := "java/util/Collections$UnmodifiableMap", name := "entrySet", desc := "()Ljava/util/Set;" } : Jvm.MethodName) jdk_2500_method_12_code (1 : Nat) (Option.some (Jvm.ClassFile.FieldType.object "java/util/Set"))).before args0 about1 = true := code_word (m := ⟨27, 1⟩) (meth := k27m1) (c := k27c1) (by decide +kernel) rfl rfl rfl (by decide +kernel)
set_option maxRecDepth 65536 in
theorem w_c29 : (Jvm.Cond.code ({ cls := "java/util/LinkedHashMap", name := "entrySet", desc := "()Ljava/util/Set;" } : Jvm.MethodName) jdk_94_method_32_code (1 : Nat) (Option.some (Jvm.ClassFile.FieldType.object "java/util/Set"))).before args0 about1 = true := code_word (m := ⟨23, 1⟩) (meth := k23m1) (c := k23c1) (by decide +kernel) rfl rfl rfl (by decide +kernel)
set_option maxRecDepth 65536 in
theorem w_c30 : (Jvm.Cond.code ({ cls := "java/util/LinkedHashMap", name := "sequencedEntrySet", desc := "()Ljava/util/SequencedSet;" } : Jvm.MethodName) jdk_94_method_33_code (3 : Nat) (Option.some (Jvm.ClassFile.FieldType.object "java/util/SequencedSet"))).before args0 about1 = true := code_word (m := ⟨23, 2⟩) (meth := k23m2) (c := k23c2) (by decide +kernel) rfl rfl rfl (by decide +kernel)
set_option maxRecDepth 65536 in
theorem w_c31 : (Jvm.Cond.code ({ cls := "java/util/LinkedHashMap$LinkedEntrySet", name := "<init>", desc := "(Ljava/util/LinkedHashMap;Z)V" } : Jvm.MethodName) jdk_113_method_1_code (3 : Nat) (Option.none : Option Jvm.ClassFile.FieldType)).before args0 about1 = true := code_word (m := ⟨36, 0⟩) (meth := k36m0) (c := k36c0) (by decide +kernel) rfl rfl rfl (by decide +kernel)
set_option maxRecDepth 65536 in
theorem w_c32 : (Jvm.Cond.code ({ cls := "java/util/AbstractSet", name := "<init>", desc := "()V" } : Jvm.MethodName) jdk_91_method_1_code (1 : Nat) (Option.none : Option Jvm.ClassFile.FieldType)).before args0 about1 = true := code_word (m := ⟨34, 0⟩) (meth := k34m0) (c := k34c0) (by decide +kernel) rfl rfl rfl (by decide +kernel)
set_option maxRecDepth 65536 in
theorem w_c33 : (Jvm.Cond.code ({ cls := "java/util/Collections$UnmodifiableMap$UnmodifiableEntrySet", name := "<init>", desc := "(Ljava/util/Set;)V" } : Jvm.MethodName) jdk_2501_method_1_code (2 : Nat) (Option.none : Option Jvm.ClassFile.FieldType)).before args0 about1 = true := code_word (m := ⟨33, 0⟩) (meth := k33m0) (c := k33c0) (by decide +kernel) rfl rfl rfl (by decide +kernel)
set_option maxRecDepth 65536 in
theorem w_c34 : (Jvm.Cond.code ({ cls := "java/util/Collections$UnmodifiableSet", name := "<init>", desc := "(Ljava/util/Set;)V" } : Jvm.MethodName) jdk_122_method_1_code (2 : Nat) (Option.none : Option Jvm.ClassFile.FieldType)).before args0 about1 = true := code_word (m := ⟨32, 0⟩) (meth := k32m0) (c := k32c0) (by decide +kernel) rfl rfl rfl (by decide +kernel)
set_option maxRecDepth 65536 in
theorem w_c35 : (Jvm.Cond.code ({ cls := "java/util/Collections$UnmodifiableCollection", name := "<init>", desc := "(Ljava/util/Collection;)V" } : Jvm.MethodName) jdk_119_method_1_code (2 : Nat) (Option.none : Option Jvm.ClassFile.FieldType)).before args0 about1 = true := code_word (m := ⟨30, 0⟩) (meth := k30m0) (c := k30c0) (by decide +kernel) rfl rfl rfl (by decide +kernel)
set_option maxRecDepth 65536 in
theorem w_c36 : (Jvm.Cond.code ({ cls := "java/util/Collections$UnmodifiableMap$UnmodifiableEntrySet", name := "iterator", desc := "()Ljava/util/Iterator;" } : Jvm.MethodName) jdk_2501_method_7_code (1 : Nat) (Option.some (Jvm.ClassFile.FieldType.object "java/util/Iterator"))).before args0 about1 = true := code_word (m := ⟨33, 1⟩) (meth := k33m1) (c := k33c1) (by decide +kernel) rfl rfl rfl (by decide +kernel)
set_option maxRecDepth 65536 in
theorem w_c37 : (Jvm.Cond.code ({ cls := "java/util/Collections$UnmodifiableMap$UnmodifiableEntrySet$1", name := "<init>", desc := "(Ljava/util/Collections$UnmodifiableMap$UnmodifiableEntrySet;)V" } : Jvm.MethodName) jdk_2502_method_1_code (2 : Nat) (Option.none : Option Jvm.ClassFile.FieldType)).before args0 about1 = true := code_word (m := ⟨37, 0⟩) (meth := k37m0) (c := k37c0) (by decide +kernel) rfl rfl rfl (by decide +kernel)
set_option maxRecDepth 65536 in
theorem w_c38 : (Jvm.Cond.code ({ cls := "java/util/LinkedHashMap$LinkedEntrySet", name := "iterator", desc := "()Ljava/util/Iterator;" } : Jvm.MethodName) jdk_113_method_4_code (1 : Nat) (Option.some (Jvm.ClassFile.FieldType.object "java/util/Iterator"))).before args0 about1 = true := code_word (m := ⟨36, 1⟩) (meth := k36m1) (c := k36c1) (by decide +kernel) rfl rfl rfl (by decide +kernel)
set_option maxRecDepth 65536 in
theorem w_c39 : (Jvm.Cond.code ({ cls := "java/util/LinkedHashMap$LinkedEntryIterator", name := "<init>", desc := "(Ljava/util/LinkedHashMap;Z)V" } : Jvm.MethodName) jdk_2615_method_1_code (3 : Nat) (Option.none : Option Jvm.ClassFile.FieldType)).before args0 about1 = true := code_word (m := ⟨39, 0⟩) (meth := k39m0) (c := k39c0) (by decide +kernel) rfl rfl rfl (by decide +kernel)
set_option maxRecDepth 65536 in
theorem w_c40 : (Jvm.Cond.code ({ cls := "java/util/LinkedHashMap$LinkedHashIterator", name := "<init>", desc := "(Ljava/util/LinkedHashMap;Z)V" } : Jvm.MethodName) jdk_2616_method_1_code (3 : Nat) (Option.none : Option Jvm.ClassFile.FieldType)).before args0 about1 = true := code_word (m := ⟨38, 0⟩) (meth := k38m0) (c := k38c0) (by decide +kernel) rfl rfl rfl (by decide +kernel)
set_option maxRecDepth 65536 in
theorem w_c41 : (Jvm.Cond.code ({ cls := "java/util/Collections$UnmodifiableMap$UnmodifiableEntrySet$1", name := "hasNext", desc := "()Z" } : Jvm.MethodName) jdk_2502_method_2_code (1 : Nat) (Option.some Jvm.ClassFile.FieldType.boolean)).before args0 about1 = true := code_word (m := ⟨37, 1⟩) (meth := k37m1) (c := k37c1) (by decide +kernel) rfl rfl rfl (by decide +kernel)
set_option maxRecDepth 65536 in
theorem w_c42 : (Jvm.Cond.code ({ cls := "java/util/LinkedHashMap$LinkedHashIterator", name := "hasNext", desc := "()Z" } : Jvm.MethodName) jdk_2616_method_2_code (1 : Nat) (Option.some Jvm.ClassFile.FieldType.boolean)).before args0 about1 = true := code_word (m := ⟨38, 1⟩) (meth := k38m1) (c := k38c1) (by decide +kernel) rfl rfl rfl (by decide +kernel)
def codes1 : List Jvm.Cond := [Jvm.Cond.code x code maxLocals ret, Jvm.Cond.code ({ cls := "com/example/phone_conformance_check/phoneconformancecheck/report/CheckedCapture", name := "unusable", desc := "(Ljava/lang/String;Ljava/lang/String;)Lcom/example/phone_conformance_check/phoneconformancecheck/report/CheckedCapture;" } : Jvm.MethodName) prog_35_method_3_code (2 : Nat) (Option.some (Jvm.ClassFile.FieldType.object "com/example/phone_conformance_check/phoneconformancecheck/report/CheckedCapture")), Jvm.Cond.code ({ cls := "com/example/phone_conformance_check/phoneconformancecheck/report/CheckedCapture", name := "<init>", desc := "(Ljava/lang/String;Lcom/example/phone_conformance_check/phoneconformancecheck/judging/Report;Ljava/lang/String;)V" } : Jvm.MethodName) prog_35_method_1_code (4 : Nat) (Option.none : Option Jvm.ClassFile.FieldType), Jvm.Cond.code ({ cls := "java/lang/Object", name := "<init>", desc := "()V" } : Jvm.MethodName) object_method_1_code (1 : Nat) (Option.none : Option Jvm.ClassFile.FieldType), Jvm.Cond.code ({ cls := "java/util/ArrayList", name := "<init>", desc := "()V" } : Jvm.MethodName) jdk_38_method_2_code (1 : Nat) (Option.none : Option Jvm.ClassFile.FieldType), Jvm.Cond.code ({ cls := "java/util/AbstractList", name := "<init>", desc := "()V" } : Jvm.MethodName) jdk_39_method_1_code (1 : Nat) (Option.none : Option Jvm.ClassFile.FieldType), Jvm.Cond.code ({ cls := "java/util/AbstractCollection", name := "<init>", desc := "()V" } : Jvm.MethodName) jdk_22_method_1_code (1 : Nat) (Option.none : Option Jvm.ClassFile.FieldType), Jvm.Cond.code ({ cls := "com/example/phone_conformance_check/phoneconformancecheck/judging/Report", name := "judge", desc := "(Ljava/util/List;Lcom/example/phone_conformance_check/phoneconformancecheck/capture/Capture;)Lcom/example/phone_conformance_check/phoneconformancecheck/judging/Report;" } : Jvm.MethodName) prog_32_method_2_code (5 : Nat) (Option.some (Jvm.ClassFile.FieldType.object "com/example/phone_conformance_check/phoneconformancecheck/judging/Report")), Jvm.Cond.code ({ cls := "java/util/LinkedHashMap", name := "<init>", desc := "()V" } : Jvm.MethodName) jdk_94_method_16_code (1 : Nat) (Option.none : Option Jvm.ClassFile.FieldType), Jvm.Cond.code ({ cls := "java/util/HashMap", name := "<init>", desc := "()V" } : Jvm.MethodName) jdk_69_method_7_code (1 : Nat) (Option.none : Option Jvm.ClassFile.FieldType), Jvm.Cond.code ({ cls := "java/util/AbstractMap", name := "<init>", desc := "()V" } : Jvm.MethodName) jdk_71_method_1_code (1 : Nat) (Option.none : Option Jvm.ClassFile.FieldType), Jvm.Cond.code ({ cls := "java/util/ArrayList", name := "iterator", desc := "()Ljava/util/Iterator;" } : Jvm.MethodName) jdk_38_method_55_code (1 : Nat) (Option.some (Jvm.ClassFile.FieldType.object "java/util/Iterator")), Jvm.Cond.code ({ cls := "java/util/ArrayList$Itr", name := "<init>", desc := "(Ljava/util/ArrayList;)V" } : Jvm.MethodName) jdk_49_method_1_code (2 : Nat) (Option.none : Option Jvm.ClassFile.FieldType), Jvm.Cond.code ({ cls := "java/util/ArrayList$Itr", name := "hasNext", desc := "()Z" } : Jvm.MethodName) jdk_49_method_2_code (1 : Nat) (Option.some Jvm.ClassFile.FieldType.boolean), Jvm.Cond.code ({ cls := "com/example/phone_conformance_check/phoneconformancecheck/judging/Report", name := "<init>", desc := "(Ljava/util/Map;)V" } : Jvm.MethodName) prog_32_method_1_code (2 : Nat) (Option.none : Option Jvm.ClassFile.FieldType), Jvm.Cond.code ({ cls := "java/util/Collections", name := "unmodifiableMap", desc := "(Ljava/util/Map;)Ljava/util/Map;" } : Jvm.MethodName) jdk_79_method_36_code (1 : Nat) (Option.some (Jvm.ClassFile.FieldType.object "java/util/Map")), Jvm.Cond.code ({ cls := "java/util/Collections$UnmodifiableMap", name := "<init>", desc := "(Ljava/util/Map;)V" } : Jvm.MethodName) jdk_2500_method_1_code (2 : Nat) (Option.none : Option Jvm.ClassFile.FieldType), Jvm.Cond.code ({ cls := "com/example/phone_conformance_check/phoneconformancecheck/report/CheckedCapture", name := "judged", desc := "(Ljava/lang/String;Lcom/example/phone_conformance_check/phoneconformancecheck/judging/Report;)Lcom/example/phone_conformance_check/phoneconformancecheck/report/CheckedCapture;" } : Jvm.MethodName) prog_35_method_2_code (2 : Nat) (Option.some (Jvm.ClassFile.FieldType.object "com/example/phone_conformance_check/phoneconformancecheck/report/CheckedCapture")), Jvm.Cond.code ({ cls := "com/example/phone_conformance_check/phoneconformancecheck/report/Total", name := "<init>", desc := "()V" } : Jvm.MethodName) prog_42_method_1_code (1 : Nat) (Option.none : Option Jvm.ClassFile.FieldType), Jvm.Cond.code ({ cls := "com/example/phone_conformance_check/phoneconformancecheck/report/Total", name := "getCaptures", desc := "()I" } : Jvm.MethodName) prog_42_method_3_code (1 : Nat) (Option.some Jvm.ClassFile.FieldType.int), Jvm.Cond.code ({ cls := "com/example/phone_conformance_check/phoneconformancecheck/report/TotalGetCapturesPinLaw", name := "step", desc := "(Lcom/example/phone_conformance_check/phoneconformancecheck/report/Total;ILcom/example/phone_conformance_check/phoneconformancecheck/report/CheckedCapture;Lcom/example/phone_conformance_check/phoneconformancecheck/report/CheckedCapture;)I" } : Jvm.MethodName) method_3_code (5 : Nat) (Option.some Jvm.ClassFile.FieldType.int), Jvm.Cond.code ({ cls := "com/example/phone_conformance_check/phoneconformancecheck/report/Total", name := "add", desc := "(Lcom/example/phone_conformance_check/phoneconformancecheck/report/CheckedCapture;)V" } : Jvm.MethodName) prog_42_method_2_code (2 : Nat) (Option.none : Option Jvm.ClassFile.FieldType), Jvm.Cond.code ({ cls := "com/example/phone_conformance_check/phoneconformancecheck/report/CheckedCapture", name := "getReport", desc := "()Ljava/util/Optional;" } : Jvm.MethodName) prog_35_method_5_code (1 : Nat) (Option.some (Jvm.ClassFile.FieldType.object "java/util/Optional")), Jvm.Cond.code ({ cls := "java/util/Optional", name := "ofNullable", desc := "(Ljava/lang/Object;)Ljava/util/Optional;" } : Jvm.MethodName) jdk_32_method_4_code (1 : Nat) (Option.some (Jvm.ClassFile.FieldType.object "java/util/Optional")), Jvm.Cond.code ({ cls := "java/util/Optional", name := "<init>", desc := "(Ljava/lang/Object;)V" } : Jvm.MethodName) jdk_32_method_2_code (2 : Nat) (Option.none : Option Jvm.ClassFile.FieldType), Jvm.Cond.code ({ cls := "java/util/Optional", name := "isEmpty", desc := "()Z" } : Jvm.MethodName) jdk_32_method_7_code (1 : Nat) (Option.some Jvm.ClassFile.FieldType.boolean), Jvm.Cond.code ({ cls := "java/util/Optional", name := "get", desc := "()Ljava/lang/Object;" } : Jvm.MethodName) jdk_32_method_5_code (1 : Nat) (Option.some (Jvm.ClassFile.FieldType.object "java/lang/Object")), Jvm.Cond.code ({ cls := "com/example/phone_conformance_check/phoneconformancecheck/judging/Report", name := "failsAMust", desc := "()Z" } : Jvm.MethodName) prog_32_method_5_code (3 : Nat) (Option.some Jvm.ClassFile.FieldType.boolean), Jvm.Cond.code ({ cls := "java/util/Collections$UnmodifiableMap", name := "entrySet", desc := "()Ljava/util/Set;" } : Jvm.MethodName) jdk_2500_method_12_code (1 : Nat) (Option.some (Jvm.ClassFile.FieldType.object "java/util/Set")), Jvm.Cond.code ({ cls := "java/util/LinkedHashMap", name := "entrySet", desc := "()Ljava/util/Set;" } : Jvm.MethodName) jdk_94_method_32_code (1 : Nat) (Option.some (Jvm.ClassFile.FieldType.object "java/util/Set")), Jvm.Cond.code ({ cls := "java/util/LinkedHashMap", name := "sequencedEntrySet", desc := "()Ljava/util/SequencedSet;" } : Jvm.MethodName) jdk_94_method_33_code (3 : Nat) (Option.some (Jvm.ClassFile.FieldType.object "java/util/SequencedSet")), Jvm.Cond.code ({ cls := "java/util/LinkedHashMap$LinkedEntrySet", name := "<init>", desc := "(Ljava/util/LinkedHashMap;Z)V" } : Jvm.MethodName) jdk_113_method_1_code (3 : Nat) (Option.none : Option Jvm.ClassFile.FieldType), Jvm.Cond.code ({ cls := "java/util/AbstractSet", name := "<init>", desc := "()V" } : Jvm.MethodName) jdk_91_method_1_code (1 : Nat) (Option.none : Option Jvm.ClassFile.FieldType), Jvm.Cond.code ({ cls := "java/util/Collections$UnmodifiableMap$UnmodifiableEntrySet", name := "<init>", desc := "(Ljava/util/Set;)V" } : Jvm.MethodName) jdk_2501_method_1_code (2 : Nat) (Option.none : Option Jvm.ClassFile.FieldType), Jvm.Cond.code ({ cls := "java/util/Collections$UnmodifiableSet", name := "<init>", desc := "(Ljava/util/Set;)V" } : Jvm.MethodName) jdk_122_method_1_code (2 : Nat) (Option.none : Option Jvm.ClassFile.FieldType), Jvm.Cond.code ({ cls := "java/util/Collections$UnmodifiableCollection", name := "<init>", desc := "(Ljava/util/Collection;)V" } : Jvm.MethodName) jdk_119_method_1_code (2 : Nat) (Option.none : Option Jvm.ClassFile.FieldType), Jvm.Cond.code ({ cls := "java/util/Collections$UnmodifiableMap$UnmodifiableEntrySet", name := "iterator", desc := "()Ljava/util/Iterator;" } : Jvm.MethodName) jdk_2501_method_7_code (1 : Nat) (Option.some (Jvm.ClassFile.FieldType.object "java/util/Iterator")), Jvm.Cond.code ({ cls := "java/util/Collections$UnmodifiableMap$UnmodifiableEntrySet$1", name := "<init>", desc := "(Ljava/util/Collections$UnmodifiableMap$UnmodifiableEntrySet;)V" } : Jvm.MethodName) jdk_2502_method_1_code (2 : Nat) (Option.none : Option Jvm.ClassFile.FieldType), Jvm.Cond.code ({ cls := "java/util/LinkedHashMap$LinkedEntrySet", name := "iterator", desc := "()Ljava/util/Iterator;" } : Jvm.MethodName) jdk_113_method_4_code (1 : Nat) (Option.some (Jvm.ClassFile.FieldType.object "java/util/Iterator")), Jvm.Cond.code ({ cls := "java/util/LinkedHashMap$LinkedEntryIterator", name := "<init>", desc := "(Ljava/util/LinkedHashMap;Z)V" } : Jvm.MethodName) jdk_2615_method_1_code (3 : Nat) (Option.none : Option Jvm.ClassFile.FieldType), Jvm.Cond.code ({ cls := "java/util/LinkedHashMap$LinkedHashIterator", name := "<init>", desc := "(Ljava/util/LinkedHashMap;Z)V" } : Jvm.MethodName) jdk_2616_method_1_code (3 : Nat) (Option.none : Option Jvm.ClassFile.FieldType), Jvm.Cond.code ({ cls := "java/util/Collections$UnmodifiableMap$UnmodifiableEntrySet$1", name := "hasNext", desc := "()Z" } : Jvm.MethodName) jdk_2502_method_2_code (1 : Nat) (Option.some Jvm.ClassFile.FieldType.boolean), Jvm.Cond.code ({ cls := "java/util/LinkedHashMap$LinkedHashIterator", name := "hasNext", desc := "()Z" } : Jvm.MethodName) jdk_2616_method_2_code (1 : Nat) (Option.some Jvm.ClassFile.FieldType.boolean)]
set_option maxRecDepth 65536 in
theorem codes_eq : words1.filter isCode = codes1 := rfl
theorem w_codes : ∀ c ∈ words1.filter isCode, c.before args0 about1 = true := by
  rw [codes_eq]
  intro c hc
  simp only [codes1, List.mem_cons, List.not_mem_nil, or_false] at hc
  rcases hc with rfl | rfl | rfl | rfl | rfl | rfl | rfl | rfl | rfl | rfl | rfl | rfl | rfl | rfl | rfl | rfl | rfl | rfl | rfl | rfl | rfl | rfl | rfl | rfl | rfl | rfl | rfl | rfl | rfl | rfl | rfl | rfl | rfl | rfl | rfl | rfl | rfl | rfl | rfl | rfl | rfl | rfl | rfl
  · exact w_c0
  · exact w_c1
  · exact w_c2
  · exact w_c3
  · exact w_c4
  · exact w_c5
  · exact w_c6
  · exact w_c7
  · exact w_c8
  · exact w_c9
  · exact w_c10
  · exact w_c11
  · exact w_c12
  · exact w_c13
  · exact w_c14
  · exact w_c15
  · exact w_c16
  · exact w_c17
  · exact w_c18
  · exact w_c19
  · exact w_c20
  · exact w_c21
  · exact w_c22
  · exact w_c23
  · exact w_c24
  · exact w_c25
  · exact w_c26
  · exact w_c27
  · exact w_c28
  · exact w_c29
  · exact w_c30
  · exact w_c31
  · exact w_c32
  · exact w_c33
  · exact w_c34
  · exact w_c35
  · exact w_c36
  · exact w_c37
  · exact w_c38
  · exact w_c39
  · exact w_c40
  · exact w_c41
  · exact w_c42
set_option maxRecDepth 65536 in
theorem w_t1 : (words1.take 24).all (fun c => isCode c || c.before args0 about1) = true := by decide +kernel
set_option maxRecDepth 65536 in
theorem w_t2 : ((words1.drop 24).take 24).all (fun c => isCode c || c.before args0 about1) = true := by decide +kernel
set_option maxRecDepth 65536 in
theorem w_t3 : (((words1.drop 24).drop 24).take 24).all (fun c => isCode c || c.before args0 about1) = true := by decide +kernel
set_option maxRecDepth 65536 in
theorem w_t4 : ((((words1.drop 24).drop 24).drop 24).take 24).all (fun c => isCode c || c.before args0 about1) = true := by decide +kernel
set_option maxRecDepth 65536 in
theorem w_t5 : (((((words1.drop 24).drop 24).drop 24).drop 24).take 24).all (fun c => isCode c || c.before args0 about1) = true := by decide +kernel
set_option maxRecDepth 65536 in
theorem w_t6 : ((((((words1.drop 24).drop 24).drop 24).drop 24).drop 24).take 24).all (fun c => isCode c || c.before args0 about1) = true := by decide +kernel
set_option maxRecDepth 65536 in
theorem w_t7 : (((((((words1.drop 24).drop 24).drop 24).drop 24).drop 24).drop 24).take 24).all (fun c => isCode c || c.before args0 about1) = true := by decide +kernel
set_option maxRecDepth 65536 in
theorem w_t8 : ((((((((words1.drop 24).drop 24).drop 24).drop 24).drop 24).drop 24).drop 24).take 24).all (fun c => isCode c || c.before args0 about1) = true := by decide +kernel
set_option maxRecDepth 65536 in
theorem w_t9 : (((((((((words1.drop 24).drop 24).drop 24).drop 24).drop 24).drop 24).drop 24).drop 24).take 24).all (fun c => isCode c || c.before args0 about1) = true := by decide +kernel
set_option maxRecDepth 65536 in
theorem w_t10 : ((((((((((words1.drop 24).drop 24).drop 24).drop 24).drop 24).drop 24).drop 24).drop 24).drop 24).take 24).all (fun c => isCode c || c.before args0 about1) = true := by decide +kernel
set_option maxRecDepth 65536 in
theorem w_t11 : (((((((((((words1.drop 24).drop 24).drop 24).drop 24).drop 24).drop 24).drop 24).drop 24).drop 24).drop 24).take 24).all (fun c => isCode c || c.before args0 about1) = true := by decide +kernel
set_option maxRecDepth 65536 in
theorem w_t12 : ((((((((((((words1.drop 24).drop 24).drop 24).drop 24).drop 24).drop 24).drop 24).drop 24).drop 24).drop 24).drop 24).take 24).all (fun c => isCode c || c.before args0 about1) = true := by decide +kernel
set_option maxRecDepth 65536 in
theorem w_t13 : (((((((((((((words1.drop 24).drop 24).drop 24).drop 24).drop 24).drop 24).drop 24).drop 24).drop 24).drop 24).drop 24).drop 24).take 24).all (fun c => isCode c || c.before args0 about1) = true := by decide +kernel
set_option maxRecDepth 65536 in
theorem w_t14 : ((((((((((((((words1.drop 24).drop 24).drop 24).drop 24).drop 24).drop 24).drop 24).drop 24).drop 24).drop 24).drop 24).drop 24).drop 24).take 24).all (fun c => isCode c || c.before args0 about1) = true := by decide +kernel
set_option maxRecDepth 65536 in
theorem w_t15 : ((((((((((((((words1.drop 24).drop 24).drop 24).drop 24).drop 24).drop 24).drop 24).drop 24).drop 24).drop 24).drop 24).drop 24).drop 24).drop 24).all (fun c => isCode c || c.before args0 about1) = true := by decide +kernel
theorem w_tables : (allAtoms (Jvm.Cond.code x code maxLocals ret :: tables_1)).before args0 about1 = true := by
  rw [allAtoms_all]
  show words1.all (fun c => c.before args0 about1) = true
  refine all_split ?_ w_codes
  rw [← List.take_append_drop 24 words1, List.all_append, w_t1, ← List.take_append_drop 24 (words1.drop 24), List.all_append, w_t2, ← List.take_append_drop 24 ((words1.drop 24).drop 24), List.all_append, w_t3, ← List.take_append_drop 24 (((words1.drop 24).drop 24).drop 24), List.all_append, w_t4, ← List.take_append_drop 24 ((((words1.drop 24).drop 24).drop 24).drop 24), List.all_append, w_t5, ← List.take_append_drop 24 (((((words1.drop 24).drop 24).drop 24).drop 24).drop 24), List.all_append, w_t6, ← List.take_append_drop 24 ((((((words1.drop 24).drop 24).drop 24).drop 24).drop 24).drop 24), List.all_append, w_t7, ← List.take_append_drop 24 (((((((words1.drop 24).drop 24).drop 24).drop 24).drop 24).drop 24).drop 24), List.all_append, w_t8, ← List.take_append_drop 24 ((((((((words1.drop 24).drop 24).drop 24).drop 24).drop 24).drop 24).drop 24).drop 24), List.all_append, w_t9, ← List.take_append_drop 24 (((((((((words1.drop 24).drop 24).drop 24).drop 24).drop 24).drop 24).drop 24).drop 24).drop 24), List.all_append, w_t10, ← List.take_append_drop 24 ((((((((((words1.drop 24).drop 24).drop 24).drop 24).drop 24).drop 24).drop 24).drop 24).drop 24).drop 24), List.all_append, w_t11, ← List.take_append_drop 24 (((((((((((words1.drop 24).drop 24).drop 24).drop 24).drop 24).drop 24).drop 24).drop 24).drop 24).drop 24).drop 24), List.all_append, w_t12, ← List.take_append_drop 24 ((((((((((((words1.drop 24).drop 24).drop 24).drop 24).drop 24).drop 24).drop 24).drop 24).drop 24).drop 24).drop 24).drop 24), List.all_append, w_t13, ← List.take_append_drop 24 (((((((((((((words1.drop 24).drop 24).drop 24).drop 24).drop 24).drop 24).drop 24).drop 24).drop 24).drop 24).drop 24).drop 24).drop 24), List.all_append, w_t14, w_t15]
  rfl
set_option maxRecDepth 65536 in
theorem w_rest : rest_1_c.before args0 about1 = true := by decide +kernel
set_option maxRecDepth 65536 in
theorem w_case : (Jvm.Cond.and given_1 narrow_1).before args0 about1 = true := by decide +kernel
theorem w_applies : (headSpec (Jvm.Cond.code x code maxLocals ret :: tables_1) room_1).applies x e0.platform about1 = true :=
  (Spec.applies_iff w_frames).mpr ⟨w_running, w_runnable, w_alone, w_named, w_hears, w_ripe, w_room, w_tables⟩
theorem atStart : AtStart classFile x code maxLocals ret World_1 tables_1 room_1 Calls_1 rest_1 Pre_1 launch0 p0 e0 about1 theMethod args0 below0 :=
  ⟨lists_1, trivial, launch0.admits_env _ _ _, launch0.least_env, fairChoices_fair.cas, fairChoices_fair.clock, w_frames, w_args, w_heap, w_applies, ⟨⟨23, k23, 2, by decide +kernel, rfl, rfl, _, rfl, rfl⟩, ⟨⟨27, k27, 3, by decide +kernel, rfl, rfl, _, rfl, rfl⟩, trivial⟩⟩, w_rest, w_case⟩
end start1
theorem witness_1 : WitnessClaimed_1 := ⟨start1.p0, start1.e0, start1.about1, start1.theMethod, start1.args0, start1.below0, start1.atStart⟩
end Jvm.Pilot.@@N@@
