import JvmDerived
import JvmDerived.Pilot.@@N@@Statement
import JvmDerived.Pilot.@@N@@Code
set_option linter.unusedVariables false
set_option linter.unusedSimpArgs false
namespace Jvm.Pilot.@@N@@
open Jvm Jvm.ClassFile Sem Op Lib Jvm.Free Jvm.Stand Jvm.LawKit Jvm.RoadKit Bundle Jvm.Pilot.@@N@@.Jvm.D
def oEL : List (String × Nat) := [("java/lang/String", 7)]
/-! the setting of a body's walk, a point of it, and 'it comes to its end' -/
/-! the literals' invariant (the library's CHv): whatever is booked for an entry of oEL says its text; sf: cells that are no booked ones; ld: may this body have loaded a literal -/
def oI (Z s : State) (vm0 : Vm) (h : Heap) (sf : List Addr) (ld : Bool) : Prop := CHv Z oEL vm0 h ∧ (∀ x ∈ sf, x < h.size ∧ Safe Z oEL vm0 h x) ∧ s.heap.size ≤ h.size ∧ ∀ y, Bk Z oEL vm0 h y → Bk Z oEL s.vm s.heap y ∨ (ld = true ∧ s.heap.size ≤ y)
def oFin (Z s t : State) (lg : Bool) : Prop := CHv Z oEL t.vm t.heap ∧ ∀ y, Bk Z oEL t.vm t.heap y → Bk Z oEL s.vm s.heap y ∨ (lg = true ∧ s.heap.size ≤ y)
def oCtx (p : Program) (s : State) (m : MethodId) (meth : Method) (c : Code) (Z : State) (own : String) (cb : ByteArray) (ml : Nat) (nm : String) (rt : Option FieldType) (yy : MethodName) : Prop :=
  p.tables.exec = Jvm.exec ∧ Z.Warmed39 s.vm ∧ c.code = cb ∧ c.maxLocals = ml ∧ s.vm.findClass own = some m.cls ∧ meth.name = nm ∧ meth.sig.returnType = rt ∧ meth.locks = false ∧ s.methodNamed? yy = some m ∧ ∃ a0, EW Z a0 oEL
def oSt (p : Program) (l : Launch) (e : Env) (R : Room) (s : State) (m : MethodId) (args : Array Value) (below : List Frame) (meth : Method) (c : Code) (Z T : State) (h : Heap) (cells slots : Nat) (sf : List Addr) (ld : Bool) : Prop :=
  ∃ vm0 k0, s.Since vm0 k0 ∧ k0 ≤ h.size ∧ ∃ locs, Stand p l e R (s.setVm vm0) m args below meth c T locs cells slots ∧ T.heap = h ∧ Fr Z.heap.size locs ∧ Ext Z.heap h ∧ oI Z s vm0 h sf ld
def oGoes (p : Program) (e : Env) (below : List Frame) (s Z T : State) (f : JFrame) (Q : Option Value → Heap → Prop) (cl sl : Nat) (lg : Bool) : Prop :=
  ∃ t o, Steps p.tables e below (T.setTop f) t ∧ t.status = .running ∧ Ended t below o ∧ ∃ v L, o = .returned v ∧ Q v t.heap ∧ Fr Z.heap.size L ∧ Ext Z.heap t.heap ∧ oFin Z s t lg ∧ ReturnedEndW s o t L cl sl
/-- a body's contract: called with 'as' at the heap h0 it returns, and Q says what it leaves -/
def oMet (l : Launch) (Z : State) (y : MethodName) (cb : ByteArray) (ml : Nat) (rt : Option FieldType) (rm : Room) (ws : List Jvm.Cond) (as : Array Value) (h0 : Heap) (Q : Option Value → Heap → Prop) (sf : List Addr) (lg : Bool) : Prop :=
  Ext Z.heap h0 → MetFree l y (head1 (Jvm.Cond.code y cb ml rt :: ws) rm) (fun a U => a = as ∧ Z.Warmed39 U.vm ∧ U.heap = h0 ∧ CHv Z oEL U.vm h0 ∧ ∀ x ∈ sf, x < h0.size ∧ Safe Z oEL U.vm h0 x) (fun _ _ _ _ _ => True)
    (fun _ U o U' => ∃ v L, o = .returned v ∧ (Q v U'.heap ∧ Fr Z.heap.size L ∧ Ext Z.heap U'.heap ∧ oFin Z U U' lg) ∧ ReturnedEndW U o U' L rm.cells rm.slots)
section Own
variable {p : Program} {l : Launch} {e : Env} {R : Room} {s : State} {m : MethodId} {args : Array Value} {below : List Frame} {meth : Method} {c : Code} {Z T : State} {h : Heap} {cells slots cl sl : Nat} {own nm : String} {cb : ByteArray} {yy : MethodName} {ml : Nat} {rt : Option FieldType} {Q : Option Value → Heap → Prop} {L L' : Array Slot} {S : List Value} {pc pc' : Nat} {a0 : Array Value} {sf : List Addr} {ld lg lf : Bool}
theorem oGoes.go {T' : State} {f f' : JFrame} (g : oGoes p e below s Z T' f' Q cl sl lg) (st : ∀ t, Steps p.tables e below (T'.setTop f') t → Steps p.tables e below (T.setTop f) t) : oGoes p e below s Z T f Q cl sl lg := by
  obtain ⟨t, o, h1, r⟩ := g
  exact ⟨t, o, st t h1, r⟩
theorem oWz {vm0 : Vm} {k0 : Nat} (K : oCtx p s m meth c Z own cb ml nm rt yy) (hS : s.Since vm0 k0) : Z.Warmed39 (s.setVm vm0).vm := State.Warmed39.trans K.2.1 hS.1
theorem oWo {vm0 : Vm} {k0 : Nat} (K : oCtx p s m meth c Z own cb ml nm rt yy) (hS : s.Since vm0 k0) : (s.setVm vm0).vm.findClass own = some m.cls := (hS.1.alike.findClass _ _).trans K.2.2.2.2.1
theorem oSt.ext0 (X : oSt p l e R s m args below meth c Z T h cells slots sf ld) : Ext Z.heap h := by obtain ⟨_, _, _, _, _, _, _, _, E, _⟩ := X; exact E
theorem oExt_wr {h h' : Heap} {a : Addr} {k : Nat} {v : Value} (E : Ext Z.heap h) (W : Wr h h' a k v) (q : Z.heap.size ≤ a) : Ext Z.heap h' :=
  (Old.wr (n0 := Z.heap.size) ⟨rfl, E⟩ W q).2
theorem oExt_trans {h1 h2 h3 : Heap} (E : Ext h1 h2) (E' : Ext h2 h3) : Ext h1 h3 := ⟨Nat.le_trans E.1 E'.1, fun a c q => E'.2 a c (E.2 a c q)⟩
theorem oExaLt {a : Addr} {C : String} (E : Exa Z h a C) : a < h.size := by
  obtain ⟨_, _, e, _⟩ := E
  exact (Array.getElem?_eq_some_iff.mp e).1
theorem oI.wr {vm0 : Vm} {h' : Heap} {a : Addr} {k : Nat} {v : Value} (J : oI Z s vm0 h sf ld) (W : Wr h h' a k v) (hsf : a ∈ sf) : oI Z s vm0 h' sf ld := by
  have q := CHv.wrStep W (J.2.1 a hsf).2 J.1
  have g := (Keep.of_wr W).1
  exact ⟨q.1, fun x hx => ⟨Nat.lt_of_lt_of_le (J.2.1 x hx).1 g, fun B => (J.2.1 x hx).2 (q.2 x B)⟩, Nat.le_trans J.2.2.1 g, fun y B => J.2.2.2 y (q.2 y B)⟩
theorem oI.keep {vm0 : Vm} {h' : Heap} {ws : List Addr} (J : oI Z s vm0 h sf ld) (W : Keep h h' ws) (hsf : ∀ x ∈ ws, x ∈ sf) : oI Z s vm0 h' sf ld := by
  have q := CHv.keepStep W (fun x hx => (J.2.1 x (hsf x hx)).2) J.1
  exact ⟨q.1, fun x hx => ⟨Nat.lt_of_lt_of_le (J.2.1 x hx).1 W.1, fun B => (J.2.1 x hx).2 (q.2 x B)⟩, Nat.le_trans J.2.2.1 W.1, fun y B => J.2.2.2 y (q.2 y B)⟩
theorem oI.new {vm0 : Vm} {h' : Heap} {b : Addr} (J : oI Z s vm0 h sf ld) (E : Ext h h') (hb : h.size ≤ b) (hb' : b < h'.size) : oI Z s vm0 h' (b :: sf) ld := by
  have q := J.1.step (h' := h') fun _ _ _ q => E.2 _ _ q
  refine ⟨q.1, fun x hx => ?_, Nat.le_trans J.2.2.1 E.1, fun y B => J.2.2.2 y (q.2 y B)⟩
  rcases List.mem_cons.mp hx with rfl | hx
  · exact ⟨hb', fun B => Safe.new hb (q.2 _ B)⟩
  · exact ⟨Nat.lt_of_lt_of_le (J.2.1 x hx).1 E.1, fun B => (J.2.1 x hx).2 (q.2 x B)⟩
theorem oI.load {vm0 vm1 : Vm} {h' : Heap} (J : oI Z s vm0 h sf ld) (C : CHr Z oEL vm0 h vm1 h') : oI Z s vm1 h' sf true := by
  refine ⟨C.1, fun x hx => ⟨Nat.lt_of_lt_of_le (J.2.1 x hx).1 C.2.1, CHr.safe C (J.2.1 x hx).1 (J.2.1 x hx).2⟩, Nat.le_trans J.2.2.1 C.2.1, fun y B => ?_⟩
  rcases C.2.2 y B with q | q
  · exact (J.2.2.2 y q).imp id fun r => ⟨rfl, r.2⟩
  · exact Or.inr ⟨rfl, Nat.le_trans J.2.2.1 q⟩
theorem oI.call {vm0 vm1 : Vm} {h' : Heap} (J : oI Z s vm0 h sf ld) (C : CHv Z oEL vm1 h') (g : h.size ≤ h'.size) (B : ∀ y, Bk Z oEL vm1 h' y → Bk Z oEL vm0 h y ∨ (lf = true ∧ h.size ≤ y)) (rs : List Addr) (h1 : lf = false ∨ rs = []) (h2 : ∀ r ∈ rs, h.size ≤ r ∧ r < h'.size) : oI Z s vm1 h' (rs ++ sf) (ld || lf) := by
  refine ⟨C, fun x hx => ?_, Nat.le_trans J.2.2.1 g, fun y b => ?_⟩
  · rcases List.mem_append.mp hx with hx | hx
    · refine ⟨(h2 x hx).2, fun b => ?_⟩
      rcases h1 with h1 | h1
      · rcases B x b with q | q
        · exact Safe.new (h2 x hx).1 q
        · rw [h1] at q; exact absurd q.1 (by decide)
      · rw [h1] at hx; cases hx
    · refine ⟨Nat.lt_of_lt_of_le (J.2.1 x hx).1 g, fun b => ?_⟩
      rcases B x b with q | q
      · exact (J.2.1 x hx).2 q
      · exact absurd (J.2.1 x hx).1 (Nat.not_lt.mpr q.2)
  · rcases B y b with q | q
    · rcases J.2.2.2 y q with r | r
      · exact Or.inl r
      · exact Or.inr ⟨by rw [r.1]; rfl, r.2⟩
    · exact Or.inr ⟨by rw [q.1]; simp, Nat.le_trans J.2.2.1 q.2⟩
theorem oBackH {y : MethodName} {bytes : ByteArray} {maxL : Nat} {ret : Option FieldType} {rm : Room} {len W : Nat} {as' : Array Value} {Qc : Option Value → Heap → Prop} {vm0 : Vm} {sfc : List Addr} (hM : oMet l Z y bytes maxL ret rm [] as' h Qc sfc lf) (E : Ext Z.heap h) (hE : ∃ a0, EW Z a0 oEL) (H : CHv Z oEL vm0 h) (hs : ∀ x ∈ sfc, x < h.size ∧ Safe Z oEL vm0 h x)
    (hZ : Z.Warmed39 (s.setVm vm0).vm) (wc : (Jvm.Cond.code y bytes maxL ret).before a0 Z = true) (wz : (Jvm.Cond.initialized y.cls).before a0 Z = true) (hf : rm.frames + 1 ≤ R.frames) (hl : W + (maxL + 11) + rm.locals ≤ R.locals) :
    BackS l R p e below (s.setVm vm0) args y len W (fun A a => a = as' ∧ A.U.heap = h ∧ A.cells + rm.cells ≤ R.cells ∧ A.slots + rm.slots ≤ R.slots)
      (fun A _ v B => ∃ L, (Qc v B.U.heap ∧ Fr Z.heap.size L ∧ Ext Z.heap B.U.heap ∧ CHv Z oEL B.U.vm B.U.heap ∧ ∀ y, Bk Z oEL B.U.vm B.U.heap y → Bk Z oEL vm0 h y ∨ (lf = true ∧ h.size ≤ y)) ∧ B.locs = A.locs ++ L ∧ B.cells = A.cells + rm.cells ∧ B.slots = A.slots + rm.slots) := by
  obtain ⟨a1, hE⟩ := hE
  exact BackS.of_freeW (bytes := bytes) (maxL := maxL) (ret := ret) (E := fun _ first o t L k n => k = rm.cells ∧ n = rm.slots ∧ (∃ v, o = .returned v ∧ Qc v t.heap ∧ Fr Z.heap.size L ∧ Ext Z.heap t.heap) ∧ oFin Z first t lf) (hM E) hf hl
    (fun m meth c A a Y hp => have hU : Z.Warmed39 A.U.vm := wtrans (s := s.setVm vm0) hZ Y.warmed
      ⟨by show (Cond.and _ .tt).before a A.U = true; rw [Cond.before_and, mv hU wc]; rfl, mv hU wc, mv hU wz, hp.2.2.1, hp.2.2.2⟩)
    (fun m meth c A a g mk Y hp => ⟨hp.1, wtrans (s := s.setVm vm0) hZ Y.warmed, hp.2.1, (CHv.at Y hZ hE H).1, fun x hx => ⟨(hs x hx).1, CHr.safe (CHv.at Y hZ hE H) (hs x hx).1 (hs x hx).2⟩⟩) (fun _ _ _ _ _ _ _ _ _ => trivial)
    (fun _ _ _ _ ⟨v, L, h1, ⟨h2, h3, h4, h5⟩, h6⟩ => ⟨L, _, _, h6, rfl, rfl, ⟨v, h1, h2, h3, h4⟩, h5⟩)
    (fun m meth c A a g mk v t L k n Y hp _ _ ⟨e1, e2, ⟨v', e3, e4, e5, e6⟩, e7⟩ => by
      cases e3; subst e1 e2
      refine ⟨L, ⟨e4, e5, e6, e7.1, fun y B => ?_⟩, rfl, rfl, rfl⟩
      have hh : A.U.heap = h := hp.2.1
      rcases e7.2 y B with q | q
      · have q' : Bk Z oEL A.U.vm A.U.heap y := q
        rw [hh] at q'
        rcases (CHv.at Y hZ hE H).2.2 y q' with r | r
        · exact Or.inl r
        · exact absurd q' (Safe.new r)
      · have q2 : A.U.heap.size ≤ y := q.2
        rw [hh] at q2
        exact Or.inr ⟨q.1, q2⟩)
theorem oEnter (hE : EW Z a0 oEL) {y : MethodName} {ws : List Jvm.Cond} {rm : Room} {as : Array Value} {h0 : Heap} (hx : plainFor y = true) (ho : y.cls = own) (hn : y.name = nm) {L : Array Slot} (hf : ∀ m, entryFrame m as ml = mkF m 0 L [])
    (body : ∀ p e s m below meth c T, oCtx p s m meth c Z own cb ml nm rt y → oSt p l e rm s m as below meth c Z T h0 0 0 sf false → oGoes p e below s Z T (mkF m 0 L []) Q rm.cells rm.slots lg) : oMet l Z y cb ml rt rm ws as h0 Q sf lg := by
  intro E
  subst ho hn
  refine MetFree.of_bodySF hx hisR ?_
  intro p e s m args below meth c s₁ Bd hml0 hP hK
  obtain ⟨rfl, hZ, hh, hCH, hSf⟩ := hP
  have e0 : s₁.heap = h0 := by rw [← hh, Bd.state]; rfl
  obtain ⟨t, o, h1, h2, h3, v, L', h4, h5, h6, h7, h9, h8⟩ := body p e s m below meth c s₁ ⟨Bd.exec, hZ, Bd.bytes, hml0, findClass_of_methodNamed Bd.named, (name_of_methodNamed Bd.named Bd.method).1, Bd.returns, BodyLoose.notSynchronized Bd, Bd.named, _, hE⟩ ⟨s.vm, 0, State.WarmedH.since (State.WarmedH.refl s) 0, Nat.zero_le _, [], Stand.of_body Bd, e0, Fr.nil _, E, hCH, hSf, Nat.le_of_eq (congrArg Array.size hh), fun y B => Or.inl (by rw [hh]; exact B)⟩
  exact ⟨t, o, castTop (hf m) h1, h2, h3, v, L', h4, ⟨h5, h6, h7, h9⟩, h8⟩
theorem oLeave (K : oCtx p s m meth c Z own cb ml nm rt yy) (X : oSt p l e R s m args below meth c Z T h cells slots sf ld) (rv : Option Value) (hv : meth.sig.returnType = none → rv = none) (hlk : meth.locks = false) (hQ : Q rv h) (hc : cells ≤ cl) (hs : slots ≤ sl) (hld : ld = true → lg = true) {f : JFrame}
    (st : ∀ fs, (∀ (f : JFrame) (acts : List Action), f.method = m → f.locked = none → f.entered = [] → (doReturn e (T.setTop f) acts rv).1 = T.setFrames fs) → Steps p.tables e below (T.setTop f) (T.setFrames fs)) : oGoes p e below s Z T f Q cl sl lg := by
  obtain ⟨vm0, k0, hS, hk, locs, X, eT, N, E, J⟩ := X
  have hZ := oWz K hS
  obtain ⟨a1, hE⟩ := K.2.2.2.2.2.2.2.2.2
  have CA := CHv.at X hZ hE J.1
  obtain ⟨fs, hr, hrun, hended, hW, hsame⟩ := X.leave (v := rv) hv hlk
  have e2 : (T.setFrames fs).heap = h := eT
  refine ⟨_, _, st fs hr, hrun, hended, _, locs, rfl, ?_, N, ?_, ?_, ?_⟩
  · rw [e2]; exact hQ
  · rw [e2]; exact E
  · refine ⟨by rw [e2]; exact CA.1, fun y B => ?_⟩
    rw [e2] at B
    have B' : Bk Z oEL T.vm h y := B
    rcases CA.2.2 y B' with r | r
    · exact (J.2.2.2 y r).imp id fun t => ⟨hld t.1, t.2⟩
    · exact absurd B' (Safe.new r)
  · have h2 : s.Since (T.setFrames fs).vm (T.setFrames fs).heap.size := hS.trans (hW.since _) (by rw [e2]; exact hk)
    exact ⟨⟨_, rfl⟩, h2.1, h2.2, (hsame.setVm s.vm).mono hc hs⟩
theorem o_return (K : oCtx p s m meth c Z own cb ml nm rt yy) (X : oSt p l e R s m args below meth c Z T h cells slots sf ld) (hd : decode cb pc = .ok (.return_, 1)) (hrt : rt = none) (hQ : Q none h) (hc : cells ≤ cl) (hs : slots ≤ sl) (hld : ld = true → lg = true) : oGoes p e below s Z T (mkF m pc L []) Q cl sl lg := by
  refine oLeave K X none (fun _ => rfl) K.2.2.2.2.2.2.2.1 hQ hc hs hld fun fs hr => ?_
  obtain ⟨vm0, k0, hS, hk, locs, X, eT, N, E, J⟩ := X
  have hZ := oWz K hS
  have hown := oWo K hS
  exact X.returnOut K.1 (K.2.2.2.2.2.2.1.trans hrt) (hb K.2.2.1 hd) hr
theorem o_ireturnN (K : oCtx p s m meth c Z own cb ml nm rt yy) (X : oSt p l e R s m args below meth c Z T h cells slots sf ld) (t : FieldType) {z z' : Int32} (hd : decode cb pc = .ok (.ireturn, 1)) (hrt : rt = some t) (ht : t = .boolean ∨ t = .byte ∨ t = .char ∨ t = .short) (hz : nar t z = z') (hQ : Q (some (.int z')) h) (hc : cells ≤ cl) (hs : slots ≤ sl) (hld : ld = true → lg = true) : oGoes p e below s Z T (mkF m pc L (.int z :: S)) Q cl sl lg := by
  subst hz
  have hr0 : meth.sig.returnType = some t := K.2.2.2.2.2.2.1.trans hrt
  refine oLeave K X (some (.int (nar t z))) (fun q => by rw [hr0] at q; cases q) K.2.2.2.2.2.2.2.1 hQ hc hs hld fun fs hr => ?_
  obtain ⟨vm0, k0, hS, hk, locs, X, eT, N, E, J⟩ := X
  have hZ := oWz K hS
  have hown := oWo K hS
  exact retN X K.1 (t := t) hr0 ht (hb K.2.2.1 hd) hr
theorem o_ireturn (K : oCtx p s m meth c Z own cb ml nm rt yy) (X : oSt p l e R s m args below meth c Z T h cells slots sf ld) {z : Int32} (hd : decode cb pc = .ok (.ireturn, 1)) (hrt : rt = some .int) (hQ : Q (some (.int z)) h) (hc : cells ≤ cl) (hs : slots ≤ sl) (hld : ld = true → lg = true) : oGoes p e below s Z T (mkF m pc L (.int z :: S)) Q cl sl lg := by
  have hr0 : meth.sig.returnType = some .int := K.2.2.2.2.2.2.1.trans hrt
  refine oLeave K X (some (.int z)) (fun q => by rw [hr0] at q; cases q) K.2.2.2.2.2.2.2.1 hQ hc hs hld fun fs hl => ?_
  obtain ⟨vm0, k0, hS, hk, locs, X, eT, N, E, J⟩ := X
  have hZ := oWz K hS
  have hown := oWo K hS
  have hm' : T.vm.method? m = some meth := X.method'
  have hn : narrow .int (.int z) = .int z := rfl
  have hd' := hb K.2.2.1 hd
  have hx := K.1
  show Steps p.tables e below (T.setTop { method := m, pc := pc, locals := L, stack := _ :: S, locked := none }) _
  jvm_step X.here [X.here.top, hx, hd', hm', hr0, hn]
  first | (intro acts; rw [hl _ acts rfl rfl rfl]) | rw [hl _ _ rfl rfl rfl]
  exact Steps.refl _
theorem o_areturn (K : oCtx p s m meth c Z own cb ml nm rt yy) (X : oSt p l e R s m args below meth c Z T h cells slots sf ld) {t : FieldType} {v : Value} (hd : decode cb pc = .ok (.areturn, 1)) (hrt : rt = some t) (ht : t.isReference = true) (hv : v.isRef = true) (hQ : Q (some v) h) (hc : cells ≤ cl) (hs : slots ≤ sl) (hld : ld = true → lg = true) : oGoes p e below s Z T (mkF m pc L (v :: S)) Q cl sl lg := by
  have hr0 : meth.sig.returnType = some t := K.2.2.2.2.2.2.1.trans hrt
  refine oLeave K X (some v) (fun q => by rw [hr0] at q; cases q) K.2.2.2.2.2.2.2.1 hQ hc hs hld fun fs hl => ?_
  obtain ⟨vm0, k0, hS, hk, locs, X, eT, N, E, J⟩ := X
  have hZ := oWz K hS
  have hown := oWo K hS
  have hm' : T.vm.method? m = some meth := X.method'
  have hd' := hb K.2.2.1 hd
  have hx := K.1
  show Steps p.tables e below (T.setTop { method := m, pc := pc, locals := L, stack := _ :: S, locked := none }) _
  jvm_step X.here [X.here.top, hx, hd', hm', hr0, ht, hv]
  first | (intro acts; rw [hl _ acts rfl rfl rfl]) | rw [hl _ _ rfl rfl rfl]
  exact Steps.refl _
theorem o_iload (K : oCtx p s m meth c Z own cb ml nm rt yy) (X : oSt p l e R s m args below meth c Z T h cells slots sf ld) {k : Nat} {v : Int32} (hd : decode cb pc = .ok (.iload k, 2)) (hp : pc + 2 = pc') (hl : L[k]? = some (.val (.int v))) (g : oGoes p e below s Z T (mkF m pc' L (.int v :: S)) Q cl sl lg) : oGoes p e below s Z T (mkF m pc L S) Q cl sl lg := by
  obtain ⟨vm0, k0, hS, hk, locs, X, eT, N, E, J⟩ := X
  have hZ := oWz K hS
  have hown := oWo K hS
  subst hp
  exact g.go fun t r => XS.iload X.here K.1 rfl (hb K.2.2.1 hd) hl r
theorem o_iloadN (K : oCtx p s m meth c Z own cb ml nm rt yy) (X : oSt p l e R s m args below meth c Z T h cells slots sf ld) {k : Fin 4} {v : Int32} (hd : decode cb pc = .ok (.iload_n k, 1)) (hp : pc + 1 = pc') (hl : L[k.val]? = some (.val (.int v))) (g : oGoes p e below s Z T (mkF m pc' L (.int v :: S)) Q cl sl lg) : oGoes p e below s Z T (mkF m pc L S) Q cl sl lg := by
  obtain ⟨vm0, k0, hS, hk, locs, X, eT, N, E, J⟩ := X
  have hZ := oWz K hS
  have hown := oWo K hS
  subst hp
  exact g.go fun t r => XS.iloadN X.here K.1 rfl (hb K.2.2.1 hd) hl r
theorem o_istore (K : oCtx p s m meth c Z own cb ml nm rt yy) (X : oSt p l e R s m args below meth c Z T h cells slots sf ld) {k : Nat} {v : Int32} (hd : decode cb pc = .ok (.istore k, 2)) (hp : pc + 2 = pc') (hl : storeLocals L k (.int v) = some L') (g : oGoes p e below s Z T (mkF m pc' L' S) Q cl sl lg) : oGoes p e below s Z T (mkF m pc L (.int v :: S)) Q cl sl lg := by
  obtain ⟨vm0, k0, hS, hk, locs, X, eT, N, E, J⟩ := X
  have hZ := oWz K hS
  have hown := oWo K hS
  subst hp
  exact g.go fun t r => XS.istore X.here K.1 rfl (hb K.2.2.1 hd) rfl hl r
theorem o_istoreN (K : oCtx p s m meth c Z own cb ml nm rt yy) (X : oSt p l e R s m args below meth c Z T h cells slots sf ld) {k : Fin 4} {v : Int32} (hd : decode cb pc = .ok (.istore_n k, 1)) (hp : pc + 1 = pc') (hl : storeLocals L k.val (.int v) = some L') (g : oGoes p e below s Z T (mkF m pc' L' S) Q cl sl lg) : oGoes p e below s Z T (mkF m pc L (.int v :: S)) Q cl sl lg := by
  obtain ⟨vm0, k0, hS, hk, locs, X, eT, N, E, J⟩ := X
  have hZ := oWz K hS
  have hown := oWo K hS
  subst hp
  exact g.go fun t r => XS.istoreN X.here K.1 rfl (hb K.2.2.1 hd) rfl hl r
theorem o_aload (K : oCtx p s m meth c Z own cb ml nm rt yy) (X : oSt p l e R s m args below meth c Z T h cells slots sf ld) {k : Nat} {v : Value} (hd : decode cb pc = .ok (.aload k, 2)) (hp : pc + 2 = pc') (hl : L[k]? = some (.val v)) (hv : v.isRef = true) (g : oGoes p e below s Z T (mkF m pc' L (v :: S)) Q cl sl lg) : oGoes p e below s Z T (mkF m pc L S) Q cl sl lg := by
  obtain ⟨vm0, k0, hS, hk, locs, X, eT, N, E, J⟩ := X
  have hZ := oWz K hS
  have hown := oWo K hS
  subst hp
  exact g.go fun t r => XS.aload X.here K.1 rfl (hb K.2.2.1 hd) hl hv r
theorem o_aloadN (K : oCtx p s m meth c Z own cb ml nm rt yy) (X : oSt p l e R s m args below meth c Z T h cells slots sf ld) {k : Fin 4} {v : Value} (hd : decode cb pc = .ok (.aload_n k, 1)) (hp : pc + 1 = pc') (hl : L[k.val]? = some (.val v)) (hv : v.isRef = true) (g : oGoes p e below s Z T (mkF m pc' L (v :: S)) Q cl sl lg) : oGoes p e below s Z T (mkF m pc L S) Q cl sl lg := by
  obtain ⟨vm0, k0, hS, hk, locs, X, eT, N, E, J⟩ := X
  have hZ := oWz K hS
  have hown := oWo K hS
  subst hp
  exact g.go fun t r => XS.aloadN X.here K.1 rfl (hb K.2.2.1 hd) hl hv r
theorem o_astore (K : oCtx p s m meth c Z own cb ml nm rt yy) (X : oSt p l e R s m args below meth c Z T h cells slots sf ld) {k : Nat} {v : Value} (hd : decode cb pc = .ok (.astore k, 2)) (hp : pc + 2 = pc') (hv : v.isRef = true) (hl : storeLocals L k v = some L') (g : oGoes p e below s Z T (mkF m pc' L' S) Q cl sl lg) : oGoes p e below s Z T (mkF m pc L (v :: S)) Q cl sl lg := by
  obtain ⟨vm0, k0, hS, hk, locs, X, eT, N, E, J⟩ := X
  have hZ := oWz K hS
  have hown := oWo K hS
  subst hp
  exact g.go fun t r => XS.astore X.here K.1 rfl (hb K.2.2.1 hd) rfl hv hl r
theorem o_astoreN (K : oCtx p s m meth c Z own cb ml nm rt yy) (X : oSt p l e R s m args below meth c Z T h cells slots sf ld) {k : Fin 4} {v : Value} (hd : decode cb pc = .ok (.astore_n k, 1)) (hp : pc + 1 = pc') (hv : v.isRef = true) (hl : storeLocals L k.val v = some L') (g : oGoes p e below s Z T (mkF m pc' L' S) Q cl sl lg) : oGoes p e below s Z T (mkF m pc L (v :: S)) Q cl sl lg := by
  obtain ⟨vm0, k0, hS, hk, locs, X, eT, N, E, J⟩ := X
  have hZ := oWz K hS
  have hown := oWo K hS
  subst hp
  exact g.go fun t r => XS.astoreN X.here K.1 rfl (hb K.2.2.1 hd) rfl hv hl r
theorem o_iconst (K : oCtx p s m meth c Z own cb ml nm rt yy) (X : oSt p l e R s m args below meth c Z T h cells slots sf ld) {i : Int} {z : Int32} (hd : decode cb pc = .ok (.iconst i, 1)) (hp : pc + 1 = pc') (hz : Int32.ofInt i = z) (g : oGoes p e below s Z T (mkF m pc' L (.int z :: S)) Q cl sl lg) : oGoes p e below s Z T (mkF m pc L S) Q cl sl lg := by
  obtain ⟨vm0, k0, hS, hk, locs, X, eT, N, E, J⟩ := X
  have hZ := oWz K hS
  have hown := oWo K hS
  subst hp
  exact g.go fun t r => XS.iconst X.here K.1 rfl (hb K.2.2.1 hd) (hz ▸ r)
theorem o_bipush (K : oCtx p s m meth c Z own cb ml nm rt yy) (X : oSt p l e R s m args below meth c Z T h cells slots sf ld) {i : Int} {z : Int32} (hd : decode cb pc = .ok (.bipush i, 2)) (hp : pc + 2 = pc') (hz : (Int8.ofInt i).toInt32 = z) (g : oGoes p e below s Z T (mkF m pc' L (.int z :: S)) Q cl sl lg) : oGoes p e below s Z T (mkF m pc L S) Q cl sl lg := by
  obtain ⟨vm0, k0, hS, hk, locs, X, eT, N, E, J⟩ := X
  have hZ := oWz K hS
  have hown := oWo K hS
  subst hp
  exact g.go fun t r => XS.bipush X.here K.1 rfl (hb K.2.2.1 hd) (hz ▸ r)
theorem o_sipush (K : oCtx p s m meth c Z own cb ml nm rt yy) (X : oSt p l e R s m args below meth c Z T h cells slots sf ld) {i : Int} {z : Int32} (hd : decode cb pc = .ok (.sipush i, 3)) (hp : pc + 3 = pc') (hz : (Int16.ofInt i).toInt32 = z) (g : oGoes p e below s Z T (mkF m pc' L (.int z :: S)) Q cl sl lg) : oGoes p e below s Z T (mkF m pc L S) Q cl sl lg := by
  obtain ⟨vm0, k0, hS, hk, locs, X, eT, N, E, J⟩ := X
  have hZ := oWz K hS
  have hown := oWo K hS
  subst hp
  exact g.go fun t r => XS.sipush X.here K.1 rfl (hb K.2.2.1 hd) (hz ▸ r)
theorem o_aconst_null (K : oCtx p s m meth c Z own cb ml nm rt yy) (X : oSt p l e R s m args below meth c Z T h cells slots sf ld)  (hd : decode cb pc = .ok (.aconst_null, 1)) (hp : pc + 1 = pc') (g : oGoes p e below s Z T (mkF m pc' L (.null :: S)) Q cl sl lg) : oGoes p e below s Z T (mkF m pc L S) Q cl sl lg := by
  obtain ⟨vm0, k0, hS, hk, locs, X, eT, N, E, J⟩ := X
  have hZ := oWz K hS
  have hown := oWo K hS
  subst hp
  exact g.go fun t r => XS.aconstNull X.here K.1 rfl (hb K.2.2.1 hd) r
theorem o_iadd (K : oCtx p s m meth c Z own cb ml nm rt yy) (X : oSt p l e R s m args below meth c Z T h cells slots sf ld) {x y z : Int32} (hd : decode cb pc = .ok (.iadd, 1)) (hp : pc + 1 = pc') (hz : x + y = z) (g : oGoes p e below s Z T (mkF m pc' L (.int z :: S)) Q cl sl lg) : oGoes p e below s Z T (mkF m pc L (.int y :: .int x :: S)) Q cl sl lg := by
  obtain ⟨vm0, k0, hS, hk, locs, X, eT, N, E, J⟩ := X
  have hZ := oWz K hS
  have hown := oWo K hS
  subst hp
  exact g.go fun t r => XS.iadd X.here K.1 rfl (hb K.2.2.1 hd) rfl (hz ▸ r)
theorem o_isub (K : oCtx p s m meth c Z own cb ml nm rt yy) (X : oSt p l e R s m args below meth c Z T h cells slots sf ld) {x y z : Int32} (hd : decode cb pc = .ok (.isub, 1)) (hp : pc + 1 = pc') (hz : x - y = z) (g : oGoes p e below s Z T (mkF m pc' L (.int z :: S)) Q cl sl lg) : oGoes p e below s Z T (mkF m pc L (.int y :: .int x :: S)) Q cl sl lg := by
  obtain ⟨vm0, k0, hS, hk, locs, X, eT, N, E, J⟩ := X
  have hZ := oWz K hS
  have hown := oWo K hS
  subst hp
  exact g.go fun t r => XS.isub X.here K.1 rfl (hb K.2.2.1 hd) rfl (hz ▸ r)
theorem o_iand (K : oCtx p s m meth c Z own cb ml nm rt yy) (X : oSt p l e R s m args below meth c Z T h cells slots sf ld) {x y z : Int32} (hd : decode cb pc = .ok (.iand, 1)) (hp : pc + 1 = pc') (hz : x &&& y = z) (g : oGoes p e below s Z T (mkF m pc' L (.int z :: S)) Q cl sl lg) : oGoes p e below s Z T (mkF m pc L (.int y :: .int x :: S)) Q cl sl lg := by
  obtain ⟨vm0, k0, hS, hk, locs, X, eT, N, E, J⟩ := X
  have hZ := oWz K hS
  have hown := oWo K hS
  subst hp
  exact g.go fun t r => XS.iand X.here K.1 rfl (hb K.2.2.1 hd) rfl (hz ▸ r)
theorem o_iushr (K : oCtx p s m meth c Z own cb ml nm rt yy) (X : oSt p l e R s m args below meth c Z T h cells slots sf ld) {x y z : Int32} (hd : decode cb pc = .ok (.iushr, 1)) (hp : pc + 1 = pc') (hz : (x.toUInt32 >>> (y &&& 31).toUInt32).toInt32 = z) (g : oGoes p e below s Z T (mkF m pc' L (.int z :: S)) Q cl sl lg) : oGoes p e below s Z T (mkF m pc L (.int y :: .int x :: S)) Q cl sl lg := by
  obtain ⟨vm0, k0, hS, hk, locs, X, eT, N, E, J⟩ := X
  have hZ := oWz K hS
  have hown := oWo K hS
  subst hp
  exact g.go fun t r => XS.iushr X.here K.1 rfl (hb K.2.2.1 hd) rfl (hz ▸ r)
theorem o_i2b (K : oCtx p s m meth c Z own cb ml nm rt yy) (X : oSt p l e R s m args below meth c Z T h cells slots sf ld) {x : Int32} {z : Int32} (hd : decode cb pc = .ok (.i2b, 1)) (hp : pc + 1 = pc') (hz : x.toInt8.toInt32 = z) (g : oGoes p e below s Z T (mkF m pc' L (.int z :: S)) Q cl sl lg) : oGoes p e below s Z T (mkF m pc L (.int x :: S)) Q cl sl lg := by
  obtain ⟨vm0, k0, hS, hk, locs, X, eT, N, E, J⟩ := X
  have hZ := oWz K hS
  have hown := oWo K hS
  subst hp
  exact g.go fun t r => XS.i2b X.here K.1 rfl (hb K.2.2.1 hd) rfl (hz ▸ r)
theorem o_i2c (K : oCtx p s m meth c Z own cb ml nm rt yy) (X : oSt p l e R s m args below meth c Z T h cells slots sf ld) {x : Int32} {z : Int32} (hd : decode cb pc = .ok (.i2c, 1)) (hp : pc + 1 = pc') (hz : x.toUInt32.toUInt16.toUInt32.toInt32 = z) (g : oGoes p e below s Z T (mkF m pc' L (.int z :: S)) Q cl sl lg) : oGoes p e below s Z T (mkF m pc L (.int x :: S)) Q cl sl lg := by
  obtain ⟨vm0, k0, hS, hk, locs, X, eT, N, E, J⟩ := X
  have hZ := oWz K hS
  have hown := oWo K hS
  subst hp
  exact g.go fun t r => XS.i2c X.here K.1 rfl (hb K.2.2.1 hd) rfl (hz ▸ r)
theorem o_irem (K : oCtx p s m meth c Z own cb ml nm rt yy) (X : oSt p l e R s m args below meth c Z T h cells slots sf ld) {x y z : Int32} (hd : decode cb pc = .ok (.irem, 1)) (hp : pc + 1 = pc') (hy : y ≠ 0) (hz : x % y = z) (g : oGoes p e below s Z T (mkF m pc' L (.int z :: S)) Q cl sl lg) : oGoes p e below s Z T (mkF m pc L (.int y :: .int x :: S)) Q cl sl lg := by
  obtain ⟨vm0, k0, hS, hk, locs, X, eT, N, E, J⟩ := X
  have hZ := oWz K hS
  have hown := oWo K hS
  subst hp
  exact g.go fun t r => Jvm.RoadKit.iremM (g := mkF m pc L (.int y :: .int x :: S)) X K.1 rfl (hb K.2.2.1 hd) rfl hy (hz ▸ r)
theorem o_iinc (K : oCtx p s m meth c Z own cb ml nm rt yy) (X : oSt p l e R s m args below meth c Z T h cells slots sf ld) {k : Nat} {i : Int} {x : Int32} (hd : decode cb pc = .ok (.iinc k i, 3)) (hp : pc + 3 = pc') (hl : L[k]? = some (.val (.int x))) (hl' : storeLocals L k (.int (x + Int32.ofInt i)) = some L') (g : oGoes p e below s Z T (mkF m pc' L' S) Q cl sl lg) : oGoes p e below s Z T (mkF m pc L S) Q cl sl lg := by
  obtain ⟨vm0, k0, hS, hk, locs, X, eT, N, E, J⟩ := X
  have hZ := oWz K hS
  have hown := oWo K hS
  subst hp
  exact g.go fun t r => XS.iinc X.here K.1 rfl (hb K.2.2.1 hd) hl hl' r
theorem o_dup (K : oCtx p s m meth c Z own cb ml nm rt yy) (X : oSt p l e R s m args below meth c Z T h cells slots sf ld) {v : Value} (hd : decode cb pc = .ok (.dup, 1)) (hp : pc + 1 = pc') (hc : v.category = 1) (g : oGoes p e below s Z T (mkF m pc' L (v :: v :: S)) Q cl sl lg) : oGoes p e below s Z T (mkF m pc L (v :: S)) Q cl sl lg := by
  obtain ⟨vm0, k0, hS, hk, locs, X, eT, N, E, J⟩ := X
  have hZ := oWz K hS
  have hown := oWo K hS
  subst hp
  exact g.go fun t r => XS.dup X.here K.1 rfl (hb K.2.2.1 hd) rfl hc r
theorem o_goto (K : oCtx p s m meth c Z own cb ml nm rt yy) (X : oSt p l e R s m args below meth c Z T h cells slots sf ld) {o : Int} (hd : decode cb pc = .ok (.goto o, 3)) (ho : 0 ≤ (pc : Int) + o) (hp : ((pc : Int) + o).toNat = pc') (g : oGoes p e below s Z T (mkF m pc' L S) Q cl sl lg) : oGoes p e below s Z T (mkF m pc L S) Q cl sl lg := by
  obtain ⟨vm0, k0, hS, hk, locs, X, eT, N, E, J⟩ := X
  have hZ := oWz K hS
  have hown := oWo K hS
  exact g.go fun t r => XS.goto X.here K.1 rfl (pc0 := pc) rfl (hb K.2.2.1 hd) ho hp r
theorem o_icmp_lt_t (K : oCtx p s m meth c Z own cb ml nm rt yy) (X : oSt p l e R s m args below meth c Z T h cells slots sf ld) {x y : Int32} {o : Int} (hd : decode cb pc = .ok (.if_icmp .lt o, 3)) (ho : 0 ≤ (pc : Int) + o) (hp : ((pc : Int) + o).toNat = pc') (hc : x < y) (g : oGoes p e below s Z T (mkF m pc' L S) Q cl sl lg) : oGoes p e below s Z T (mkF m pc L (.int y :: .int x :: S)) Q cl sl lg := by
  obtain ⟨vm0, k0, hS, hk, locs, X, eT, N, E, J⟩ := X
  have hZ := oWz K hS
  have hown := oWo K hS
  exact g.go fun t r => XS.icmpYes X.here K.1 rfl (pc0 := pc) rfl (hb K.2.2.1 hd) rfl (tlt hc).1 ho hp r
theorem o_icmp_lt_f (K : oCtx p s m meth c Z own cb ml nm rt yy) (X : oSt p l e R s m args below meth c Z T h cells slots sf ld) {x y : Int32} {o : Int} (hd : decode cb pc = .ok (.if_icmp .lt o, 3)) (hp : pc + 3 = pc') (hc : ¬ x < y) (g : oGoes p e below s Z T (mkF m pc' L S) Q cl sl lg) : oGoes p e below s Z T (mkF m pc L (.int y :: .int x :: S)) Q cl sl lg := by
  obtain ⟨vm0, k0, hS, hk, locs, X, eT, N, E, J⟩ := X
  have hZ := oWz K hS
  have hown := oWo K hS
  subst hp
  exact g.go fun t r => XS.icmpNo X.here K.1 rfl (hb K.2.2.1 hd) rfl (flt hc).1 r
theorem o_icmp_ge_t (K : oCtx p s m meth c Z own cb ml nm rt yy) (X : oSt p l e R s m args below meth c Z T h cells slots sf ld) {x y : Int32} {o : Int} (hd : decode cb pc = .ok (.if_icmp .ge o, 3)) (ho : 0 ≤ (pc : Int) + o) (hp : ((pc : Int) + o).toNat = pc') (hc : ¬ x < y) (g : oGoes p e below s Z T (mkF m pc' L S) Q cl sl lg) : oGoes p e below s Z T (mkF m pc L (.int y :: .int x :: S)) Q cl sl lg := by
  obtain ⟨vm0, k0, hS, hk, locs, X, eT, N, E, J⟩ := X
  have hZ := oWz K hS
  have hown := oWo K hS
  exact g.go fun t r => XS.icmpYes X.here K.1 rfl (pc0 := pc) rfl (hb K.2.2.1 hd) rfl (flt hc).2.1 ho hp r
theorem o_icmp_ge_f (K : oCtx p s m meth c Z own cb ml nm rt yy) (X : oSt p l e R s m args below meth c Z T h cells slots sf ld) {x y : Int32} {o : Int} (hd : decode cb pc = .ok (.if_icmp .ge o, 3)) (hp : pc + 3 = pc') (hc : x < y) (g : oGoes p e below s Z T (mkF m pc' L S) Q cl sl lg) : oGoes p e below s Z T (mkF m pc L (.int y :: .int x :: S)) Q cl sl lg := by
  obtain ⟨vm0, k0, hS, hk, locs, X, eT, N, E, J⟩ := X
  have hZ := oWz K hS
  have hown := oWo K hS
  subst hp
  exact g.go fun t r => XS.icmpNo X.here K.1 rfl (hb K.2.2.1 hd) rfl (tlt hc).2.1 r
theorem o_icmp_gt_t (K : oCtx p s m meth c Z own cb ml nm rt yy) (X : oSt p l e R s m args below meth c Z T h cells slots sf ld) {x y : Int32} {o : Int} (hd : decode cb pc = .ok (.if_icmp .gt o, 3)) (ho : 0 ≤ (pc : Int) + o) (hp : ((pc : Int) + o).toNat = pc') (hc : y < x) (g : oGoes p e below s Z T (mkF m pc' L S) Q cl sl lg) : oGoes p e below s Z T (mkF m pc L (.int y :: .int x :: S)) Q cl sl lg := by
  obtain ⟨vm0, k0, hS, hk, locs, X, eT, N, E, J⟩ := X
  have hZ := oWz K hS
  have hown := oWo K hS
  exact g.go fun t r => XS.icmpYes X.here K.1 rfl (pc0 := pc) rfl (hb K.2.2.1 hd) rfl (tlt hc).2.2.1 ho hp r
theorem o_icmp_gt_f (K : oCtx p s m meth c Z own cb ml nm rt yy) (X : oSt p l e R s m args below meth c Z T h cells slots sf ld) {x y : Int32} {o : Int} (hd : decode cb pc = .ok (.if_icmp .gt o, 3)) (hp : pc + 3 = pc') (hc : ¬ y < x) (g : oGoes p e below s Z T (mkF m pc' L S) Q cl sl lg) : oGoes p e below s Z T (mkF m pc L (.int y :: .int x :: S)) Q cl sl lg := by
  obtain ⟨vm0, k0, hS, hk, locs, X, eT, N, E, J⟩ := X
  have hZ := oWz K hS
  have hown := oWo K hS
  subst hp
  exact g.go fun t r => XS.icmpNo X.here K.1 rfl (hb K.2.2.1 hd) rfl (flt hc).2.2.1 r
theorem o_icmp_le_t (K : oCtx p s m meth c Z own cb ml nm rt yy) (X : oSt p l e R s m args below meth c Z T h cells slots sf ld) {x y : Int32} {o : Int} (hd : decode cb pc = .ok (.if_icmp .le o, 3)) (ho : 0 ≤ (pc : Int) + o) (hp : ((pc : Int) + o).toNat = pc') (hc : ¬ y < x) (g : oGoes p e below s Z T (mkF m pc' L S) Q cl sl lg) : oGoes p e below s Z T (mkF m pc L (.int y :: .int x :: S)) Q cl sl lg := by
  obtain ⟨vm0, k0, hS, hk, locs, X, eT, N, E, J⟩ := X
  have hZ := oWz K hS
  have hown := oWo K hS
  exact g.go fun t r => XS.icmpYes X.here K.1 rfl (pc0 := pc) rfl (hb K.2.2.1 hd) rfl (flt hc).2.2.2 ho hp r
theorem o_icmp_eq_t (K : oCtx p s m meth c Z own cb ml nm rt yy) (X : oSt p l e R s m args below meth c Z T h cells slots sf ld) {x y : Int32} {o : Int} (hd : decode cb pc = .ok (.if_icmp .eq o, 3)) (ho : 0 ≤ (pc : Int) + o) (hp : ((pc : Int) + o).toNat = pc') (hc : x = y) (g : oGoes p e below s Z T (mkF m pc' L S) Q cl sl lg) : oGoes p e below s Z T (mkF m pc L (.int y :: .int x :: S)) Q cl sl lg := by
  obtain ⟨vm0, k0, hS, hk, locs, X, eT, N, E, J⟩ := X
  have hZ := oWz K hS
  have hown := oWo K hS
  exact g.go fun t r => XS.icmpYes X.here K.1 rfl (pc0 := pc) rfl (hb K.2.2.1 hd) rfl (teq hc).1 ho hp r
theorem o_if_eq_t (K : oCtx p s m meth c Z own cb ml nm rt yy) (X : oSt p l e R s m args below meth c Z T h cells slots sf ld) {x : Int32} {o : Int} (hd : decode cb pc = .ok (.ifCond .eq o, 3)) (ho : 0 ≤ (pc : Int) + o) (hp : ((pc : Int) + o).toNat = pc') (hc : x = 0) (g : oGoes p e below s Z T (mkF m pc' L S) Q cl sl lg) : oGoes p e below s Z T (mkF m pc L (.int x :: S)) Q cl sl lg := by
  obtain ⟨vm0, k0, hS, hk, locs, X, eT, N, E, J⟩ := X
  have hZ := oWz K hS
  have hown := oWo K hS
  exact g.go fun t r => XS.ifYes X.here K.1 rfl (pc0 := pc) rfl (hb K.2.2.1 hd) rfl ((if0 _ _).trans (teq hc).1) ho hp r
theorem o_icmp_eq_f (K : oCtx p s m meth c Z own cb ml nm rt yy) (X : oSt p l e R s m args below meth c Z T h cells slots sf ld) {x y : Int32} {o : Int} (hd : decode cb pc = .ok (.if_icmp .eq o, 3)) (hp : pc + 3 = pc') (hc : ¬ x = y) (g : oGoes p e below s Z T (mkF m pc' L S) Q cl sl lg) : oGoes p e below s Z T (mkF m pc L (.int y :: .int x :: S)) Q cl sl lg := by
  obtain ⟨vm0, k0, hS, hk, locs, X, eT, N, E, J⟩ := X
  have hZ := oWz K hS
  have hown := oWo K hS
  subst hp
  exact g.go fun t r => XS.icmpNo X.here K.1 rfl (hb K.2.2.1 hd) rfl (feq hc).1 r
theorem o_if_eq_f (K : oCtx p s m meth c Z own cb ml nm rt yy) (X : oSt p l e R s m args below meth c Z T h cells slots sf ld) {x : Int32} {o : Int} (hd : decode cb pc = .ok (.ifCond .eq o, 3)) (hp : pc + 3 = pc') (hc : ¬ x = 0) (g : oGoes p e below s Z T (mkF m pc' L S) Q cl sl lg) : oGoes p e below s Z T (mkF m pc L (.int x :: S)) Q cl sl lg := by
  obtain ⟨vm0, k0, hS, hk, locs, X, eT, N, E, J⟩ := X
  have hZ := oWz K hS
  have hown := oWo K hS
  subst hp
  exact g.go fun t r => XS.ifNo X.here K.1 rfl (hb K.2.2.1 hd) rfl ((if0 _ _).trans (feq hc).1) r
theorem o_icmp_ne_t (K : oCtx p s m meth c Z own cb ml nm rt yy) (X : oSt p l e R s m args below meth c Z T h cells slots sf ld) {x y : Int32} {o : Int} (hd : decode cb pc = .ok (.if_icmp .ne o, 3)) (ho : 0 ≤ (pc : Int) + o) (hp : ((pc : Int) + o).toNat = pc') (hc : ¬ x = y) (g : oGoes p e below s Z T (mkF m pc' L S) Q cl sl lg) : oGoes p e below s Z T (mkF m pc L (.int y :: .int x :: S)) Q cl sl lg := by
  obtain ⟨vm0, k0, hS, hk, locs, X, eT, N, E, J⟩ := X
  have hZ := oWz K hS
  have hown := oWo K hS
  exact g.go fun t r => XS.icmpYes X.here K.1 rfl (pc0 := pc) rfl (hb K.2.2.1 hd) rfl (feq hc).2 ho hp r
theorem o_if_ne_t (K : oCtx p s m meth c Z own cb ml nm rt yy) (X : oSt p l e R s m args below meth c Z T h cells slots sf ld) {x : Int32} {o : Int} (hd : decode cb pc = .ok (.ifCond .ne o, 3)) (ho : 0 ≤ (pc : Int) + o) (hp : ((pc : Int) + o).toNat = pc') (hc : ¬ x = 0) (g : oGoes p e below s Z T (mkF m pc' L S) Q cl sl lg) : oGoes p e below s Z T (mkF m pc L (.int x :: S)) Q cl sl lg := by
  obtain ⟨vm0, k0, hS, hk, locs, X, eT, N, E, J⟩ := X
  have hZ := oWz K hS
  have hown := oWo K hS
  exact g.go fun t r => XS.ifYes X.here K.1 rfl (pc0 := pc) rfl (hb K.2.2.1 hd) rfl ((if0 _ _).trans (feq hc).2) ho hp r
theorem o_icmp_ne_f (K : oCtx p s m meth c Z own cb ml nm rt yy) (X : oSt p l e R s m args below meth c Z T h cells slots sf ld) {x y : Int32} {o : Int} (hd : decode cb pc = .ok (.if_icmp .ne o, 3)) (hp : pc + 3 = pc') (hc : x = y) (g : oGoes p e below s Z T (mkF m pc' L S) Q cl sl lg) : oGoes p e below s Z T (mkF m pc L (.int y :: .int x :: S)) Q cl sl lg := by
  obtain ⟨vm0, k0, hS, hk, locs, X, eT, N, E, J⟩ := X
  have hZ := oWz K hS
  have hown := oWo K hS
  subst hp
  exact g.go fun t r => XS.icmpNo X.here K.1 rfl (hb K.2.2.1 hd) rfl (teq hc).2 r
theorem o_if_ne_f (K : oCtx p s m meth c Z own cb ml nm rt yy) (X : oSt p l e R s m args below meth c Z T h cells slots sf ld) {x : Int32} {o : Int} (hd : decode cb pc = .ok (.ifCond .ne o, 3)) (hp : pc + 3 = pc') (hc : x = 0) (g : oGoes p e below s Z T (mkF m pc' L S) Q cl sl lg) : oGoes p e below s Z T (mkF m pc L (.int x :: S)) Q cl sl lg := by
  obtain ⟨vm0, k0, hS, hk, locs, X, eT, N, E, J⟩ := X
  have hZ := oWz K hS
  have hown := oWo K hS
  subst hp
  exact g.go fun t r => XS.ifNo X.here K.1 rfl (hb K.2.2.1 hd) rfl ((if0 _ _).trans (teq hc).2) r
theorem o_ifnonnull_t (K : oCtx p s m meth c Z own cb ml nm rt yy) (X : oSt p l e R s m args below meth c Z T h cells slots sf ld) {b : Addr} {o : Int} (hd : decode cb pc = .ok (.ifnonnull o, 3)) (ho : 0 ≤ (pc : Int) + o) (hp : ((pc : Int) + o).toNat = pc') (g : oGoes p e below s Z T (mkF m pc' L S) Q cl sl lg) : oGoes p e below s Z T (mkF m pc L (.ref b :: S)) Q cl sl lg := by
  obtain ⟨vm0, k0, hS, hk, locs, X, eT, N, E, J⟩ := X
  have hZ := oWz K hS
  have hown := oWo K hS
  exact g.go fun t r => XS.ifnonnullYes X.here K.1 rfl (pc0 := pc) rfl (hb K.2.2.1 hd) rfl ho hp r
theorem o_acmp (K : oCtx p s m meth c Z own cb ml nm rt yy) (X : oSt p l e R s m args below meth c Z T h cells slots sf ld) {cd : ACond} {x y : Value} {o : Int} (same : Bool) (hd : decode cb pc = .ok (.if_acmp cd o, 3)) (ho : 0 ≤ (pc : Int) + o) (h1 : x.isRef = true) (h2 : y.isRef = true) (hq : decide (x = y) = same) (hp : pc' = if acV cd same = true then ((pc : Int) + o).toNat else pc + 3) (g : oGoes p e below s Z T (mkF m pc' L S) Q cl sl lg) : oGoes p e below s Z T (mkF m pc L (y :: x :: S)) Q cl sl lg := by
  obtain ⟨vm0, k0, hS, hk, locs, X, eT, N, E, J⟩ := X
  have hZ := oWz K hS
  have hown := oWo K hS
  exact g.go fun t r => Jvm.RoadKit.acmp (g := mkF m pc L (y :: x :: S)) X K.1 rfl h1 h2 (pc0 := pc) rfl (hb K.2.2.1 hd) rfl hq ho hp r
theorem o_getfield (K : oCtx p s m meth c Z own cb ml nm rt yy) (X : oSt p l e R s m args below meth c Z T h cells slots sf ld) {R0 O n d host : String} {index : Nat} {a : Addr} {v : Value} (w : (Jvm.Cond.fieldLink own index R0 n d).before a0 Z = true ∨ (Jvm.Cond.fieldLinkNest own index R0 n d host).before a0 Z = true) (via : Via Z R0 O n d) (F : Fld Z h a O n d v) (hd : decode cb pc = .ok (.getfield index, 3)) (hp : pc + 3 = pc')
    (g : ∀ T', oSt p l e R s m args below meth c Z T' h cells slots sf ld → oGoes p e below s Z T' (mkF m pc' L (v :: S)) Q cl sl lg) : oGoes p e below s Z T (mkF m pc L (.ref a :: S)) Q cl sl lg := by
  obtain ⟨vm0, k0, hS, hk, locs, X, eT, N, E, J⟩ := X
  have hZ := oWz K hS
  have hown := oWo K hS
  subst hp
  obtain ⟨T', X', e', st⟩ := getF X K.1 hZ hown w via eT F (g := mkF m pc L (.ref a :: S)) rfl rfl (hb K.2.2.1 hd)
  exact (g T' ⟨vm0, k0, hS, hk, locs, X', e', N, E, J⟩).go st
theorem o_getstatic (K : oCtx p s m meth c Z own cb ml nm rt yy) (X : oSt p l e R s m args below meth c Z T h cells slots sf ld) {R0 O n d host : String} {index : Nat} {v : Value} (w : (Jvm.Cond.fieldLink own index R0 n d).before a0 Z = true ∨ (Jvm.Cond.fieldLinkNest own index R0 n d host).before a0 Z = true) (via : Via Z R0 O n d) (F : Sta Z h O n d v) (hd : decode cb pc = .ok (.getstatic index, 3)) (hp : pc + 3 = pc')
    (g : ∀ T', oSt p l e R s m args below meth c Z T' h cells slots sf ld → oGoes p e below s Z T' (mkF m pc' L (v :: S)) Q cl sl lg) : oGoes p e below s Z T (mkF m pc L S) Q cl sl lg := by
  obtain ⟨vm0, k0, hS, hk, locs, X, eT, N, E, J⟩ := X
  have hZ := oWz K hS
  have hown := oWo K hS
  subst hp
  obtain ⟨T', X', e', st⟩ := getS2 X K.1 hZ hown w via eT F (g := mkF m pc L S) rfl (hb K.2.2.1 hd)
  exact (g T' ⟨vm0, k0, hS, hk, locs, X', e', N, E, J⟩).go st
theorem o_putfield (K : oCtx p s m meth c Z own cb ml nm rt yy) (X : oSt p l e R s m args below meth c Z T h cells slots sf ld) {R0 O n d host C : String} {index kk : Nat} {ty : FieldType} {a : Addr} {v old : Value} (w : (Jvm.Cond.fieldLink own index R0 n d).before a0 Z = true ∨ (Jvm.Cond.fieldLinkNest own index R0 n d host).before a0 Z = true) (via : Via Z R0 O n d) (F : Fld Z h a O n d old) (Ex : Exa Z h a C) (Lz : (Jvm.Cond.lays C O n d).before a0 Z = true ∨ ((Jvm.Cond.laysFinal C O n d).before a0 Z = true ∧ own = O ∧ nm = "<init>")) (wi : (Jvm.Cond.instantiable C kk).before a0 Z = true) (hty : parseFieldDescriptor d = some ty) (hn : narrow ty v = v) (hf : fits ty v = true) (hza : Z.heap.size ≤ a) (hsf : a ∈ sf) (hd : decode cb pc = .ok (.putfield index, 3)) (hp : pc + 3 = pc')
    (g : ∀ T' h', oSt p l e R s m args below meth c Z T' h' cells slots sf ld → Wr h h' a (Jvm.RoadKit.slotOf Z O n d) v → oGoes p e below s Z T' (mkF m pc' L S) Q cl sl lg) : oGoes p e below s Z T (mkF m pc L (v :: .ref a :: S)) Q cl sl lg := by
  obtain ⟨vm0, k0, hS, hk, locs, X, eT, N, E, J⟩ := X
  have hZ := oWz K hS
  have hown := oWo K hS
  subst hp
  obtain ⟨T', h', X', e', W, st⟩ := putF X K.1 hZ hown w via eT F Ex (Lz.imp id fun q => ⟨q.1, q.2.1, K.2.2.2.2.2.1.trans q.2.2⟩) wi hty hn hf (g := mkF m pc L (v :: .ref a :: S)) rfl rfl (hb K.2.2.1 hd)
  exact (g T' h' ⟨vm0, k0, hS, Nat.le_trans hk (Keep.of_wr W).1, _, X', e', Fr.snoc X' N hza, oExt_wr E W hza, J.wr W hsf⟩ W).go st
theorem o_putfieldN (K : oCtx p s m meth c Z own cb ml nm rt yy) (X : oSt p l e R s m args below meth c Z T h cells slots sf ld) {R0 O n d C : String} {index kk : Nat} {ty : FieldType} {a : Addr} {v v' old : Value} (w : (Jvm.Cond.fieldLink own index R0 n d).before a0 Z = true) (via : Via Z R0 O n d) (F : Fld Z h a O n d old) (Ex : Exa Z h a C) (Lz : (Jvm.Cond.lays C O n d).before a0 Z = true ∨ ((Jvm.Cond.laysFinal C O n d).before a0 Z = true ∧ own = O ∧ nm = "<init>")) (wi : (Jvm.Cond.instantiable C kk).before a0 Z = true) (hty : parseFieldDescriptor d = some ty) (hn : narrow ty v = v') (hf : fits ty v' = true) (hza : Z.heap.size ≤ a) (hsf : a ∈ sf) (hd : decode cb pc = .ok (.putfield index, 3)) (hp : pc + 3 = pc')
    (g : ∀ T' h', oSt p l e R s m args below meth c Z T' h' cells slots sf ld → Wr h h' a (Jvm.RoadKit.slotOf Z O n d) v' → oGoes p e below s Z T' (mkF m pc' L S) Q cl sl lg) : oGoes p e below s Z T (mkF m pc L (v :: .ref a :: S)) Q cl sl lg := by
  obtain ⟨vm0, k0, hS, hk, locs, X, eT, N, E, J⟩ := X
  have hZ := oWz K hS
  have hown := oWo K hS
  subst hp
  obtain ⟨T', h', X', e', W, st⟩ := putFN X K.1 hZ hown w via eT F Ex (Lz.imp id fun q => ⟨q.1, q.2.1, K.2.2.2.2.2.1.trans q.2.2⟩) wi hty hn hf (g := mkF m pc L (v :: .ref a :: S)) rfl rfl (hb K.2.2.1 hd)
  exact (g T' h' ⟨vm0, k0, hS, Nat.le_trans hk (Keep.of_wr W).1, _, X', e', Fr.snoc X' N hza, oExt_wr E W hza, J.wr W hsf⟩ W).go st
theorem o_new (K : oCtx p s m meth c Z own cb ml nm rt yy) (X : oSt p l e R s m args below meth c Z T h cells slots sf ld) {C : String} {index n : Nat} (w : (Jvm.Cond.classLink own index C).before a0 Z = true) (wi : (Jvm.Cond.instantiable C n).before a0 Z = true) (wz : (Jvm.Cond.initialized C).before a0 Z = true) (hd : decode cb pc = .ok (.new index, 3)) (hp : pc + 3 = pc') (hc : cells + 1 ≤ R.cells) (hl : slots + n ≤ R.slots)
    (g : ∀ T' h' b, oSt p l e R s m args below meth c Z T' h' (cells + 1) (slots + n) (b :: sf) ld → b = h.size → Ext h h' → Exa Z h' b C → (∀ {O nm d : String} {ty : FieldType}, Laid Z a0 C O nm d → parseFieldDescriptor d = some ty → Fld Z h' b O nm d (defaultValue ty)) → Z.heap.size ≤ b → oGoes p e below s Z T' (mkF m pc' L (.ref b :: S)) Q cl sl lg) : oGoes p e below s Z T (mkF m pc L S) Q cl sl lg := by
  obtain ⟨vm0, k0, hS, hk, locs, X, eT, N, E, J⟩ := X
  have hZ := oWz K hS
  have hown := oWo K hS
  subst hp
  obtain ⟨T', h', X', e', E', A, D, -, st⟩ := newO X K.1 hZ hown w wi wz eT (g := mkF m pc L S) rfl (hb K.2.2.1 hd) hc hl
  exact (g T' h' h.size ⟨vm0, k0, hS, Nat.le_trans hk E'.1, _, X', e', N, oExt_trans E E', J.new E' (Nat.le_refl _) (oExaLt A)⟩ rfl E' A D E.1).go st
theorem o_initObj (K : oCtx p s m meth c Z own cb ml nm rt yy) (X : oSt p l e R s m args below meth c Z T h cells slots sf ld) {index : Nat} {a : Addr} (w1 : (Jvm.Cond.methodLink own index Lib.objectInit).before a0 Z = true) (w2 : (Jvm.Cond.instanceMethod Lib.objectInit).before a0 Z = true) (w3 : (Jvm.Cond.code Lib.objectInit ⟨#[0xb1]⟩ 1 none).before a0 Z = true) (hd : decode cb pc = .ok (.invokespecial index, 3)) (hp : pc + 3 = pc') (hsz : L.size = ml) (hf : 1 ≤ R.frames) {W : Nat} (hW : (S.map fun v => v.category).sum = W) (hl : W + 12 ≤ R.locals)
    (g : ∀ T', oSt p l e R s m args below meth c Z T' h cells slots sf ld → oGoes p e below s Z T' (mkF m pc' L S) Q cl sl lg) : oGoes p e below s Z T (mkF m pc L (.ref a :: S)) Q cl sl lg := by
  obtain ⟨vm0, k0, hS, hk, locs, X, eT, N, E, J⟩ := X
  have hZ := oWz K hS
  have hown := oWo K hS
  subst hp
  obtain ⟨T', X', e', st⟩ := initO X K.1 hZ hown w1 w2 w3 eT (g := mkF m pc L (.ref a :: S)) rfl (by show L.size = _; rw [K.2.2.2.1]; exact hsz) rfl (hb K.2.2.1 hd) hf (W := W) (by show 2 * 0 + _ ≤ _; omega) hl
  exact (g T' ⟨vm0, k0, hS, hk, _, X', e', N, E, J⟩).go st
theorem o_static (K : oCtx p s m meth c Z own cb ml nm rt yy) (X : oSt p l e R s m args below meth c Z T h cells slots sf ld) {index : Nat} {y : MethodName} {bs : ByteArray} {mx : Nat} {rc : Option FieldType} {rm : Room} {as : Array Value} {Qc : Option Value → Heap → Prop} {sfc : List Addr} (w1 : (Jvm.Cond.methodLink own index y).before a0 Z = true) (w2 : (Jvm.Cond.static y).before a0 Z = true) (wz : (Jvm.Cond.initialized y.cls).before a0 Z = true) (wc : (Jvm.Cond.code y bs mx rc).before a0 Z = true) (hy : y.cls ≠ "java/lang/invoke/MethodHandle" ∧ y.cls ≠ "java/lang/invoke/VarHandle")
    (hM : oMet l Z y bs mx rc rm [] as h Qc sfc lf) (hsf : ∀ x ∈ sfc, x ∈ sf) (hf : rm.frames + 1 ≤ R.frames) (hsz : L.size = ml) {argsL : List Value} (has : argsL.toArray = as) (hlen : ∀ sig, parseMethodDescriptor y.desc = some sig → argsL.length = sig.parameters.length) {W : Nat} (hW : (S.map fun v => v.category).sum = W) (hl : W + (mx + 11) + rm.locals ≤ R.locals) (hc : cells + rm.cells ≤ R.cells) (hs : slots + rm.slots ≤ R.slots) (hd : decode cb pc = .ok (.invokestatic index, 3)) (hp : pc + 3 = pc') (g : ∀ v T' h', (∀ rs : List Addr, (lf = false ∨ rs = []) → (∀ r ∈ rs, h.size ≤ r ∧ r < h'.size) → oSt p l e R s m args below meth c Z T' h' (cells + rm.cells) (slots + rm.slots) (rs ++ sf) (ld || lf)) → Qc v h' → oGoes p e below s Z T' (mkF m pc' L (v.toList ++ S)) Q cl sl lg) : oGoes p e below s Z T (mkF m pc L (argsL.reverse ++ S)) Q cl sl lg := by
  obtain ⟨vm0, k0, hS, hk, locs, X, eT, N, E, J⟩ := X
  have hZ := oWz K hS
  have hown := oWo K hS
  subst hp
  obtain ⟨v, _, ⟨T', L1, k1, n1⟩, -, X', hS2, hg2, ⟨Lc, hQ, l1, y1, z1⟩, st⟩ := callSS X K.1 (y := y) hown (mvT hZ w1) (mvT hZ w2) (mvT hZ wz) (mvT hZ wc) hy (oBackH (W := W) hM E K.2.2.2.2.2.2.2.2.2 J.1 (fun x hx => J.2.1 x (hsf x hx)) hZ wc wz hf hl) (g := mkF m pc L (argsL.reverse ++ S)) rfl (by show L.size = _; rw [K.2.2.2.1]; exact hsz) (argsL := argsL) (rest := S) hlen rfl (by show 2 * 0 + _ ≤ _; omega) (hb K.2.2.1 hd) (fun _ _ => ⟨has, eT, hc, hs⟩)
  dsimp only [Pt.U, Pt.locs, Pt.cells, Pt.slots] at X' hS2 hg2 l1 y1 z1 st hQ
  subst l1 y1 z1
  exact (g v T' T'.heap (fun rs hr1 hr2 => ⟨T'.vm, T'.heap.size, hS.trans hS2 (Nat.le_trans hk (by rw [← eT]; exact hg2)), Nat.le_refl _, _, X', rfl, Fr.app N hQ.2.1, hQ.2.2.1, J.call hQ.2.2.2.1 (by rw [← eT]; exact hg2) hQ.2.2.2.2 rs hr1 hr2⟩) hQ.1).go fun t r => st.trans r
theorem o_special (K : oCtx p s m meth c Z own cb ml nm rt yy) (X : oSt p l e R s m args below meth c Z T h cells slots sf ld) {index : Nat} {y : MethodName} {a : Addr} {bs : ByteArray} {mx : Nat} {rm : Room} {as : Array Value} {Qc : Option Value → Heap → Prop} {sfc : List Addr} (hy1 : y.name = "<init>") (w1 : (Jvm.Cond.methodLink own index y).before a0 Z = true) (w2 : (Jvm.Cond.instanceMethod y).before a0 Z = true) (wz : (Jvm.Cond.initialized y.cls).before a0 Z = true) (wc : (Jvm.Cond.code y bs mx none).before a0 Z = true) (hy : y.cls ≠ "java/lang/invoke/MethodHandle" ∧ y.cls ≠ "java/lang/invoke/VarHandle")
    (hM : oMet l Z y bs mx none rm [] as h Qc sfc lf) (hsf : ∀ x ∈ sfc, x ∈ sf) (hf : rm.frames + 1 ≤ R.frames) (hsz : L.size = ml) {argsL : List Value} (has : (Value.ref a :: argsL).toArray = as) (hlen : ∀ sig, parseMethodDescriptor y.desc = some sig → argsL.length = sig.parameters.length) {W : Nat} (hW : (S.map fun v => v.category).sum = W) (hl : W + (mx + 11) + rm.locals ≤ R.locals) (hc : cells + rm.cells ≤ R.cells) (hs : slots + rm.slots ≤ R.slots) (hd : decode cb pc = .ok (.invokespecial index, 3)) (hp : pc + 3 = pc') (g : ∀ v T' h', (∀ rs : List Addr, (lf = false ∨ rs = []) → (∀ r ∈ rs, h.size ≤ r ∧ r < h'.size) → oSt p l e R s m args below meth c Z T' h' (cells + rm.cells) (slots + rm.slots) (rs ++ sf) (ld || lf)) → Qc v h' → oGoes p e below s Z T' (mkF m pc' L (v.toList ++ S)) Q cl sl lg) : oGoes p e below s Z T (mkF m pc L (argsL.reverse ++ .ref a :: S)) Q cl sl lg := by
  obtain ⟨vm0, k0, hS, hk, locs, X, eT, N, E, J⟩ := X
  have hZ := oWz K hS
  have hown := oWo K hS
  subst hp
  obtain ⟨v, _, ⟨T', L1, k1, n1⟩, -, X', hS2, hg2, ⟨Lc, hQ, l1, y1, z1⟩, st⟩ := X.specialBackS K.1 (y := y) hy1 hown (mvT hZ w1) (mvT hZ w2) (mvT hZ wc) hy (oBackH (W := W) hM E K.2.2.2.2.2.2.2.2.2 J.1 (fun x hx => J.2.1 x (hsf x hx)) hZ wc wz hf hl) (g := mkF m pc L (argsL.reverse ++ .ref a :: S)) rfl (by show L.size = _; rw [K.2.2.2.1]; exact hsz) (Steps.refl _) (a := a) (argsL := argsL) (rest := S) hlen rfl (by show 2 * 0 + _ ≤ _; omega) (hb K.2.2.1 hd) (fun _ _ => ⟨has, eT, hc, hs⟩)
  dsimp only [Pt.U, Pt.locs, Pt.cells, Pt.slots] at X' hS2 hg2 l1 y1 z1 st hQ
  subst l1 y1 z1
  exact (g v T' T'.heap (fun rs hr1 hr2 => ⟨T'.vm, T'.heap.size, hS.trans hS2 (Nat.le_trans hk (by rw [← eT]; exact hg2)), Nat.le_refl _, _, X', rfl, Fr.app N hQ.2.1, hQ.2.2.1, J.call hQ.2.2.2.1 (by rw [← eT]; exact hg2) hQ.2.2.2.2 rs hr1 hr2⟩) hQ.1).go fun t r => st.trans r
theorem o_virtual (K : oCtx p s m meth c Z own cb ml nm rt yy) (X : oSt p l e R s m args below meth c Z T h cells slots sf ld) {index : Nat} {y z : MethodName} {C : String} {a : Addr} {bs : ByteArray} {mx : Nat} {rc : Option FieldType} {rm : Room} {as : Array Value} {Qc : Option Value → Heap → Prop} {sfc : List Addr} (w1 : (Jvm.Cond.methodLink own index y).before a0 Z = true) (w2 : (Jvm.Cond.declares y).before a0 Z = true) (hnf : ∀ s' : State, Z.Warmed39 s'.vm → NotFace s' y) (w3 : (Jvm.Cond.selects C y z).before a0 Z = true) (w4 : (Jvm.Cond.instanceMethod z).before a0 Z = true) (wz : (Jvm.Cond.initialized z.cls).before a0 Z = true) (wc : (Jvm.Cond.code z bs mx rc).before a0 Z = true) (hy : y.cls ≠ "java/lang/invoke/MethodHandle" ∧ y.cls ≠ "java/lang/invoke/VarHandle") (Ex : Exa Z h a C)
    (hM : oMet l Z z bs mx rc rm [] as h Qc sfc lf) (hsf : ∀ x ∈ sfc, x ∈ sf) (hf : rm.frames + 1 ≤ R.frames) (hsz : L.size = ml) {argsL : List Value} (has : (Value.ref a :: argsL).toArray = as) (hlen : ∀ sig, parseMethodDescriptor y.desc = some sig → argsL.length = sig.parameters.length) {W : Nat} (hW : (S.map fun v => v.category).sum = W) (hl : W + (mx + 11) + rm.locals ≤ R.locals) (hc : cells + rm.cells ≤ R.cells) (hs : slots + rm.slots ≤ R.slots) (hd : decode cb pc = .ok (.invokevirtual index, 3)) (hp : pc + 3 = pc') (g : ∀ v T' h', (∀ rs : List Addr, (lf = false ∨ rs = []) → (∀ r ∈ rs, h.size ≤ r ∧ r < h'.size) → oSt p l e R s m args below meth c Z T' h' (cells + rm.cells) (slots + rm.slots) (rs ++ sf) (ld || lf)) → Qc v h' → oGoes p e below s Z T' (mkF m pc' L (v.toList ++ S)) Q cl sl lg) : oGoes p e below s Z T (mkF m pc L (argsL.reverse ++ .ref a :: S)) Q cl sl lg := by
  obtain ⟨vm0, k0, hS, hk, locs, X, eT, N, E, J⟩ := X
  have hZ := oWz K hS
  have hown := oWo K hS
  subst hp
  obtain ⟨cq, kq, qa, qb, qc⟩ := isOf hZ eT Ex
  obtain ⟨v, _, ⟨T', L1, k1, n1⟩, -, X', hS2, hg2, ⟨Lc, hQ, l1, y1, z1⟩, st⟩ := X.virtualBackS K.1 (y := y) (z := z) hown (mvT hZ w1) (mvT hZ w2) (hnf _ hZ) (mvT hZ w3) (mvT hZ w4) hy (oBackH (W := W) hM E K.2.2.2.2.2.2.2.2.2 J.1 (fun x hx => J.2.1 x (hsf x hx)) hZ wc wz hf hl) qa qc (g := mkF m pc L (argsL.reverse ++ .ref a :: S)) rfl (by show L.size = _; rw [K.2.2.2.1]; exact hsz) (Steps.refl _) (argsL := argsL) (rest := S) hlen rfl (by show 2 * 0 + _ ≤ _; omega) (hb K.2.2.1 hd) (fun _ _ => ⟨has, eT, hc, hs⟩)
  dsimp only [Pt.U, Pt.locs, Pt.cells, Pt.slots] at X' hS2 hg2 l1 y1 z1 st hQ
  subst l1 y1 z1
  exact (g v T' T'.heap (fun rs hr1 hr2 => ⟨T'.vm, T'.heap.size, hS.trans hS2 (Nat.le_trans hk (by rw [← eT]; exact hg2)), Nat.le_refl _, _, X', rfl, Fr.app N hQ.2.1, hQ.2.2.1, J.call hQ.2.2.2.1 (by rw [← eT]; exact hg2) hQ.2.2.2.2 rs hr1 hr2⟩) hQ.1).go fun t r => st.trans r
theorem o_checkcast (K : oCtx p s m meth c Z own cb ml nm rt yy) (X : oSt p l e R s m args below meth c Z T h cells slots sf ld) {index : Nat} {C : String} {a : Addr} (w : (Jvm.Cond.classLink own index C).before a0 Z = true) (F : Ins Z h a C true) (hd : decode cb pc = .ok (.checkcast index, 3)) (hp : pc + 3 = pc') (g : ∀ T', oSt p l e R s m args below meth c Z T' h cells slots sf ld → oGoes p e below s Z T' (mkF m pc' L (.ref a :: S)) Q cl sl lg) : oGoes p e below s Z T (mkF m pc L (.ref a :: S)) Q cl sl lg := by
  obtain ⟨vm0, k0, hS, hk, locs, X, eT, N, E, J⟩ := X
  have hZ := oWz K hS
  have hown := oWo K hS
  subst hp
  obtain ⟨T', X', e', st⟩ := castY X K.1 hZ hown w eT F (g := mkF m pc L (.ref a :: S)) rfl rfl (hb K.2.2.1 hd)
  exact (g T' ⟨vm0, k0, hS, hk, _, X', e', N, E, J⟩).go st
theorem o_instanceof (K : oCtx p s m meth c Z own cb ml nm rt yy) (X : oSt p l e R s m args below meth c Z T h cells slots sf ld) {index : Nat} {C : String} {a : Addr} (w : (Jvm.Cond.classLink own index C).before a0 Z = true) (F : Ins Z h a C true) (hd : decode cb pc = .ok (.instanceof index, 3)) (hp : pc + 3 = pc') (g : ∀ T', oSt p l e R s m args below meth c Z T' h cells slots sf ld → oGoes p e below s Z T' (mkF m pc' L (.int 1 :: S)) Q cl sl lg) : oGoes p e below s Z T (mkF m pc L (.ref a :: S)) Q cl sl lg := by
  obtain ⟨vm0, k0, hS, hk, locs, X, eT, N, E, J⟩ := X
  have hZ := oWz K hS
  have hown := oWo K hS
  subst hp
  obtain ⟨T', X', e', st⟩ := instY X K.1 hZ hown w eT F (g := mkF m pc L (.ref a :: S)) rfl rfl (hb K.2.2.1 hd)
  exact (g T' ⟨vm0, k0, hS, hk, _, X', e', N, E, J⟩).go st
theorem o_instanceofNo (K : oCtx p s m meth c Z own cb ml nm rt yy) (X : oSt p l e R s m args below meth c Z T h cells slots sf ld) {index : Nat} {C D : String} {a : Addr} (w : (Jvm.Cond.classLink own index D).before a0 Z = true) (Ex : Exa Z h a C) (F : ∃ c t, Z.vm.findClass C = some c ∧ Z.vm.findClass D = some t ∧ Z.vm.assignable c t = false) (hd : decode cb pc = .ok (.instanceof index, 3)) (hp : pc + 3 = pc') (g : ∀ T', oSt p l e R s m args below meth c Z T' h cells slots sf ld → oGoes p e below s Z T' (mkF m pc' L (.int 0 :: S)) Q cl sl lg) : oGoes p e below s Z T (mkF m pc L (.ref a :: S)) Q cl sl lg := by
  obtain ⟨vm0, k0, hS, hk, locs, X, eT, N, E, J⟩ := X
  have hZ := oWz K hS
  have hown := oWo K hS
  subst hp
  obtain ⟨T', X', e', st⟩ := instNo X K.1 hZ hown w eT Ex F (g := mkF m pc L (.ref a :: S)) rfl rfl (hb K.2.2.1 hd)
  exact (g T' ⟨vm0, k0, hS, hk, _, X', e', N, E, J⟩).go st
theorem o_instanceofNull (K : oCtx p s m meth c Z own cb ml nm rt yy) (X : oSt p l e R s m args below meth c Z T h cells slots sf ld) {index : Nat} (hd : decode cb pc = .ok (.instanceof index, 3)) (hp : pc + 3 = pc') (g : oGoes p e below s Z T (mkF m pc' L (.int 0 :: S)) Q cl sl lg) : oGoes p e below s Z T (mkF m pc L (.null :: S)) Q cl sl lg := by
  obtain ⟨vm0, k0, hS, hk, locs, X, eT, N, E, J⟩ := X
  have hZ := oWz K hS
  have hown := oWo K hS
  subst hp
  exact g.go fun t r => X.instanceofNull K.1 (g := mkF m pc L (.null :: S)) rfl rfl (hb K.2.2.1 hd) _ r
def oArr (Z : State) (h : Heap) (a : Addr) (k : ClassId) (ty : FieldType) (vs : List Value) : Prop := ∃ c : Cell, Arr Z h a c ty ∧ c.cls = k ∧ c.slots = vs.toArray ∧ (∀ v ∈ vs, fits ty v = true) ∧ vs.length < 2 ^ 31
theorem oArr.lt {a : Addr} {k : ClassId} {ty : FieldType} {vs : List Value} (F : oArr Z h a k ty vs) : a < h.size := by obtain ⟨c, A, -⟩ := F; exact A.lt
theorem oArr.ext {h' : Heap} {a : Addr} {k : ClassId} {ty : FieldType} {vs : List Value} (F : oArr Z h a k ty vs) (E : Ext h h') : oArr Z h' a k ty vs := by obtain ⟨c, A, r⟩ := F; exact ⟨c, A.ext E, r⟩
theorem oArr.other {h' : Heap} {a b : Addr} {k : ClassId} {ty : FieldType} {vs : List Value} {sl : Nat} {v : Value} (F : oArr Z h b k ty vs) (W : Wr h h' a sl v) (q : b ≠ a) : oArr Z h' b k ty vs := by obtain ⟨c, A, r⟩ := F; exact ⟨c, A.other W q, r⟩
theorem oArr.keep {h' : Heap} {a : Addr} {k : ClassId} {ty : FieldType} {vs : List Value} {ws : List Addr} (F : oArr Z h a k ty vs) (Kp : Keep h h' ws) (q : a ∉ ws) : oArr Z h' a k ty vs := by obtain ⟨c, A, r⟩ := F; exact ⟨c, ⟨Kp.2.1 a c A.1 q, A.2⟩, r⟩
theorem oArr.set {h' : Heap} {a : Addr} {k : ClassId} {ty : FieldType} {vs : List Value} {j : Nat} {v : Value} (F : oArr Z h a k ty vs) (W : Wr h h' a j v) (hf : fits ty v = true) : oArr Z h' a k ty (vs.set j v) := by
  obtain ⟨c, A, q1, q2, q3, q4⟩ := F
  refine ⟨c.setSlot j v, A.same W, q1, ?_, fun u hu => ?_, by simpa using q4⟩
  · simp [Cell.setSlot, q2, List.setIfInBounds_toArray]
  · rcases List.mem_or_eq_of_mem_set hu with q | rfl
    · exact q3 _ q
    · exact hf
theorem oInb {vs : List Value} {c : Cell} {j : Int32} (q : c.slots = vs.toArray) (hj : ¬ j < 0) (hlt : j.toNatClampNeg < vs.length) : ¬ (j < 0 ∨ c.slots.size ≤ j.toNatClampNeg) := by
  rw [q]; simp only [List.size_toArray]
  rintro (h1 | h1)
  · exact hj h1
  · omega
theorem o_arraylength (K : oCtx p s m meth c Z own cb ml nm rt yy) (X : oSt p l e R s m args below meth c Z T h cells slots sf ld) {a : Addr} {k : ClassId} {ty : FieldType} {vs : List Value} {z : Int32} (F : oArr Z h a k ty vs) (hz : vs.length.toInt32 = z) (hd : decode cb pc = .ok (.arraylength, 1)) (hp : pc + 1 = pc') (g : oGoes p e below s Z T (mkF m pc' L (.int z :: S)) Q cl sl lg) : oGoes p e below s Z T (mkF m pc L (.ref a :: S)) Q cl sl lg := by
  obtain ⟨vm0, k0, hS, hk, locs, X, eT, N, E, J⟩ := X
  have hZ := oWz K hS
  have hown := oWo K hS
  obtain ⟨cc, A, q1, q2, q3, q4⟩ := F
  subst hp
  refine g.go fun t r => X.arraylength K.1 (by rw [eT]; exact A.1) (State.isArrayOf_alike hZ.alike A.2.1) (g := mkF m pc L (.ref a :: S)) rfl rfl (hb K.2.2.1 hd) _ ?_
  have e1 : cc.slots.size.toInt32 = z := by rw [q2]; simpa using hz
  rw [e1]; exact r
theorem o_caload (K : oCtx p s m meth c Z own cb ml nm rt yy) (X : oSt p l e R s m args below meth c Z T h cells slots sf ld) {a : Addr} {k : ClassId} {vs : List Value} {j : Int32} {v : Value} (F : oArr Z h a k .char vs) (hj : ¬ j < 0) (hv : vs[j.toNatClampNeg]? = some v) (hd : decode cb pc = .ok (.caload, 1)) (hp : pc + 1 = pc') (g : oGoes p e below s Z T (mkF m pc' L (v :: S)) Q cl sl lg) : oGoes p e below s Z T (mkF m pc L (.int j :: .ref a :: S)) Q cl sl lg := by
  obtain ⟨vm0, k0, hS, hk, locs, X, eT, N, E, J⟩ := X
  have hZ := oWz K hS
  have hown := oWo K hS
  obtain ⟨cc, A, q1, q2, q3, q4⟩ := F
  subst hp
  exact g.go fun t r => X.caload K.1 (by rw [eT]; exact A.1) (State.isArrayOf_alike hZ.alike A.2.1) A.2.2 (oInb q2 hj (List.getElem?_eq_some_iff.mp hv).1) (by rw [q2]; simpa using hv) (g := mkF m pc L (.int j :: .ref a :: S)) rfl rfl (hb K.2.2.1 hd) _ r
theorem o_baload (K : oCtx p s m meth c Z own cb ml nm rt yy) (X : oSt p l e R s m args below meth c Z T h cells slots sf ld) {a : Addr} {k : ClassId} {vs : List Value} {j : Int32} {v : Value} (F : oArr Z h a k .byte vs) (hj : ¬ j < 0) (hv : vs[j.toNatClampNeg]? = some v) (hd : decode cb pc = .ok (.baload, 1)) (hp : pc + 1 = pc') (g : oGoes p e below s Z T (mkF m pc' L (v :: S)) Q cl sl lg) : oGoes p e below s Z T (mkF m pc L (.int j :: .ref a :: S)) Q cl sl lg := by
  obtain ⟨vm0, k0, hS, hk, locs, X, eT, N, E, J⟩ := X
  have hZ := oWz K hS
  have hown := oWo K hS
  obtain ⟨cc, A, q1, q2, q3, q4⟩ := F
  subst hp
  exact g.go fun t r => X.baloadBytes K.1 (by rw [eT]; exact A.1) (State.isArrayOf_alike hZ.alike A.2.1) A.2.2 (oInb q2 hj (List.getElem?_eq_some_iff.mp hv).1) (by rw [q2]; simpa using hv) (g := mkF m pc L (.int j :: .ref a :: S)) rfl rfl (hb K.2.2.1 hd) _ r
theorem o_aaload (K : oCtx p s m meth c Z own cb ml nm rt yy) (X : oSt p l e R s m args below meth c Z T h cells slots sf ld) {a : Addr} {k : ClassId} {vs : List Value} {j : Int32} {v : Value} {ty : FieldType} (hty : ty.isReference = true) (F : oArr Z h a k ty vs) (hj : ¬ j < 0) (hv : vs[j.toNatClampNeg]? = some v) (hd : decode cb pc = .ok (.aaload, 1)) (hp : pc + 1 = pc') (g : oGoes p e below s Z T (mkF m pc' L (v :: S)) Q cl sl lg) : oGoes p e below s Z T (mkF m pc L (.int j :: .ref a :: S)) Q cl sl lg := by
  obtain ⟨vm0, k0, hS, hk, locs, X, eT, N, E, J⟩ := X
  have hZ := oWz K hS
  have hown := oWo K hS
  obtain ⟨cc, A, q1, q2, q3, q4⟩ := F
  subst hp
  exact g.go fun t r => X.aaload K.1 (by rw [eT]; exact A.1) (State.isArrayOf_alike hZ.alike A.2.1) hty A.2.2 (oInb q2 hj (List.getElem?_eq_some_iff.mp hv).1) (by rw [q2]; simpa using hv) (g := mkF m pc L (.int j :: .ref a :: S)) rfl rfl (hb K.2.2.1 hd) _ r
theorem o_castore (K : oCtx p s m meth c Z own cb ml nm rt yy) (X : oSt p l e R s m args below meth c Z T h cells slots sf ld) {a : Addr} {k : ClassId} {vs : List Value} {j : Int32} {x : Int32} {z : Value} (F : oArr Z h a k .char vs) (hj : ¬ j < 0) (hlt : j.toNatClampNeg < vs.length) (hza : Z.heap.size ≤ a) (hsf : a ∈ sf) (hz : (.int (nar .char x) : Value) = z) (hd : decode cb pc = .ok (.castore, 1)) (hp : pc + 1 = pc')
    (g : ∀ T' h', oSt p l e R s m args below meth c Z T' h' cells slots sf ld → Wr h h' a j.toNatClampNeg z → oArr Z h' a k .char (vs.set j.toNatClampNeg z) → oGoes p e below s Z T' (mkF m pc' L S) Q cl sl lg) : oGoes p e below s Z T (mkF m pc L (.int x :: .int j :: .ref a :: S)) Q cl sl lg := by
  obtain ⟨vm0, k0, hS, hk, locs, X, eT, N, E, J⟩ := X
  have hZ := oWz K hS
  have hown := oWo K hS
  subst hp hz
  obtain ⟨cc, A, q1, q2, q3, q4⟩ := id F
  obtain ⟨T', h', X', e', W, st⟩ := stC X K.1 hZ eT A (oInb q2 hj hlt) (g := mkF m pc L (.int x :: .int j :: .ref a :: S)) rfl rfl (hb K.2.2.1 hd)
  exact (g T' h' ⟨vm0, k0, hS, Nat.le_trans hk (Keep.of_wr W).1, _, X', e', Fr.snoc X' N hza, oExt_wr E W hza, J.wr W hsf⟩ W (F.set W (fits_nar_char x))).go st
theorem o_bastore (K : oCtx p s m meth c Z own cb ml nm rt yy) (X : oSt p l e R s m args below meth c Z T h cells slots sf ld) {a : Addr} {k : ClassId} {vs : List Value} {j : Int32} {x : Int32} {z : Value} (F : oArr Z h a k .byte vs) (hj : ¬ j < 0) (hlt : j.toNatClampNeg < vs.length) (hza : Z.heap.size ≤ a) (hsf : a ∈ sf) (hz : (.int (nar .byte x) : Value) = z) (hd : decode cb pc = .ok (.bastore, 1)) (hp : pc + 1 = pc')
    (g : ∀ T' h', oSt p l e R s m args below meth c Z T' h' cells slots sf ld → Wr h h' a j.toNatClampNeg z → oArr Z h' a k .byte (vs.set j.toNatClampNeg z) → oGoes p e below s Z T' (mkF m pc' L S) Q cl sl lg) : oGoes p e below s Z T (mkF m pc L (.int x :: .int j :: .ref a :: S)) Q cl sl lg := by
  obtain ⟨vm0, k0, hS, hk, locs, X, eT, N, E, J⟩ := X
  have hZ := oWz K hS
  have hown := oWo K hS
  subst hp hz
  obtain ⟨cc, A, q1, q2, q3, q4⟩ := id F
  obtain ⟨T', h', X', e', W, st⟩ := stB X K.1 hZ eT A (oInb q2 hj hlt) (g := mkF m pc L (.int x :: .int j :: .ref a :: S)) rfl rfl (hb K.2.2.1 hd)
  exact (g T' h' ⟨vm0, k0, hS, Nat.le_trans hk (Keep.of_wr W).1, _, X', e', Fr.snoc X' N hza, oExt_wr E W hza, J.wr W hsf⟩ W (F.set W (fits_nar_byte x))).go st
theorem oArr_new {b : Addr} {k : ClassId} {ty : FieldType} {n : Int32} {c : Nat} (A : Arr Z h b (newA k ty n) ty) (hn : n.toNatClampNeg = c) (hc : c < 2 ^ 31) (hf : fits ty (defaultValue ty) = true) : oArr Z h b k ty (List.replicate c (defaultValue ty)) :=
  ⟨_, A, rfl, by simp [newA, hn], fun v hv => by rw [(List.mem_replicate.mp hv).2]; exact hf, by simpa using hc⟩
theorem o_newarray (K : oCtx p s m meth c Z own cb ml nm rt yy) (X : oSt p l e R s m args below meth c Z T h cells slots sf ld) {aty : ArrayType} {n : Int32} {ad : String} (cn : Nat) (w : (Jvm.Cond.arrayClass (newarray.typeOf aty)).before a0 Z = true) (had : "[" ++ (newarray.typeOf aty).toString = ad) (hn : ¬ n < 0) (hcn : n.toNatClampNeg = cn) (hbb : cn * 8 ≤ 536870912) (hf : fits (newarray.typeOf aty) (defaultValue (newarray.typeOf aty)) = true) (hd : decode cb pc = .ok (.newarray aty, 2)) (hp : pc + 2 = pc') (hc : cells + 1 ≤ R.cells) (hl : slots + cn ≤ R.slots)
    (g : ∀ T' h' b k, oSt p l e R s m args below meth c Z T' h' (cells + 1) (slots + cn) (b :: sf) ld → b = h.size → Ext h h' → oArr Z h' b k (newarray.typeOf aty) (List.replicate cn (defaultValue (newarray.typeOf aty))) → Exa Z h' b ad → Z.heap.size ≤ b → oGoes p e below s Z T' (mkF m pc' L (.ref b :: S)) Q cl sl lg) : oGoes p e below s Z T (mkF m pc L (.int n :: S)) Q cl sl lg := by
  obtain ⟨vm0, k0, hS, hk, locs, X, eT, N, E, J⟩ := X
  have hZ := oWz K hS
  have hown := oWo K hS
  subst hp
  obtain ⟨T', h', k, X', e', E', A, Ex, st⟩ := newPE X K.1 hZ w eT (g := mkF m pc L (.int n :: S)) rfl (hb K.2.2.1 hd) rfl hn (cap := cn) (Nat.le_of_eq hcn) hbb hc hl had
  exact (g T' h' h.size k ⟨vm0, k0, hS, Nat.le_trans hk E'.1, _, X', e', N, oExt_trans E E', J.new E' (Nat.le_refl _) (oExaLt Ex)⟩ rfl E' (oArr_new A hcn (by omega) hf) Ex E.1).go st
theorem oNarchar {y : Int32} (hy : y.toBitVec.toNat < 65536) : nar .char y = y := by
  apply Int32.toBitVec_inj.mp
  apply BitVec.eq_of_toNat_eq
  have e1 : (nar .char y).toBitVec.toNat = y.toUInt32.toUInt16.toUInt32.toNat := rfl
  have e2 : y.toUInt32.toNat = y.toBitVec.toNat := rfl
  rw [e1, UInt16.toNat_toUInt32, UInt32.toNat_toUInt16, e2]
  exact Nat.mod_eq_of_lt hy
theorem oNarMask (x : Int32) {k : Int32} (hk : k.toBitVec.toNat < 65536) : nar .char (x &&& k) = x &&& k := by
  refine oNarchar ?_
  simp only [Int32.toBitVec_and, BitVec.toNat_and]
  exact Nat.lt_of_le_of_lt Nat.and_le_right hk
theorem oNarIdembyte (x : Int32) : nar .byte (nar .byte x) = nar .byte x := by
  simp [nar]
theorem oFitbyte {x x' : Int32} (q : nar .byte x = x') : fits .byte (.int x') = true := q ▸ fits_nar_byte x
theorem oEqInt_v {args : Array Value} {f s : State} {o : Option Outcome} {idx : List Nat} {t : Term} {z : Int32} (q : (Jvm.Cond.eq t (Term.int z)).value args f o s idx = some true) : t.eval args f o idx s = some (.int z) := by
  have e2 : (Term.int z).eval args f o idx s = some (.int z) := rfl
  cases ht : t.eval args f o idx s with
  | none => simp [Jvm.Cond.value, ht] at q
  | some x => cases x <;> simp [Jvm.Cond.value, ht, e2] at q ⊢; exact q
theorem oArr_start {args : Array Value} {s : State} {t : Term} {ty : FieldType} {z : Int32} {n : Nat} (hf : Fit s) {a : Addr} (ht : t.eval args s none [] s = some (.ref a)) (hx : (Jvm.Cond.arrayOf t ty).value args s none s [] = some true) (hl : (Jvm.Cond.eq (Term.length t) (Term.int z)).value args s none s [] = some true) (hz : ¬ z < 0) (hn : z.toNatClampNeg = n) : ∃ k vs, oArr s s.heap a k ty vs ∧ vs.length = n := by
  obtain ⟨c, A⟩ := Arr.start ht hx
  have hA := A.fin (U := s) (Vm.Alike.refl _)
  have q := oEqInt_v hl
  have hs : c.slots.size < 2 ^ 31 ∧ c.slots.size.toInt32 = z := by
    by_cases hb : c.slots.size < 2 ^ 31
    · rw [len_f ht hA hb] at q
      exact ⟨hb, by simpa using q⟩
    · simp [Term.eval, ht, hA, hb] at q
  have hlen : c.slots.size = n := by
    have e1 := len_toInt hs.1
    rw [hs.2] at e1
    have e2 : z.toNatClampNeg = z.toInt.toNat := rfl
    omega
  refine ⟨c.cls, c.slots.toList, ⟨c, A, rfl, by simp, fun v hv => ?_, by simpa using hs.1⟩, by simpa using hlen⟩
  obtain ⟨i, hi, rfl⟩ := List.mem_iff_getElem.mp hv
  have hi' : i < c.slots.size := by simpa using hi
  obtain ⟨v', h1, h2⟩ := elem_fit hf A (j := i.toInt32) (idx_in hi' hs.1)
  have e3 : i.toInt32.toNatClampNeg = i := by
    have q1 : i.toInt32.toInt = i := len_toInt (by omega)
    show i.toInt32.toInt.toNat = i
    omega
  rw [e3, Array.getElem?_eq_getElem hi'] at h1
  cases h1
  simpa using h2
theorem oFold_t {C : Nat → Option Bool} : ∀ (is : List Nat) (b : Option Bool), (is.foldl (init := b) fun acc i => match acc with | some true => C i | x => x) = some true → b = some true ∧ ∀ i ∈ is, C i = some true
  | [], b, q => ⟨q, fun _ z => nomatch z⟩
  | i :: is, b, q => by
    have r := oFold_t is _ q
    obtain ⟨r1, r2⟩ := r
    have hb : b = some true := by
      rcases b with _ | b
      · simp at r1
      · cases b
        · simp at r1
        · rfl
    subst hb
    exact ⟨rfl, fun j hj => (List.mem_cons.mp hj).elim (fun z => z ▸ r1) (r2 j)⟩
theorem oAll_v {args : Array Value} {f s : State} {o : Option Outcome} {idx : List Nat} {t : Term} {d : Jvm.Cond} {a : Addr} {c : Cell} (q : (Jvm.Cond.all t d).value args f o s idx = some true) (ht : t.eval args f o idx s = some (.ref a)) (hA : s.arrayAt? a = some c) : ∀ i, i < c.slots.size → d.value args f o s (i :: idx) = some true := by
  intro i hi
  simp only [Jvm.Cond.value, ht, hA] at q
  exact (oFold_t _ _ q).2 i (List.mem_range.mpr hi)
theorem oStaRef {args : Array Value} {s : State} {C n d : String} {ty : FieldType} (q : (Jvm.Cond.arrayOf (Term.static C n d) ty).value args s none s [] = some true) (hi : (Jvm.Cond.initializedFor C n d).before args s = true ∨ ((Jvm.Cond.initialized C).before args s = true ∧ (Jvm.Cond.laysStatic C n d).before args s = true)) : ∃ a, (Term.static C n d).eval args s none [] s = some (.ref a) ∧ Sta s s.heap C n d (.ref a) := by
  obtain ⟨a, ha⟩ := arr_v q
  exact ⟨a, ha, Sta.start ha hi⟩
theorem oMaskPos (x : Int32) {k : Int32} (hk : k.toBitVec.toNat < 2 ^ 31) : ¬ (x &&& k) < 0 := by
  rw [Int32.lt_iff_toInt_lt]
  have h1 : (x &&& k).toBitVec.toNat < 2 ^ 31 := by
    simp only [Int32.toBitVec_and, BitVec.toNat_and]
    exact Nat.lt_of_le_of_lt Nat.and_le_right hk
  have h2 : (x &&& k).toInt = (x &&& k).toBitVec.toNat := BitVec.toInt_eq_toNat_of_lt (by omega)
  have h3 : (0 : Int32).toInt = 0 := by decide
  omega
theorem oNat_of {j : Int32} (q : ¬ j < 0) : j.toInt = (j.toNatClampNeg : Int) := nat_of q
theorem oNneg {i : Nat} (hi : i < 2 ^ 31) : ¬ i.toInt32 < 0 := by
  have q : i.toInt32.toInt = i := len_toInt hi
  simp only [Int32.lt_iff_toInt_lt, q, Int32.reduceToInt]; omega
theorem oNat32 {i : Nat} (hi : i < 2 ^ 31) : i.toInt32.toNatClampNeg = i := by
  have q1 : i.toInt32.toInt = i := len_toInt hi
  show i.toInt32.toInt.toNat = i
  omega
theorem oMask255 (x : Int32) : ¬ (255 : Int32) < (x &&& 255) := by
  rw [Int32.lt_iff_toInt_lt]
  have h1 : (x &&& 255).toBitVec.toNat ≤ 255 := by
    simp only [Int32.toBitVec_and, BitVec.toNat_and]
    exact Nat.and_le_right
  have h2 : (x &&& 255).toInt = (x &&& 255).toBitVec.toNat := BitVec.toInt_eq_toNat_of_lt (by omega)
  have h3 : (255 : Int32).toInt = 255 := by decide
  omega
theorem oNeInt_v {args : Array Value} {s : State} {t : Term} {x z : Int32} (ht : t.eval args s none [] s = some (.int x)) (q : (Jvm.Cond.not (Jvm.Cond.eq t (Term.int z))).value args s none s [] = some true) : ¬ x = z := by
  have r := not_v q
  have e2 : (Term.int z).eval args s none [] s = some (.int z) := rfl
  simpa [Jvm.Cond.value, ht, e2] using r
theorem oArr_of_arv {a : Addr} {k : ClassId} {ty : FieldType} {z : Int32} {vs : List Value} {dv : Value} (F : Arv Z h a k ty z vs dv) (hl : vs.length = z.toNatClampNeg) (hb : vs.length < 2 ^ 31) : oArr Z h a k ty vs := by
  obtain ⟨c, A, q1, S1, -, H, G1⟩ := F
  have sz : c.slots.size = vs.length := by omega
  refine ⟨c, A, q1, ?_, fun v hv => ?_, hb⟩
  · apply Array.ext
    · simpa using sz
    · intro i h1 h2
      have r := H i h1
      have h3 : i < vs.length := by omega
      rw [Array.getElem?_eq_getElem h1] at r
      simpa [h3, List.getD_eq_getElem?_getD] using r
  · obtain ⟨i, hi, rfl⟩ := List.mem_iff_getElem.mp hv
    have r := G1 i (by omega)
    simpa [hi, List.getD_eq_getElem?_getD] using r
theorem oAnd3 (x : Int32) : x &&& 3 = 0 ∨ x &&& 3 = 1 ∨ x &&& 3 = 2 ∨ x &&& 3 = 3 := by
  have h1 : (x &&& 3).toBitVec.toNat ≤ 3 := by
    simp only [Int32.toBitVec_and, BitVec.toNat_and]
    exact Nat.and_le_right
  have e : ∀ k : Int32, (x &&& 3).toBitVec.toNat = k.toBitVec.toNat → x &&& 3 = k := fun k q => Int32.toBitVec_inj.mp (BitVec.eq_of_toNat_eq q)
  have z0 : (0 : Int32).toBitVec.toNat = 0 := by decide
  have z1 : (1 : Int32).toBitVec.toNat = 1 := by decide
  have z2 : (2 : Int32).toBitVec.toNat = 2 := by decide
  have z3 : (3 : Int32).toBitVec.toNat = 3 := by decide
  by_cases q0 : (x &&& 3).toBitVec.toNat = 0
  · exact Or.inl (e 0 (by omega))
  by_cases q1 : (x &&& 3).toBitVec.toNat = 1
  · exact Or.inr (Or.inl (e 1 (by omega)))
  by_cases q2 : (x &&& 3).toBitVec.toNat = 2
  · exact Or.inr (Or.inr (Or.inl (e 2 (by omega))))
  · exact Or.inr (Or.inr (Or.inr (e 3 (by omega))))
theorem oInstSpec {Z : State} {a0 : Array Value} {K : String} {n : Nat} (w : (Jvm.Cond.instantiable K n).before a0 Z = true) : ∃ t k, Z.vm.findClass K = some t ∧ Z.vm.classes[t]? = some k ∧ k.kind = .ordinary ∧ k.isInterface = false := by
  simp only [Cond.before, Cond.holds, Cond.value] at w
  cases hc : Z.vm.findClass K with
  | none => simp [hc] at w
  | some t =>
    cases hk : Z.vm.classes[t]? with
    | none => simp [hc, hk] at w
    | some k => simp [hc, hk] at w; exact ⟨t, k, rfl, hk, w.1.1.1, w.1.1.2.1⟩
theorem oNeArr {Z : State} {h : Heap} {a0 : Array Value} {a b : Addr} {C : String} {n : Nat} {k : ClassId} {ty : FieldType} {vs : List Value} (E : Exa Z h a C) (w : (Jvm.Cond.instantiable C n).before a0 Z = true) (F : oArr Z h b k ty vs) : b ≠ a := by
  rintro rfl
  obtain ⟨cell, k1, e1, e2, e3, -, -⟩ := E
  obtain ⟨c, ⟨A1, ⟨-, k2, g1, comp, g2⟩, -⟩, -⟩ := F
  obtain ⟨t, k3, f1, f2, f3, -⟩ := oInstSpec w
  cases A1.symm.trans e1
  cases f1.symm.trans e2
  cases f2.symm.trans g1
  rw [f3] at g2; cases g2
theorem oNSroot {Z : State} {a0 : Array Value} {O K : String} {n : Nat} (w : (Jvm.Cond.noSuperclass O).before a0 Z = true) (wk : (Jvm.Cond.instantiable K n).before a0 Z = true) (hn : O ≠ K) : NS Z O K := by
  obtain ⟨c, k, h1, h2, h3, -, -⟩ := Cond.noSuperclass_spec w
  obtain ⟨t, _, g1, -⟩ := oInstSpec wk
  have ne := ids_ne h1 g1 hn
  refine ⟨c, t, h1, g1, fun fuel => ?_⟩
  cases fuel with
  | zero => rfl
  | succ f => simp [Vm.isSubclassAux, ne, h2, h3]
theorem oNSno {Z : State} {a0 : Array Value} {C S K : String} {n : Nat} (w : (Jvm.Cond.superclass C S).before a0 Z = true) (wk : (Jvm.Cond.instantiable K n).before a0 Z = true) (q : NS Z C K) (hn : C ≠ K) : ∃ c t, Z.vm.findClass C = some c ∧ Z.vm.findClass K = some t ∧ Z.vm.assignable c t = false := by
  obtain ⟨c, t, h0, g0, n3⟩ := q
  obtain ⟨p, k, kp, h1, h2, h3, h4, h5, -, h7⟩ := Cond.superclass_spec h0 w
  obtain ⟨t', k', g1, g2, g3, g4⟩ := oInstSpec wk
  cases g0.symm.trans g1
  have ne := ids_ne h0 g0 hn
  refine ⟨c, t, h0, g0, ?_⟩
  show Z.vm.assignableAux (255 + 1) c t = false
  simp [Vm.assignableAux, ne, h2, g2, h5, g3, g4, Vm.isSubclass, n3]
theorem o_ldcO (K : oCtx p s m meth c Z own cb ml nm rt yy) (X : oSt p l e R s m args below meth c Z T h cells slots sf ld) {index : Nat} {text : String} (n : Nat) (hEW : EW Z a0 oEL) (w : (Jvm.Cond.stringLink own index text).before a0 Z = true) (wS : ∀ a ∈ Bundle.stringAtoms, a.before a0 Z = true) (hd : decode cb pc = .ok (.ldc index, 2)) (hp : pc + 2 = pc') (hn : 4 * text.toList.length ≤ n) (hbig : n ≤ 536870912) (hc : cells + 2 ≤ R.cells) (hl : slots + (n + 4) ≤ R.slots)
    (g : ∀ T' h' a, oSt p l e R s m args below meth c Z T' h' (cells + 2) (slots + (n + 4)) sf true → Ext h h' → oGoes p e below s Z T' (mkF m pc' L (.ref a :: S)) Q cl sl lg) : oGoes p e below s Z T (mkF m pc L S) Q cl sl lg := by
  obtain ⟨vm0, k0, hS, hk, locs, X, eT, N, E, J⟩ := X
  have hZ := oWz K hS
  have hown := oWo K hS
  subst hp
  obtain ⟨a, T', h', k1, X', e', E', hS', hk', -, -, hC, -, st⟩ := ldcOH X K.1 hZ hown (a0 := a0) w wS eT hS hk (EL := oEL) hEW J.1 (g := mkF m pc L S) rfl (hb K.2.2.1 hd) hn hbig hc hl
  exact (g T' h' a ⟨T'.vm, k1, hS', hk', locs, X', e', N, oExt_trans E E', J.load hC⟩ E').go st
theorem o_ldcR (K : oCtx p s m meth c Z own cb ml nm rt yy) (X : oSt p l e R s m args below meth c Z T h cells slots sf ld) {index : Nat} {text : String} (n : Nat) (vs : List Value) (hEW : EW Z a0 oEL) (w : (Jvm.Cond.stringLink own index text).before a0 Z = true) (wS : ∀ a ∈ Bundle.stringAtoms, a.before a0 Z = true) (hmem : (own, index) ∈ oEL) (ht : (∀ c ∈ text.toList, c.toNat < 256) ∧ text.toList.map (fun c => Value.int (Jvm.Lit.byteI c.toNat.toUInt16)) = vs) (hv : vs.length < 2 ^ 31)
    (hd : decode cb pc = .ok (.ldc index, 2)) (hp : pc + 2 = pc') (hn : 4 * text.toList.length ≤ n) (hbig : n ≤ 536870912) (hc : cells + 2 ≤ R.cells) (hl : slots + (n + 4) ≤ R.slots)
    (g : ∀ T' h' a b k, oSt p l e R s m args below meth c Z T' h' (cells + 2) (slots + (n + 4)) sf true → Ext h h' → Exa Z h' a "java/lang/String" → Fld Z h' a "java/lang/String" "coder" "B" (.int 0) → Fld Z h' a "java/lang/String" "value" "[B" (.ref b) → oArr Z h' b k .byte vs → (∀ x ∈ sf, x ≠ a ∧ x ≠ b) → oGoes p e below s Z T' (mkF m pc' L (.ref a :: S)) Q cl sl lg) : oGoes p e below s Z T (mkF m pc L S) Q cl sl lg := by
  obtain ⟨vm0, k0, hS, hk, locs, X, eT, N, E, J⟩ := X
  have hZ := oWz K hS
  have hown := oWo K hS
  subst hp
  have e1 : vs.length.toInt32.toNatClampNeg = vs.length := oNat32 hv
  obtain ⟨a, T', h', k1, b, k, X', e', E', hS', hk', -, -, q1, q2, q3, q4, -, -, hC, -, hne, st⟩ := ldcCH X K.1 hZ hown (a0 := a0) w wS eT hS hk (EL := oEL) hEW hmem J.1 (vs := vs) (z := vs.length.toInt32) ht (oNneg hv) e1 (g := mkF m pc L S) rfl (hb K.2.2.1 hd) hn hbig hc hl
  have J' := J.load hC
  exact (g T' h' a b k ⟨T'.vm, k1, hS', hk', locs, X', e', N, oExt_trans E E', J'⟩ E' q1 q2 q3 (oArr_of_arv q4 e1.symm hv) (fun x hx => hne x (J'.2.1 x hx).2)).go st
end Own
def oBy (n x0 x1 : Int32) : List Value := if n = (0 : Int32) then [] else if n = (1 : Int32) then [.int (nar .byte x0)] else [.int (nar .byte x0), .int (nar .byte x1)]
theorem oByC {Z : State} {h : Heap} {a : Addr} {k : ClassId} {vs ws : List Value} (q : ws = vs) (F : oArr Z h a k .byte vs) : oArr Z h a k .byte ws := q ▸ F
theorem oByD {Z : State} {h : Heap} {a : Addr} {k : ClassId} {vs ws : List Value} (q : ws = vs) (F : oArr Z h a k .byte ws) : oArr Z h a k .byte vs := q ▸ F
theorem oBy0 (x y : Int32) : oBy 0 x y = [] := if_pos rfl
theorem oBy1 (x y : Int32) : oBy 1 x y = [.int (nar .byte x)] := (if_neg (by decide)).trans (if_pos rfl)
theorem oBy2 (x y : Int32) : oBy 2 x y = [.int (nar .byte x), .int (nar .byte y)] := (if_neg (by decide)).trans (if_neg (by decide))
def oLen (x : Int32) : Int32 := (((x.toUInt32 >>> ((16 : Int32) &&& 31).toUInt32).toInt32) &&& (3 : Int32)) % (3 : Int32)
def oC0 (x : Int32) : Int32 := x &&& (255 : Int32)
def oC1 (x : Int32) : Int32 := ((x.toUInt32 >>> ((8 : Int32) &&& 31).toUInt32).toInt32) &&& (255 : Int32)
def oL (n : Int32) : Prop := n = (0 : Int32) ∨ n = (1 : Int32) ∨ n = (2 : Int32)
def oCh (x : Int32) : Prop := ¬ (x < (0 : Int32)) ∧ ¬ ((255 : Int32) < x)
theorem oLenL (x : Int32) : oL (oLen x) := by
  have h : ∀ y : Int32, oL ((y &&& (3 : Int32)) % (3 : Int32)) := fun y => by
    rcases oAnd3 y with q | q | q | q <;> rw [q] <;> simp only [oL] <;> decide
  exact h _
theorem oChM (y : Int32) : oCh (y &&& (255 : Int32)) := ⟨oMaskPos _ (by decide), oMask255 _⟩
theorem oNarEq {x y : Int32} (hx : oCh x) (hy : oCh y) : nar .byte x = nar .byte y ↔ x = y := by
  refine ⟨fun q => ?_, fun q => by rw [q]⟩
  obtain ⟨x1, x2⟩ := hx
  obtain ⟨y1, y2⟩ := hy
  rw [Int32.lt_iff_toInt_lt] at x1 x2 y1 y2
  have z1 : (0 : Int32).toInt = 0 := by decide
  have z2 : (255 : Int32).toInt = 255 := by decide
  have e : (nar .byte x).toInt = (nar .byte y).toInt := congrArg Int32.toInt q
  simp only [nar, Int8.toInt_toInt32, Int32.toInt_toInt8] at e
  refine Int32.toInt_inj.mp ?_
  simp only [Int.bmod] at e
  omega
def oSm (n x0 x1 m y0 y1 : Int32) : Int32 := if n = m ∧ (n < (1 : Int32) ∨ x0 = y0) ∧ (n < (2 : Int32) ∨ x1 = y1) then 1 else 0
theorem oSm1 {n x0 x1 m y0 y1 : Int32} (h : ¬ oSm n x0 x1 m y0 y1 = 0) : oSm n x0 x1 m y0 y1 = 1 := by
  unfold oSm at h ⊢; split <;> simp_all
theorem oSmF (n x0 x1 m y0 y1 : Int32) : oSm n x0 x1 m y0 y1 = oSm m y0 y1 n x0 x1 := by
  unfold oSm
  by_cases e : n = m
  · subst e; simp only [eq_comm (a := x0), eq_comm (a := x1)]
  · rw [if_neg (fun q => e q.1), if_neg (fun q => e q.1.symm)]
theorem oSmFp {n x0 x1 m y0 y1 z : Int32} (h : oSm n x0 x1 m y0 y1 = z) : oSm m y0 y1 n x0 x1 = z := (oSmF _ _ _ _ _ _).trans h
theorem oSmFn {n x0 x1 m y0 y1 z : Int32} (h : ¬ oSm n x0 x1 m y0 y1 = z) : ¬ oSm m y0 y1 n x0 x1 = z := fun q => h ((oSmF _ _ _ _ _ _).trans q)
def oSm2 (p q : Int32) : Int32 := if p = 0 then 0 else if q = 0 then 0 else 1
theorem oCacheIx {i : Int32} (h1 : ¬ i < (-128 : Int32)) (h2 : ¬ (127 : Int32) < i) : ¬ ((i + (128 : Int32)) < (0 : Int32)) ∧ (i + (128 : Int32)) < (256 : Int32) := by
  have e1 := mt Int32.lt_iff_toInt_lt.mpr h1
  have e2 := mt Int32.lt_iff_toInt_lt.mpr h2
  have z1 : (-128 : Int32).toInt = -128 := by decide
  have z2 : (127 : Int32).toInt = 127 := by decide
  have z3 : (0 : Int32).toInt = 0 := by decide
  have z4 : (256 : Int32).toInt = 256 := by decide
  have z5 : (128 : Int32).toInt = 128 := by decide
  have e3 : (i + (128 : Int32)).toInt = i.toInt + 128 := by
    rw [Int32.toInt_add, z5]; simp only [Int.bmod]; omega
  rw [Int32.lt_iff_toInt_lt, Int32.lt_iff_toInt_lt]
  omega
def oHw (Z : State) (a0 : Array Value) : Prop := ∀ d ∈ tables_1, d.before a0 Z = true
theorem w0 {Z : State} {a0 : Array Value} (hw : oHw Z a0) : (Jvm.Cond.methodLink "com/example/phone_conformance_check/phoneconformancecheck/capture/PropertyEqualsPinLaw" (7 : Nat) ({ cls := "com/example/phone_conformance_check/phoneconformancecheck/capture/PropertyEqualsPinLaw", name := "len", desc := "(I)I" } : Jvm.MethodName)).before a0 Z = true := hw _ (List.mem_of_getElem? (i := 0) rfl)
theorem w1 {Z : State} {a0 : Array Value} (hw : oHw Z a0) : (Jvm.Cond.static ({ cls := "com/example/phone_conformance_check/phoneconformancecheck/capture/PropertyEqualsPinLaw", name := "len", desc := "(I)I" } : Jvm.MethodName)).before a0 Z = true := hw _ (List.mem_of_getElem? (i := 1) rfl)
theorem w2 {Z : State} {a0 : Array Value} (hw : oHw Z a0) : (Jvm.Cond.initialized "com/example/phone_conformance_check/phoneconformancecheck/capture/PropertyEqualsPinLaw").before a0 Z = true := hw _ (List.mem_of_getElem? (i := 2) rfl)
theorem w3 {Z : State} {a0 : Array Value} (hw : oHw Z a0) : (Jvm.Cond.code ({ cls := "com/example/phone_conformance_check/phoneconformancecheck/capture/PropertyEqualsPinLaw", name := "len", desc := "(I)I" } : Jvm.MethodName) method_3_code (1 : Nat) (Option.some Jvm.ClassFile.FieldType.int)).before a0 Z = true := hw _ (List.mem_of_getElem? (i := 3) rfl)
theorem w4 {Z : State} {a0 : Array Value} (hw : oHw Z a0) : (Jvm.Cond.methodLink "com/example/phone_conformance_check/phoneconformancecheck/capture/PropertyEqualsPinLaw" (13 : Nat) ({ cls := "com/example/phone_conformance_check/phoneconformancecheck/capture/PropertyEqualsPinLaw", name := "c0", desc := "(I)C" } : Jvm.MethodName)).before a0 Z = true := hw _ (List.mem_of_getElem? (i := 4) rfl)
theorem w5 {Z : State} {a0 : Array Value} (hw : oHw Z a0) : (Jvm.Cond.static ({ cls := "com/example/phone_conformance_check/phoneconformancecheck/capture/PropertyEqualsPinLaw", name := "c0", desc := "(I)C" } : Jvm.MethodName)).before a0 Z = true := hw _ (List.mem_of_getElem? (i := 5) rfl)
theorem w6 {Z : State} {a0 : Array Value} (hw : oHw Z a0) : (Jvm.Cond.code ({ cls := "com/example/phone_conformance_check/phoneconformancecheck/capture/PropertyEqualsPinLaw", name := "c0", desc := "(I)C" } : Jvm.MethodName) method_4_code (1 : Nat) (Option.some Jvm.ClassFile.FieldType.char)).before a0 Z = true := hw _ (List.mem_of_getElem? (i := 6) rfl)
theorem w7 {Z : State} {a0 : Array Value} (hw : oHw Z a0) : (Jvm.Cond.methodLink "com/example/phone_conformance_check/phoneconformancecheck/capture/PropertyEqualsPinLaw" (17 : Nat) ({ cls := "com/example/phone_conformance_check/phoneconformancecheck/capture/PropertyEqualsPinLaw", name := "c1", desc := "(I)C" } : Jvm.MethodName)).before a0 Z = true := hw _ (List.mem_of_getElem? (i := 7) rfl)
theorem w8 {Z : State} {a0 : Array Value} (hw : oHw Z a0) : (Jvm.Cond.static ({ cls := "com/example/phone_conformance_check/phoneconformancecheck/capture/PropertyEqualsPinLaw", name := "c1", desc := "(I)C" } : Jvm.MethodName)).before a0 Z = true := hw _ (List.mem_of_getElem? (i := 8) rfl)
theorem w9 {Z : State} {a0 : Array Value} (hw : oHw Z a0) : (Jvm.Cond.code ({ cls := "com/example/phone_conformance_check/phoneconformancecheck/capture/PropertyEqualsPinLaw", name := "c1", desc := "(I)C" } : Jvm.MethodName) method_5_code (1 : Nat) (Option.some Jvm.ClassFile.FieldType.char)).before a0 Z = true := hw _ (List.mem_of_getElem? (i := 9) rfl)
theorem w10 {Z : State} {a0 : Array Value} (hw : oHw Z a0) : (Jvm.Cond.classLink "com/example/phone_conformance_check/phoneconformancecheck/capture/PropertyEqualsPinLaw" (20 : Nat) "com/example/phone_conformance_check/phoneconformancecheck/capture/Property").before a0 Z = true := hw _ (List.mem_of_getElem? (i := 10) rfl)
theorem w11 {Z : State} {a0 : Array Value} (hw : oHw Z a0) : (Jvm.Cond.instantiable "com/example/phone_conformance_check/phoneconformancecheck/capture/Property" (2 : Nat)).before a0 Z = true := hw _ (List.mem_of_getElem? (i := 11) rfl)
theorem w12 {Z : State} {a0 : Array Value} (hw : oHw Z a0) : (Jvm.Cond.initialized "com/example/phone_conformance_check/phoneconformancecheck/capture/Property").before a0 Z = true := hw _ (List.mem_of_getElem? (i := 12) rfl)
theorem w13 {Z : State} {a0 : Array Value} (hw : oHw Z a0) : (Jvm.Cond.methodLink "com/example/phone_conformance_check/phoneconformancecheck/capture/PropertyEqualsPinLaw" (22 : Nat) ({ cls := "com/example/phone_conformance_check/phoneconformancecheck/capture/PropertyEqualsPinLaw", name := "mk", desc := "(ICC)Ljava/lang/String;" } : Jvm.MethodName)).before a0 Z = true := hw _ (List.mem_of_getElem? (i := 13) rfl)
theorem w14 {Z : State} {a0 : Array Value} (hw : oHw Z a0) : (Jvm.Cond.static ({ cls := "com/example/phone_conformance_check/phoneconformancecheck/capture/PropertyEqualsPinLaw", name := "mk", desc := "(ICC)Ljava/lang/String;" } : Jvm.MethodName)).before a0 Z = true := hw _ (List.mem_of_getElem? (i := 14) rfl)
theorem w15 {Z : State} {a0 : Array Value} (hw : oHw Z a0) : (Jvm.Cond.code ({ cls := "com/example/phone_conformance_check/phoneconformancecheck/capture/PropertyEqualsPinLaw", name := "mk", desc := "(ICC)Ljava/lang/String;" } : Jvm.MethodName) method_6_code (3 : Nat) (Option.some (Jvm.ClassFile.FieldType.object "java/lang/String"))).before a0 Z = true := hw _ (List.mem_of_getElem? (i := 15) rfl)
theorem w16 {Z : State} {a0 : Array Value} (hw : oHw Z a0) : (Jvm.Cond.classLink "com/example/phone_conformance_check/phoneconformancecheck/capture/PropertyEqualsPinLaw" (43 : Nat) "java/lang/String").before a0 Z = true := hw _ (List.mem_of_getElem? (i := 16) rfl)
theorem w17 {Z : State} {a0 : Array Value} (hw : oHw Z a0) : (Jvm.Cond.instantiable "java/lang/String" (4 : Nat)).before a0 Z = true := hw _ (List.mem_of_getElem? (i := 17) rfl)
theorem w18 {Z : State} {a0 : Array Value} (hw : oHw Z a0) : (Jvm.Cond.initialized "java/lang/String").before a0 Z = true := hw _ (List.mem_of_getElem? (i := 18) rfl)
theorem w19 {Z : State} {a0 : Array Value} (hw : oHw Z a0) : (Jvm.Cond.arrayClass Jvm.ClassFile.FieldType.char).before a0 Z = true := hw _ (List.mem_of_getElem? (i := 19) rfl)
theorem w20 {Z : State} {a0 : Array Value} (hw : oHw Z a0) : (Jvm.Cond.methodLink "com/example/phone_conformance_check/phoneconformancecheck/capture/PropertyEqualsPinLaw" (45 : Nat) ({ cls := "java/lang/String", name := "<init>", desc := "([C)V" } : Jvm.MethodName)).before a0 Z = true := hw _ (List.mem_of_getElem? (i := 20) rfl)
theorem w21 {Z : State} {a0 : Array Value} (hw : oHw Z a0) : (Jvm.Cond.instanceMethod ({ cls := "java/lang/String", name := "<init>", desc := "([C)V" } : Jvm.MethodName)).before a0 Z = true := hw _ (List.mem_of_getElem? (i := 21) rfl)
theorem w22 {Z : State} {a0 : Array Value} (hw : oHw Z a0) : (Jvm.Cond.code ({ cls := "java/lang/String", name := "<init>", desc := "([C)V" } : Jvm.MethodName) jdk_42_method_3_code (2 : Nat) (Option.none : Option Jvm.ClassFile.FieldType)).before a0 Z = true := hw _ (List.mem_of_getElem? (i := 22) rfl)
theorem w23 {Z : State} {a0 : Array Value} (hw : oHw Z a0) : (Jvm.Cond.methodLink "java/lang/String" (27 : Nat) ({ cls := "java/lang/String", name := "<init>", desc := "([CIILjava/lang/Void;)V" } : Jvm.MethodName)).before a0 Z = true := hw _ (List.mem_of_getElem? (i := 23) rfl)
theorem w24 {Z : State} {a0 : Array Value} (hw : oHw Z a0) : (Jvm.Cond.instanceMethod ({ cls := "java/lang/String", name := "<init>", desc := "([CIILjava/lang/Void;)V" } : Jvm.MethodName)).before a0 Z = true := hw _ (List.mem_of_getElem? (i := 24) rfl)
theorem w26 {Z : State} {a0 : Array Value} (hw : oHw Z a0) : (Jvm.Cond.code ({ cls := "java/lang/String", name := "<init>", desc := "([CIILjava/lang/Void;)V" } : Jvm.MethodName) jdk_42_method_149_code (6 : Nat) (Option.none : Option Jvm.ClassFile.FieldType)).before a0 Z = true := hw _ (List.mem_of_getElem? (i := 26) rfl)
theorem w27 {Z : State} {a0 : Array Value} (hw : oHw Z a0) : (Jvm.Cond.methodLink "java/lang/String" (1 : Nat) ({ cls := "java/lang/Object", name := "<init>", desc := "()V" } : Jvm.MethodName)).before a0 Z = true := hw _ (List.mem_of_getElem? (i := 27) rfl)
theorem w28 {Z : State} {a0 : Array Value} (hw : oHw Z a0) : (Jvm.Cond.instanceMethod ({ cls := "java/lang/Object", name := "<init>", desc := "()V" } : Jvm.MethodName)).before a0 Z = true := hw _ (List.mem_of_getElem? (i := 28) rfl)
theorem w29 {Z : State} {a0 : Array Value} (hw : oHw Z a0) : (Jvm.Cond.code ({ cls := "java/lang/Object", name := "<init>", desc := "()V" } : Jvm.MethodName) object_method_1_code (1 : Nat) (Option.none : Option Jvm.ClassFile.FieldType)).before a0 Z = true := hw _ (List.mem_of_getElem? (i := 29) rfl)
theorem w30 {Z : State} {a0 : Array Value} (hw : oHw Z a0) : (Jvm.Cond.stringLink "java/lang/String" (7 : Nat) "").before a0 Z = true := hw _ (List.mem_of_getElem? (i := 30) rfl)
theorem w31 {Z : State} {a0 : Array Value} (hw : oHw Z a0) : (Jvm.Cond.arrayClass Jvm.ClassFile.FieldType.byte).before a0 Z = true := hw _ (List.mem_of_getElem? (i := 31) rfl)
theorem w32 {Z : State} {a0 : Array Value} (hw : oHw Z a0) : (Jvm.Cond.laysFinal "java/lang/String" "java/lang/String" "value" "[B").before a0 Z = true := hw _ (List.mem_of_getElem? (i := 32) rfl)
theorem w33 {Z : State} {a0 : Array Value} (hw : oHw Z a0) : (Jvm.Cond.laysFinal "java/lang/String" "java/lang/String" "coder" "B").before a0 Z = true := hw _ (List.mem_of_getElem? (i := 33) rfl)
theorem w34 {Z : State} {a0 : Array Value} (hw : oHw Z a0) : (Jvm.Cond.soleField "java/lang/String" "value").before a0 Z = true := hw _ (List.mem_of_getElem? (i := 34) rfl)
theorem w35 {Z : State} {a0 : Array Value} (hw : oHw Z a0) : (Jvm.Cond.soleField "java/lang/String" "coder").before a0 Z = true := hw _ (List.mem_of_getElem? (i := 35) rfl)
theorem w36 {Z : State} {a0 : Array Value} (hw : oHw Z a0) : (Jvm.Cond.fieldLink "java/lang/String" (9 : Nat) "java/lang/String" "value" "[B").before a0 Z = true := hw _ (List.mem_of_getElem? (i := 36) rfl)
theorem w37 {Z : State} {a0 : Array Value} (hw : oHw Z a0) : (Jvm.Cond.fieldLink "java/lang/String" (15 : Nat) "java/lang/String" "coder" "B").before a0 Z = true := hw _ (List.mem_of_getElem? (i := 37) rfl)
theorem w38 {Z : State} {a0 : Array Value} (hw : oHw Z a0) : (Jvm.Cond.methodLink "com/example/phone_conformance_check/phoneconformancecheck/capture/PropertyEqualsPinLaw" (26 : Nat) ({ cls := "com/example/phone_conformance_check/phoneconformancecheck/capture/Property", name := "<init>", desc := "(Ljava/lang/String;Ljava/lang/String;)V" } : Jvm.MethodName)).before a0 Z = true := hw _ (List.mem_of_getElem? (i := 38) rfl)
theorem w39 {Z : State} {a0 : Array Value} (hw : oHw Z a0) : (Jvm.Cond.instanceMethod ({ cls := "com/example/phone_conformance_check/phoneconformancecheck/capture/Property", name := "<init>", desc := "(Ljava/lang/String;Ljava/lang/String;)V" } : Jvm.MethodName)).before a0 Z = true := hw _ (List.mem_of_getElem? (i := 39) rfl)
theorem w40 {Z : State} {a0 : Array Value} (hw : oHw Z a0) : (Jvm.Cond.code ({ cls := "com/example/phone_conformance_check/phoneconformancecheck/capture/Property", name := "<init>", desc := "(Ljava/lang/String;Ljava/lang/String;)V" } : Jvm.MethodName) prog_16_method_1_code (3 : Nat) (Option.none : Option Jvm.ClassFile.FieldType)).before a0 Z = true := hw _ (List.mem_of_getElem? (i := 40) rfl)
theorem w41 {Z : State} {a0 : Array Value} (hw : oHw Z a0) : (Jvm.Cond.methodLink "com/example/phone_conformance_check/phoneconformancecheck/capture/Property" (1 : Nat) ({ cls := "java/lang/Object", name := "<init>", desc := "()V" } : Jvm.MethodName)).before a0 Z = true := hw _ (List.mem_of_getElem? (i := 41) rfl)
theorem w42 {Z : State} {a0 : Array Value} (hw : oHw Z a0) : (Jvm.Cond.stringLink "com/example/phone_conformance_check/phoneconformancecheck/capture/Property" (7 : Nat) "name").before a0 Z = true := hw _ (List.mem_of_getElem? (i := 42) rfl)
theorem w43 {Z : State} {a0 : Array Value} (hw : oHw Z a0) : (Jvm.Cond.methodLink "com/example/phone_conformance_check/phoneconformancecheck/capture/Property" (9 : Nat) ({ cls := "java/util/Objects", name := "requireNonNull", desc := "(Ljava/lang/Object;Ljava/lang/String;)Ljava/lang/Object;" } : Jvm.MethodName)).before a0 Z = true := hw _ (List.mem_of_getElem? (i := 43) rfl)
theorem w44 {Z : State} {a0 : Array Value} (hw : oHw Z a0) : (Jvm.Cond.static ({ cls := "java/util/Objects", name := "requireNonNull", desc := "(Ljava/lang/Object;Ljava/lang/String;)Ljava/lang/Object;" } : Jvm.MethodName)).before a0 Z = true := hw _ (List.mem_of_getElem? (i := 44) rfl)
theorem w45 {Z : State} {a0 : Array Value} (hw : oHw Z a0) : (Jvm.Cond.initialized "java/util/Objects").before a0 Z = true := hw _ (List.mem_of_getElem? (i := 45) rfl)
theorem w46 {Z : State} {a0 : Array Value} (hw : oHw Z a0) : (Jvm.Cond.code ({ cls := "java/util/Objects", name := "requireNonNull", desc := "(Ljava/lang/Object;Ljava/lang/String;)Ljava/lang/Object;" } : Jvm.MethodName) jdk_31_method_11_code (2 : Nat) (Option.some (Jvm.ClassFile.FieldType.object "java/lang/Object"))).before a0 Z = true := hw _ (List.mem_of_getElem? (i := 46) rfl)
theorem w47 {Z : State} {a0 : Array Value} (hw : oHw Z a0) : (Jvm.Cond.classLink "com/example/phone_conformance_check/phoneconformancecheck/capture/Property" (15 : Nat) "java/lang/String").before a0 Z = true := hw _ (List.mem_of_getElem? (i := 47) rfl)
theorem w48 {Z : State} {a0 : Array Value} (hw : oHw Z a0) : (Jvm.Cond.fieldLink "com/example/phone_conformance_check/phoneconformancecheck/capture/Property" (17 : Nat) "com/example/phone_conformance_check/phoneconformancecheck/capture/Property" "name" "Ljava/lang/String;").before a0 Z = true := hw _ (List.mem_of_getElem? (i := 48) rfl)
theorem w49 {Z : State} {a0 : Array Value} (hw : oHw Z a0) : (Jvm.Cond.laysFinal "com/example/phone_conformance_check/phoneconformancecheck/capture/Property" "com/example/phone_conformance_check/phoneconformancecheck/capture/Property" "name" "Ljava/lang/String;").before a0 Z = true := hw _ (List.mem_of_getElem? (i := 49) rfl)
theorem w50 {Z : State} {a0 : Array Value} (hw : oHw Z a0) : (Jvm.Cond.stringLink "com/example/phone_conformance_check/phoneconformancecheck/capture/Property" (22 : Nat) "value").before a0 Z = true := hw _ (List.mem_of_getElem? (i := 50) rfl)
theorem w51 {Z : State} {a0 : Array Value} (hw : oHw Z a0) : (Jvm.Cond.fieldLink "com/example/phone_conformance_check/phoneconformancecheck/capture/Property" (24 : Nat) "com/example/phone_conformance_check/phoneconformancecheck/capture/Property" "value" "Ljava/lang/String;").before a0 Z = true := hw _ (List.mem_of_getElem? (i := 51) rfl)
theorem w52 {Z : State} {a0 : Array Value} (hw : oHw Z a0) : (Jvm.Cond.laysFinal "com/example/phone_conformance_check/phoneconformancecheck/capture/Property" "com/example/phone_conformance_check/phoneconformancecheck/capture/Property" "value" "Ljava/lang/String;").before a0 Z = true := hw _ (List.mem_of_getElem? (i := 52) rfl)
theorem w53 {Z : State} {a0 : Array Value} (hw : oHw Z a0) : (Jvm.Cond.methodLink "com/example/phone_conformance_check/phoneconformancecheck/capture/PropertyEqualsPinLaw" (39 : Nat) ({ cls := "com/example/phone_conformance_check/phoneconformancecheck/capture/PropertyEqualsPinLaw", name := "same", desc := "(ICCICC)Z" } : Jvm.MethodName)).before a0 Z = true := hw _ (List.mem_of_getElem? (i := 53) rfl)
theorem w54 {Z : State} {a0 : Array Value} (hw : oHw Z a0) : (Jvm.Cond.static ({ cls := "com/example/phone_conformance_check/phoneconformancecheck/capture/PropertyEqualsPinLaw", name := "same", desc := "(ICCICC)Z" } : Jvm.MethodName)).before a0 Z = true := hw _ (List.mem_of_getElem? (i := 54) rfl)
theorem w55 {Z : State} {a0 : Array Value} (hw : oHw Z a0) : (Jvm.Cond.code ({ cls := "com/example/phone_conformance_check/phoneconformancecheck/capture/PropertyEqualsPinLaw", name := "same", desc := "(ICCICC)Z" } : Jvm.MethodName) method_7_code (6 : Nat) (Option.some Jvm.ClassFile.FieldType.boolean)).before a0 Z = true := hw _ (List.mem_of_getElem? (i := 55) rfl)
theorem w56 {Z : State} {a0 : Array Value} (hw : oHw Z a0) : (Jvm.Cond.methodLink "com/example/phone_conformance_check/phoneconformancecheck/capture/PropertyEqualsPinLaw" (29 : Nat) ({ cls := "com/example/phone_conformance_check/phoneconformancecheck/capture/Property", name := "equals", desc := "(Ljava/lang/Object;)Z" } : Jvm.MethodName)).before a0 Z = true := hw _ (List.mem_of_getElem? (i := 56) rfl)
theorem w57 {Z : State} {a0 : Array Value} (hw : oHw Z a0) : (Jvm.Cond.declares ({ cls := "com/example/phone_conformance_check/phoneconformancecheck/capture/Property", name := "equals", desc := "(Ljava/lang/Object;)Z" } : Jvm.MethodName)).before a0 Z = true := hw _ (List.mem_of_getElem? (i := 57) rfl)
theorem w58 {Z : State} {a0 : Array Value} (hw : oHw Z a0) : (Jvm.Cond.instanceMethod ({ cls := "com/example/phone_conformance_check/phoneconformancecheck/capture/Property", name := "equals", desc := "(Ljava/lang/Object;)Z" } : Jvm.MethodName)).before a0 Z = true := hw _ (List.mem_of_getElem? (i := 58) rfl)
theorem w59 {Z : State} {a0 : Array Value} (hw : oHw Z a0) : (Jvm.Cond.selects "com/example/phone_conformance_check/phoneconformancecheck/capture/Property" ({ cls := "com/example/phone_conformance_check/phoneconformancecheck/capture/Property", name := "equals", desc := "(Ljava/lang/Object;)Z" } : Jvm.MethodName) ({ cls := "com/example/phone_conformance_check/phoneconformancecheck/capture/Property", name := "equals", desc := "(Ljava/lang/Object;)Z" } : Jvm.MethodName)).before a0 Z = true := hw _ (List.mem_of_getElem? (i := 59) rfl)
theorem w60 {Z : State} {a0 : Array Value} (hw : oHw Z a0) : (Jvm.Cond.code ({ cls := "com/example/phone_conformance_check/phoneconformancecheck/capture/Property", name := "equals", desc := "(Ljava/lang/Object;)Z" } : Jvm.MethodName) prog_16_method_7_code (3 : Nat) (Option.some Jvm.ClassFile.FieldType.boolean)).before a0 Z = true := hw _ (List.mem_of_getElem? (i := 60) rfl)
theorem w61 {Z : State} {a0 : Array Value} (hw : oHw Z a0) : (Jvm.Cond.classLink "com/example/phone_conformance_check/phoneconformancecheck/capture/Property" (18 : Nat) "com/example/phone_conformance_check/phoneconformancecheck/capture/Property").before a0 Z = true := hw _ (List.mem_of_getElem? (i := 61) rfl)
theorem w63 {Z : State} {a0 : Array Value} (hw : oHw Z a0) : (Jvm.Cond.methodLink "com/example/phone_conformance_check/phoneconformancecheck/capture/Property" (54 : Nat) ({ cls := "java/lang/String", name := "equals", desc := "(Ljava/lang/Object;)Z" } : Jvm.MethodName)).before a0 Z = true := hw _ (List.mem_of_getElem? (i := 63) rfl)
theorem w64 {Z : State} {a0 : Array Value} (hw : oHw Z a0) : (Jvm.Cond.declares ({ cls := "java/lang/String", name := "equals", desc := "(Ljava/lang/Object;)Z" } : Jvm.MethodName)).before a0 Z = true := hw _ (List.mem_of_getElem? (i := 64) rfl)
theorem w65 {Z : State} {a0 : Array Value} (hw : oHw Z a0) : (Jvm.Cond.instanceMethod ({ cls := "java/lang/String", name := "equals", desc := "(Ljava/lang/Object;)Z" } : Jvm.MethodName)).before a0 Z = true := hw _ (List.mem_of_getElem? (i := 65) rfl)
theorem w66 {Z : State} {a0 : Array Value} (hw : oHw Z a0) : (Jvm.Cond.selects "java/lang/String" ({ cls := "java/lang/String", name := "equals", desc := "(Ljava/lang/Object;)Z" } : Jvm.MethodName) ({ cls := "java/lang/String", name := "equals", desc := "(Ljava/lang/Object;)Z" } : Jvm.MethodName)).before a0 Z = true := hw _ (List.mem_of_getElem? (i := 66) rfl)
theorem w67 {Z : State} {a0 : Array Value} (hw : oHw Z a0) : (Jvm.Cond.code ({ cls := "java/lang/String", name := "equals", desc := "(Ljava/lang/Object;)Z" } : Jvm.MethodName) jdk_42_method_66_code (3 : Nat) (Option.some Jvm.ClassFile.FieldType.boolean)).before a0 Z = true := hw _ (List.mem_of_getElem? (i := 67) rfl)
theorem w68 {Z : State} {a0 : Array Value} (hw : oHw Z a0) : (Jvm.Cond.classLink "java/lang/String" (10 : Nat) "java/lang/String").before a0 Z = true := hw _ (List.mem_of_getElem? (i := 68) rfl)
theorem w69 {Z : State} {a0 : Array Value} (hw : oHw Z a0) : (Jvm.Cond.fieldLink "java/lang/String" (38 : Nat) "java/lang/String" "COMPACT_STRINGS" "Z").before a0 Z = true := hw _ (List.mem_of_getElem? (i := 69) rfl)
theorem w70 {Z : State} {a0 : Array Value} (hw : oHw Z a0) : (Jvm.Cond.methodLink "java/lang/String" (541 : Nat) ({ cls := "java/lang/StringLatin1", name := "equals", desc := "([B[B)Z" } : Jvm.MethodName)).before a0 Z = true := hw _ (List.mem_of_getElem? (i := 70) rfl)
theorem w71 {Z : State} {a0 : Array Value} (hw : oHw Z a0) : (Jvm.Cond.static ({ cls := "java/lang/StringLatin1", name := "equals", desc := "([B[B)Z" } : Jvm.MethodName)).before a0 Z = true := hw _ (List.mem_of_getElem? (i := 71) rfl)
theorem w72 {Z : State} {a0 : Array Value} (hw : oHw Z a0) : (Jvm.Cond.initialized "java/lang/StringLatin1").before a0 Z = true := hw _ (List.mem_of_getElem? (i := 72) rfl)
theorem w73 {Z : State} {a0 : Array Value} (hw : oHw Z a0) : (Jvm.Cond.code ({ cls := "java/lang/StringLatin1", name := "equals", desc := "([B[B)Z" } : Jvm.MethodName) jdk_43_method_13_code (3 : Nat) (Option.some Jvm.ClassFile.FieldType.boolean)).before a0 Z = true := hw _ (List.mem_of_getElem? (i := 73) rfl)
theorem w74 {Z : State} {a0 : Array Value} (hw : oHw Z a0) : (Jvm.Cond.methodLink "java/lang/String" (177 : Nat) ({ cls := "java/lang/StringUTF16", name := "compress", desc := "([CII)[B" } : Jvm.MethodName)).before a0 Z = true := hw _ (List.mem_of_getElem? (i := 74) rfl)
theorem w75 {Z : State} {a0 : Array Value} (hw : oHw Z a0) : (Jvm.Cond.static ({ cls := "java/lang/StringUTF16", name := "compress", desc := "([CII)[B" } : Jvm.MethodName)).before a0 Z = true := hw _ (List.mem_of_getElem? (i := 75) rfl)
theorem w76 {Z : State} {a0 : Array Value} (hw : oHw Z a0) : (Jvm.Cond.initialized "java/lang/StringUTF16").before a0 Z = true := hw _ (List.mem_of_getElem? (i := 76) rfl)
theorem w77 {Z : State} {a0 : Array Value} (hw : oHw Z a0) : (Jvm.Cond.code ({ cls := "java/lang/StringUTF16", name := "compress", desc := "([CII)[B" } : Jvm.MethodName) jdk_52_method_16_code (6 : Nat) (Option.some (Jvm.ClassFile.FieldType.array Jvm.ClassFile.FieldType.byte))).before a0 Z = true := hw _ (List.mem_of_getElem? (i := 77) rfl)
theorem w78 {Z : State} {a0 : Array Value} (hw : oHw Z a0) : (Jvm.Cond.methodLink "java/lang/StringUTF16" (115 : Nat) ({ cls := "java/lang/StringUTF16", name := "compress", desc := "([CI[BII)I" } : Jvm.MethodName)).before a0 Z = true := hw _ (List.mem_of_getElem? (i := 78) rfl)
theorem w79 {Z : State} {a0 : Array Value} (hw : oHw Z a0) : (Jvm.Cond.static ({ cls := "java/lang/StringUTF16", name := "compress", desc := "([CI[BII)I" } : Jvm.MethodName)).before a0 Z = true := hw _ (List.mem_of_getElem? (i := 79) rfl)
theorem w80 {Z : State} {a0 : Array Value} (hw : oHw Z a0) : (Jvm.Cond.code ({ cls := "java/lang/StringUTF16", name := "compress", desc := "([CI[BII)I" } : Jvm.MethodName) jdk_52_method_21_code (7 : Nat) (Option.some Jvm.ClassFile.FieldType.int)).before a0 Z = true := hw _ (List.mem_of_getElem? (i := 80) rfl)
theorem w81 {Z : State} {a0 : Array Value} (hw : oHw Z a0) : (Jvm.Cond.methodLink "java/lang/String" (47 : Nat) ({ cls := "java/lang/StringUTF16", name := "coderFromArrayLen", desc := "([BI)B" } : Jvm.MethodName)).before a0 Z = true := hw _ (List.mem_of_getElem? (i := 81) rfl)
theorem w82 {Z : State} {a0 : Array Value} (hw : oHw Z a0) : (Jvm.Cond.static ({ cls := "java/lang/StringUTF16", name := "coderFromArrayLen", desc := "([BI)B" } : Jvm.MethodName)).before a0 Z = true := hw _ (List.mem_of_getElem? (i := 82) rfl)
theorem w83 {Z : State} {a0 : Array Value} (hw : oHw Z a0) : (Jvm.Cond.code ({ cls := "java/lang/StringUTF16", name := "coderFromArrayLen", desc := "([BI)B" } : Jvm.MethodName) jdk_52_method_15_code (2 : Nat) (Option.some Jvm.ClassFile.FieldType.byte)).before a0 Z = true := hw _ (List.mem_of_getElem? (i := 83) rfl)
theorem w84 {Z : State} {a0 : Array Value} (hw : oHw Z a0) : (Jvm.Cond.methodLink "com/example/phone_conformance_check/phoneconformancecheck/capture/PropertyEqualsPinLaw" (33 : Nat) ({ cls := "java/lang/Integer", name := "valueOf", desc := "(I)Ljava/lang/Integer;" } : Jvm.MethodName)).before a0 Z = true := hw _ (List.mem_of_getElem? (i := 84) rfl)
theorem w85 {Z : State} {a0 : Array Value} (hw : oHw Z a0) : (Jvm.Cond.static ({ cls := "java/lang/Integer", name := "valueOf", desc := "(I)Ljava/lang/Integer;" } : Jvm.MethodName)).before a0 Z = true := hw _ (List.mem_of_getElem? (i := 85) rfl)
theorem w86 {Z : State} {a0 : Array Value} (hw : oHw Z a0) : (Jvm.Cond.initialized "java/lang/Integer").before a0 Z = true := hw _ (List.mem_of_getElem? (i := 86) rfl)
theorem w87 {Z : State} {a0 : Array Value} (hw : oHw Z a0) : (Jvm.Cond.code ({ cls := "java/lang/Integer", name := "valueOf", desc := "(I)Ljava/lang/Integer;" } : Jvm.MethodName) jdk_33_method_22_code (1 : Nat) (Option.some (Jvm.ClassFile.FieldType.object "java/lang/Integer"))).before a0 Z = true := hw _ (List.mem_of_getElem? (i := 87) rfl)
theorem w88 {Z : State} {a0 : Array Value} (hw : oHw Z a0) : (Jvm.Cond.fieldLink "java/lang/Integer" (191 : Nat) "java/lang/Integer$IntegerCache" "high" "I").before a0 Z = true := hw _ (List.mem_of_getElem? (i := 88) rfl)
theorem w89 {Z : State} {a0 : Array Value} (hw : oHw Z a0) : (Jvm.Cond.initialized "java/lang/Integer$IntegerCache").before a0 Z = true := hw _ (List.mem_of_getElem? (i := 89) rfl)
theorem w90 {Z : State} {a0 : Array Value} (hw : oHw Z a0) : (Jvm.Cond.fieldLink "java/lang/Integer" (195 : Nat) "java/lang/Integer$IntegerCache" "cache" "[Ljava/lang/Integer;").before a0 Z = true := hw _ (List.mem_of_getElem? (i := 90) rfl)
theorem w91 {Z : State} {a0 : Array Value} (hw : oHw Z a0) : (Jvm.Cond.superclass "java/lang/Integer" "java/lang/Number").before a0 Z = true := hw _ (List.mem_of_getElem? (i := 91) rfl)
theorem w92 {Z : State} {a0 : Array Value} (hw : oHw Z a0) : (Jvm.Cond.superclass "java/lang/Number" "java/lang/Object").before a0 Z = true := hw _ (List.mem_of_getElem? (i := 92) rfl)
theorem w93 {Z : State} {a0 : Array Value} (hw : oHw Z a0) : (Jvm.Cond.noSuperclass "java/lang/Object").before a0 Z = true := hw _ (List.mem_of_getElem? (i := 93) rfl)
theorem w94 {Z : State} {a0 : Array Value} (hw : oHw Z a0) : (Jvm.Cond.superclass "java/lang/String" "java/lang/Object").before a0 Z = true := hw _ (List.mem_of_getElem? (i := 94) rfl)
theorem w95 {Z : State} {a0 : Array Value} (hw : oHw Z a0) : (Jvm.Cond.classLink "java/lang/Integer" (1 : Nat) "java/lang/Integer").before a0 Z = true := hw _ (List.mem_of_getElem? (i := 95) rfl)
theorem w96 {Z : State} {a0 : Array Value} (hw : oHw Z a0) : (Jvm.Cond.instantiable "java/lang/Integer" (1 : Nat)).before a0 Z = true := hw _ (List.mem_of_getElem? (i := 96) rfl)
theorem w97 {Z : State} {a0 : Array Value} (hw : oHw Z a0) : (Jvm.Cond.methodLink "java/lang/Integer" (199 : Nat) ({ cls := "java/lang/Integer", name := "<init>", desc := "(I)V" } : Jvm.MethodName)).before a0 Z = true := hw _ (List.mem_of_getElem? (i := 97) rfl)
theorem w98 {Z : State} {a0 : Array Value} (hw : oHw Z a0) : (Jvm.Cond.instanceMethod ({ cls := "java/lang/Integer", name := "<init>", desc := "(I)V" } : Jvm.MethodName)).before a0 Z = true := hw _ (List.mem_of_getElem? (i := 98) rfl)
theorem w100 {Z : State} {a0 : Array Value} (hw : oHw Z a0) : (Jvm.Cond.code ({ cls := "java/lang/Integer", name := "<init>", desc := "(I)V" } : Jvm.MethodName) jdk_33_method_23_code (2 : Nat) (Option.none : Option Jvm.ClassFile.FieldType)).before a0 Z = true := hw _ (List.mem_of_getElem? (i := 100) rfl)
theorem w101 {Z : State} {a0 : Array Value} (hw : oHw Z a0) : (Jvm.Cond.methodLink "java/lang/Integer" (202 : Nat) ({ cls := "java/lang/Number", name := "<init>", desc := "()V" } : Jvm.MethodName)).before a0 Z = true := hw _ (List.mem_of_getElem? (i := 101) rfl)
theorem w102 {Z : State} {a0 : Array Value} (hw : oHw Z a0) : (Jvm.Cond.instanceMethod ({ cls := "java/lang/Number", name := "<init>", desc := "()V" } : Jvm.MethodName)).before a0 Z = true := hw _ (List.mem_of_getElem? (i := 102) rfl)
theorem w105 {Z : State} {a0 : Array Value} (hw : oHw Z a0) : (Jvm.Cond.initialized "java/lang/Number").before a0 Z = true := hw _ (List.mem_of_getElem? (i := 105) rfl)
theorem w106 {Z : State} {a0 : Array Value} (hw : oHw Z a0) : (Jvm.Cond.code ({ cls := "java/lang/Number", name := "<init>", desc := "()V" } : Jvm.MethodName) jdk_18_method_1_code (1 : Nat) (Option.none : Option Jvm.ClassFile.FieldType)).before a0 Z = true := hw _ (List.mem_of_getElem? (i := 106) rfl)
theorem w107 {Z : State} {a0 : Array Value} (hw : oHw Z a0) : (Jvm.Cond.methodLink "java/lang/Number" (1 : Nat) ({ cls := "java/lang/Object", name := "<init>", desc := "()V" } : Jvm.MethodName)).before a0 Z = true := hw _ (List.mem_of_getElem? (i := 107) rfl)
theorem w108 {Z : State} {a0 : Array Value} (hw : oHw Z a0) : (Jvm.Cond.fieldLink "java/lang/Integer" (205 : Nat) "java/lang/Integer" "value" "I").before a0 Z = true := hw _ (List.mem_of_getElem? (i := 108) rfl)
theorem w109 {Z : State} {a0 : Array Value} (hw : oHw Z a0) : (Jvm.Cond.laysFinal "java/lang/Integer" "java/lang/Integer" "value" "I").before a0 Z = true := hw _ (List.mem_of_getElem? (i := 109) rfl)
theorem oSA {Z : State} {a0 : Array Value} (hw : oHw Z a0) : ∀ a ∈ Bundle.stringAtoms, a.before a0 Z = true := by
  intro a ha
  simp only [Bundle.stringAtoms, List.mem_cons, List.not_mem_nil, or_false] at ha
  rcases ha with rfl | rfl | rfl | rfl | rfl | rfl | rfl
  · exact w18 hw
  · exact w17 hw
  · exact w31 hw
  · exact w32 hw
  · exact w33 hw
  · exact w34 hw
  · exact w35 hw
theorem oEW {Z : State} {a0 : Array Value} (hw : oHw Z a0) : EW Z a0 oEL := EW.cons (w30 hw) (by decide) <| EW.nil
theorem d_len_0 : decode method_3_code 0 = .ok (.iload_n 0, 1) := by decide +kernel
theorem d_len_1 : decode method_3_code 1 = .ok (.bipush 16, 2) := by decide +kernel
theorem d_len_3 : decode method_3_code 3 = .ok (.iushr, 1) := by decide +kernel
theorem d_len_4 : decode method_3_code 4 = .ok (.iconst 3, 1) := by decide +kernel
theorem d_len_5 : decode method_3_code 5 = .ok (.iand, 1) := by decide +kernel
theorem d_len_6 : decode method_3_code 6 = .ok (.iconst 3, 1) := by decide +kernel
theorem d_len_7 : decode method_3_code 7 = .ok (.irem, 1) := by decide +kernel
theorem d_len_8 : decode method_3_code 8 = .ok (.ireturn, 1) := by decide +kernel
def r_len : Room := { frames := 0, cells := 0, slots := 0, locals := 0 }
def Q_len (Z : State) (x : Int32) (h0 : Heap) (v : Option Value) (h : Heap) : Prop := v = some (.int (oLen x)) ∧ h0 = h
set_option maxRecDepth 65536 in
set_option maxHeartbeats 40000000 in
theorem rm_len (l : Launch) (Z : State) (a0 : Array Value) (hw : oHw Z a0) (x : Int32) (h0 : Heap) : oMet l Z (⟨"com/example/phone_conformance_check/phoneconformancecheck/capture/PropertyEqualsPinLaw", "len", "(I)I"⟩ : MethodName) method_3_code 1 (some .int) r_len [] #[(.int x)] h0 (Q_len Z x h0) [] false := by
  refine oEnter (oEW hw) (plainFor_of_name (by first | (simp [plainName, overriddenIn]; done) | decide +kernel)) (own := "com/example/phone_conformance_check/phoneconformancecheck/capture/PropertyEqualsPinLaw") (nm := "len") rfl rfl (L := #[.val (.int x)]) (fun m => by first | (simp [entryFrame, mkF, argsToLocals, Value.category]; done) | rfl) ?_
  intro pp ee ss mm bb mtd cc T0 K X0
  have E0 := X0.ext0
  refine o_iloadN K X0 d_len_0 (pc' := 1) rfl rfl ?_
  refine o_bipush K X0 d_len_1 (pc' := 3) rfl (z := (16 : Int32)) rfl ?_
  refine o_iushr K X0 d_len_3 (pc' := 4) rfl (z := ((x.toUInt32 >>> ((16 : Int32) &&& 31).toUInt32).toInt32)) rfl ?_
  refine o_iconst K X0 d_len_4 (pc' := 5) rfl (z := (3 : Int32)) rfl ?_
  refine o_iand K X0 d_len_5 (pc' := 6) rfl (z := (((x.toUInt32 >>> ((16 : Int32) &&& 31).toUInt32).toInt32) &&& (3 : Int32))) rfl ?_
  refine o_iconst K X0 d_len_6 (pc' := 7) rfl (z := (3 : Int32)) rfl ?_
  refine o_irem K X0 d_len_7 (pc' := 8) rfl (by decide) (z := ((((x.toUInt32 >>> ((16 : Int32) &&& 31).toUInt32).toInt32) &&& (3 : Int32)) % (3 : Int32))) rfl ?_
  refine o_ireturn K X0 d_len_8 rfl ?_ (by decide) (by decide) (by decide)
  exact ⟨rfl, rfl⟩
theorem d_c0_0 : decode method_4_code 0 = .ok (.iload_n 0, 1) := by decide +kernel
theorem d_c0_1 : decode method_4_code 1 = .ok (.sipush 255, 3) := by decide +kernel
theorem d_c0_4 : decode method_4_code 4 = .ok (.iand, 1) := by decide +kernel
theorem d_c0_5 : decode method_4_code 5 = .ok (.i2c, 1) := by decide +kernel
theorem d_c0_6 : decode method_4_code 6 = .ok (.ireturn, 1) := by decide +kernel
def r_c0 : Room := { frames := 0, cells := 0, slots := 0, locals := 0 }
def Q_c0 (Z : State) (x : Int32) (h0 : Heap) (v : Option Value) (h : Heap) : Prop := v = some (.int (oC0 x)) ∧ h0 = h
set_option maxRecDepth 65536 in
set_option maxHeartbeats 40000000 in
theorem rm_c0 (l : Launch) (Z : State) (a0 : Array Value) (hw : oHw Z a0) (x : Int32) (h0 : Heap) : oMet l Z (⟨"com/example/phone_conformance_check/phoneconformancecheck/capture/PropertyEqualsPinLaw", "c0", "(I)C"⟩ : MethodName) method_4_code 1 (some .char) r_c0 [] #[(.int x)] h0 (Q_c0 Z x h0) [] false := by
  refine oEnter (oEW hw) (plainFor_of_name (by first | (simp [plainName, overriddenIn]; done) | decide +kernel)) (own := "com/example/phone_conformance_check/phoneconformancecheck/capture/PropertyEqualsPinLaw") (nm := "c0") rfl rfl (L := #[.val (.int x)]) (fun m => by first | (simp [entryFrame, mkF, argsToLocals, Value.category]; done) | rfl) ?_
  intro pp ee ss mm bb mtd cc T0 K X0
  have E0 := X0.ext0
  refine o_iloadN K X0 d_c0_0 (pc' := 1) rfl rfl ?_
  refine o_sipush K X0 d_c0_1 (pc' := 4) rfl (z := (255 : Int32)) rfl ?_
  refine o_iand K X0 d_c0_4 (pc' := 5) rfl (z := (x &&& (255 : Int32))) rfl ?_
  refine o_i2c K X0 d_c0_5 (pc' := 6) rfl (z := (x &&& (255 : Int32))) (oNarMask x (by decide)) ?_
  refine o_ireturnN K X0 .char d_c0_6 rfl (by simp) (z' := (x &&& (255 : Int32))) (oNarMask x (by decide)) ?_ (by decide) (by decide) (by decide)
  exact ⟨rfl, rfl⟩
theorem d_c1_0 : decode method_5_code 0 = .ok (.iload_n 0, 1) := by decide +kernel
theorem d_c1_1 : decode method_5_code 1 = .ok (.bipush 8, 2) := by decide +kernel
theorem d_c1_3 : decode method_5_code 3 = .ok (.iushr, 1) := by decide +kernel
theorem d_c1_4 : decode method_5_code 4 = .ok (.sipush 255, 3) := by decide +kernel
theorem d_c1_7 : decode method_5_code 7 = .ok (.iand, 1) := by decide +kernel
theorem d_c1_8 : decode method_5_code 8 = .ok (.i2c, 1) := by decide +kernel
theorem d_c1_9 : decode method_5_code 9 = .ok (.ireturn, 1) := by decide +kernel
def r_c1 : Room := { frames := 0, cells := 0, slots := 0, locals := 0 }
def Q_c1 (Z : State) (x : Int32) (h0 : Heap) (v : Option Value) (h : Heap) : Prop := v = some (.int (oC1 x)) ∧ h0 = h
set_option maxRecDepth 65536 in
set_option maxHeartbeats 40000000 in
theorem rm_c1 (l : Launch) (Z : State) (a0 : Array Value) (hw : oHw Z a0) (x : Int32) (h0 : Heap) : oMet l Z (⟨"com/example/phone_conformance_check/phoneconformancecheck/capture/PropertyEqualsPinLaw", "c1", "(I)C"⟩ : MethodName) method_5_code 1 (some .char) r_c1 [] #[(.int x)] h0 (Q_c1 Z x h0) [] false := by
  refine oEnter (oEW hw) (plainFor_of_name (by first | (simp [plainName, overriddenIn]; done) | decide +kernel)) (own := "com/example/phone_conformance_check/phoneconformancecheck/capture/PropertyEqualsPinLaw") (nm := "c1") rfl rfl (L := #[.val (.int x)]) (fun m => by first | (simp [entryFrame, mkF, argsToLocals, Value.category]; done) | rfl) ?_
  intro pp ee ss mm bb mtd cc T0 K X0
  have E0 := X0.ext0
  refine o_iloadN K X0 d_c1_0 (pc' := 1) rfl rfl ?_
  refine o_bipush K X0 d_c1_1 (pc' := 3) rfl (z := (8 : Int32)) rfl ?_
  refine o_iushr K X0 d_c1_3 (pc' := 4) rfl (z := ((x.toUInt32 >>> ((8 : Int32) &&& 31).toUInt32).toInt32)) rfl ?_
  refine o_sipush K X0 d_c1_4 (pc' := 7) rfl (z := (255 : Int32)) rfl ?_
  refine o_iand K X0 d_c1_7 (pc' := 8) rfl (z := (((x.toUInt32 >>> ((8 : Int32) &&& 31).toUInt32).toInt32) &&& (255 : Int32))) rfl ?_
  refine o_i2c K X0 d_c1_8 (pc' := 9) rfl (z := (((x.toUInt32 >>> ((8 : Int32) &&& 31).toUInt32).toInt32) &&& (255 : Int32))) (oNarMask ((x.toUInt32 >>> ((8 : Int32) &&& 31).toUInt32).toInt32) (by decide)) ?_
  refine o_ireturnN K X0 .char d_c1_9 rfl (by simp) (z' := (((x.toUInt32 >>> ((8 : Int32) &&& 31).toUInt32).toInt32) &&& (255 : Int32))) (oNarMask ((x.toUInt32 >>> ((8 : Int32) &&& 31).toUInt32).toInt32) (by decide)) ?_ (by decide) (by decide) (by decide)
  exact ⟨rfl, rfl⟩
theorem d_str4_0_0 : decode jdk_42_method_149_code 0 = .ok (.aload_n 0, 1) := by decide +kernel
theorem d_str4_0_1 : decode jdk_42_method_149_code 1 = .ok (.invokespecial 1, 3) := by decide +kernel
theorem d_str4_0_4 : decode jdk_42_method_149_code 4 = .ok (.iload_n 3, 1) := by decide +kernel
theorem d_str4_0_5 : decode jdk_42_method_149_code 5 = .ok (.ifCond .ne 22, 3) := by decide +kernel
theorem d_str4_0_8 : decode jdk_42_method_149_code 8 = .ok (.aload_n 0, 1) := by decide +kernel
theorem d_str4_0_9 : decode jdk_42_method_149_code 9 = .ok (.ldc 7, 2) := by decide +kernel
theorem d_str4_0_11 : decode jdk_42_method_149_code 11 = .ok (.getfield 9, 3) := by decide +kernel
theorem d_str4_0_14 : decode jdk_42_method_149_code 14 = .ok (.putfield 9, 3) := by decide +kernel
theorem d_str4_0_17 : decode jdk_42_method_149_code 17 = .ok (.aload_n 0, 1) := by decide +kernel
theorem d_str4_0_18 : decode jdk_42_method_149_code 18 = .ok (.ldc 7, 2) := by decide +kernel
theorem d_str4_0_20 : decode jdk_42_method_149_code 20 = .ok (.getfield 15, 3) := by decide +kernel
theorem d_str4_0_23 : decode jdk_42_method_149_code 23 = .ok (.putfield 15, 3) := by decide +kernel
theorem d_str4_0_26 : decode jdk_42_method_149_code 26 = .ok (.return_, 1) := by decide +kernel
def r_str4_0 : Room := { frames := 1, cells := 4, slots := 8, locals := 12 }
def Q_str4_0 (Z : State) (a : Addr) (b : Addr) (kb : ClassId) (h0 : Heap) (v : Option Value) (h : Heap) : Prop := ∃ vb : Addr, ∃ k : ClassId, v = none ∧ Keep h0 h [a] ∧ Exa Z h a "java/lang/String" ∧ Fld Z h a "java/lang/String" "value" "[B" (.ref vb) ∧ Fld Z h a "java/lang/String" "coder" "B" (.int (0 : Int32)) ∧ oArr Z h vb k .byte []
set_option maxRecDepth 65536 in
set_option maxHeartbeats 40000000 in
theorem rm_str4_0 (l : Launch) (Z : State) (a0 : Array Value) (hw : oHw Z a0) (a : Addr) (b : Addr) (kb : ClassId) (h0 : Heap) (q0 : Exa Z h0 a "java/lang/String") (q1 : Fld Z h0 a "java/lang/String" "value" "[B" .null) (q2 : Fld Z h0 a "java/lang/String" "coder" "B" (.int (0 : Int32))) (q3 : Z.heap.size ≤ a) (q4 : oArr Z h0 b kb .char []) : oMet l Z (⟨"java/lang/String", "<init>", "([CIILjava/lang/Void;)V"⟩ : MethodName) jdk_42_method_149_code 6 none r_str4_0 [] #[(.ref a), (.ref b), (.int (0 : Int32)), (.int (0 : Int32)), .null] h0 (Q_str4_0 Z a b kb h0) [a] true := by
  refine oEnter (oEW hw) (plainFor_of_name (by first | (simp [plainName, overriddenIn]; done) | decide +kernel)) (own := "java/lang/String") (nm := "<init>") rfl rfl (L := #[.val (.ref a), .val (.ref b), .val (.int (0 : Int32)), .val (.int (0 : Int32)), .val .null, .unset]) (fun m => by first | (simp [entryFrame, mkF, argsToLocals, Value.category]; done) | rfl) ?_
  intro pp ee ss mm bb mtd cc T0 K X0
  have E0 := X0.ext0
  refine o_aloadN K X0 d_str4_0_0 (pc' := 1) rfl rfl rfl ?_
  refine o_initObj K X0 (w27 hw) (w28 hw) (w29 hw) d_str4_0_1 (pc' := 4) rfl rfl (by decide) (W := 0) rfl (by decide) ?_
  intro T1 X1
  refine o_iloadN K X1 d_str4_0_4 (pc' := 5) rfl rfl ?_
  refine o_if_ne_f K X1 d_str4_0_5 (pc' := 8) rfl (by decide) ?_
  refine o_aloadN K X1 d_str4_0_8 (pc' := 9) rfl rfl rfl ?_
  refine o_ldcR K X1 0 [] (oEW hw) (w30 hw) (oSA hw) (List.mem_of_getElem? (i := 0) rfl) (by decide) (by decide) d_str4_0_9 (pc' := 11) rfl (by decide) (by decide) (by decide) (by decide) ?_
  intro T2 h2 a2 b2 k2 X2 E2 B2 C2 V2 A2 N2
  refine o_getfield K X2 (host := "") (Or.inl (w36 hw)) Via.refl V2 d_str4_0_11 (pc' := 14) rfl ?_
  intro T3 X3
  refine o_putfield K X3 (host := "") (Or.inl (w36 hw)) Via.refl (q1.ext E2) (q0.ext E2) (Or.inr ⟨(w32 hw), rfl, rfl⟩) (w17 hw) (ty := (.array .byte)) (by decide) rfl rfl q3 (List.mem_of_getElem? (i := 0) rfl) d_str4_0_14 (pc' := 17) rfl ?_
  intro T4 h4 X4 W4
  have F4 := Fld.same W4 (q1.ext E2)
  refine o_aloadN K X4 d_str4_0_17 (pc' := 18) rfl rfl rfl ?_
  refine o_ldcR K X4 0 [] (oEW hw) (w30 hw) (oSA hw) (List.mem_of_getElem? (i := 0) rfl) (by decide) (by decide) d_str4_0_18 (pc' := 20) rfl (by decide) (by decide) (by decide) (by decide) ?_
  intro T5 h5 a5 b5 k5 X5 E5 B5 C5 V5 A5 N5
  refine o_getfield K X5 (host := "") (Or.inl (w37 hw)) Via.refl C5 d_str4_0_20 (pc' := 23) rfl ?_
  intro T6 X6
  refine o_putfieldN K X6 (w37 hw) Via.refl ((Fld.other W4 (q2.ext E2) (Or.inr (slot_ne (Or.inr (w33 hw)) (Or.inr (w32 hw)) (by decide) (t := .byte) (t' := (.array .byte)) (by decide) (by decide)))).ext E5) ((Exa.wr W4 (q0.ext E2)).ext E5) (Or.inr ⟨(w33 hw), rfl, rfl⟩) (w17 hw) (ty := .byte) (by decide) (v' := (.int (0 : Int32))) (congrArg Value.int (by decide)) (oFitbyte (x := (0 : Int32)) (by decide)) q3 (List.mem_of_getElem? (i := 0) rfl) d_str4_0_23 (pc' := 26) rfl ?_
  intro T7 h7 X7 W7
  have F7 := Fld.same W7 ((Fld.other W4 (q2.ext E2) (Or.inr (slot_ne (Or.inr (w33 hw)) (Or.inr (w32 hw)) (by decide) (t := .byte) (t' := (.array .byte)) (by decide) (by decide)))).ext E5)
  refine o_return K X7 d_str4_0_26 rfl ?_ (by decide) (by decide) (by decide)
  exact ⟨b2, k2, rfl, (((((Keep.refl h0 [a]).ext E2).wr W4 (Or.inl (List.mem_of_getElem? (i := 0) rfl))).ext E5).wr W7 (Or.inl (List.mem_of_getElem? (i := 0) rfl))), (Exa.wr W7 ((Exa.wr W4 (q0.ext E2)).ext E5)), (Fld.other W7 (F4.ext E5) (Or.inr (slot_ne (Or.inr (w32 hw)) (Or.inr (w33 hw)) (by decide) (t := (.array .byte)) (t' := .byte) (by decide) (by decide)))), F7, (((A2.other W4 (Ne.symm (N2 _ (List.mem_of_getElem? (i := 0) rfl)).2)).ext E5).other W7 (Ne.symm (N2 _ (List.mem_of_getElem? (i := 0) rfl)).2))⟩
theorem d_str_0_0 : decode jdk_42_method_3_code 0 = .ok (.aload_n 0, 1) := by decide +kernel
theorem d_str_0_1 : decode jdk_42_method_3_code 1 = .ok (.aload_n 1, 1) := by decide +kernel
theorem d_str_0_2 : decode jdk_42_method_3_code 2 = .ok (.iconst 0, 1) := by decide +kernel
theorem d_str_0_3 : decode jdk_42_method_3_code 3 = .ok (.aload_n 1, 1) := by decide +kernel
theorem d_str_0_4 : decode jdk_42_method_3_code 4 = .ok (.arraylength, 1) := by decide +kernel
theorem d_str_0_5 : decode jdk_42_method_3_code 5 = .ok (.aconst_null, 1) := by decide +kernel
theorem d_str_0_6 : decode jdk_42_method_3_code 6 = .ok (.invokespecial 27, 3) := by decide +kernel
theorem d_str_0_9 : decode jdk_42_method_3_code 9 = .ok (.return_, 1) := by decide +kernel
theorem pd_str_0_0 : parseMethodDescriptor "([CIILjava/lang/Void;)V" = some ⟨[(.array .char), .int, .int, (.object "java/lang/Void")], none⟩ := by decide +kernel
def r_str_0 : Room := { frames := 2, cells := 4, slots := 8, locals := 29 }
def Q_str_0 (Z : State) (a : Addr) (b : Addr) (kb : ClassId) (h0 : Heap) (v : Option Value) (h : Heap) : Prop := ∃ vb : Addr, ∃ k : ClassId, v = none ∧ Keep h0 h [a] ∧ Exa Z h a "java/lang/String" ∧ Fld Z h a "java/lang/String" "value" "[B" (.ref vb) ∧ Fld Z h a "java/lang/String" "coder" "B" (.int (0 : Int32)) ∧ oArr Z h vb k .byte []
set_option maxRecDepth 65536 in
set_option maxHeartbeats 40000000 in
theorem rm_str_0 (l : Launch) (Z : State) (a0 : Array Value) (hw : oHw Z a0) (a : Addr) (b : Addr) (kb : ClassId) (h0 : Heap) (q0 : Exa Z h0 a "java/lang/String") (q1 : Fld Z h0 a "java/lang/String" "value" "[B" .null) (q2 : Fld Z h0 a "java/lang/String" "coder" "B" (.int (0 : Int32))) (q3 : Z.heap.size ≤ a) (q4 : oArr Z h0 b kb .char []) : oMet l Z (⟨"java/lang/String", "<init>", "([C)V"⟩ : MethodName) jdk_42_method_3_code 2 none r_str_0 [] #[(.ref a), (.ref b)] h0 (Q_str_0 Z a b kb h0) [a] true := by
  refine oEnter (oEW hw) (plainFor_of_name (by first | (simp [plainName, overriddenIn]; done) | decide +kernel)) (own := "java/lang/String") (nm := "<init>") rfl rfl (L := #[.val (.ref a), .val (.ref b)]) (fun m => by first | (simp [entryFrame, mkF, argsToLocals, Value.category]; done) | rfl) ?_
  intro pp ee ss mm bb mtd cc T0 K X0
  have E0 := X0.ext0
  refine o_aloadN K X0 d_str_0_0 (pc' := 1) rfl rfl rfl ?_
  refine o_aloadN K X0 d_str_0_1 (pc' := 2) rfl rfl rfl ?_
  refine o_iconst K X0 d_str_0_2 (pc' := 3) rfl (z := (0 : Int32)) rfl ?_
  refine o_aloadN K X0 d_str_0_3 (pc' := 4) rfl rfl rfl ?_
  refine o_arraylength K X0 q4 (z := (0 : Int32)) rfl d_str_0_4 (pc' := 5) rfl ?_
  refine o_aconst_null K X0 d_str_0_5 (pc' := 6) rfl ?_
  refine o_special K X0 (y := (⟨"java/lang/String", "<init>", "([CIILjava/lang/Void;)V"⟩ : MethodName)) rfl (w23 hw) (w24 hw) (w18 hw) (w26 hw) (by decide) (rm_str4_0 l Z a0 hw a b kb h0 q0 q1 q2 q3 q4) (allS (List.mem_of_getElem? (i := 0) rfl) all0) (by decide) rfl (argsL := [(.ref b), (.int (0 : Int32)), (.int (0 : Int32)), .null]) rfl (lenOf pd_str_0_0 rfl) (W := 0) rfl (by decide) (by decide) (by decide) d_str_0_6 (pc' := 9) rfl ?_
  intro v1 T1 h1 FX1 U1
  obtain ⟨vb_1, k_1, rfl, u1_0, u1_1, u1_2, u1_3, u1_4⟩ := U1
  have X1 := FX1 [] (Or.inr rfl) all0
  show oGoes pp ee bb ss Z T1 (mkF mm 9 #[.val (.ref a), .val (.ref b)] []) _ _ _ _
  refine o_return K X1 d_str_0_9 rfl ?_ (by decide) (by decide) (by decide)
  exact ⟨vb_1, k_1, rfl, ((Keep.refl h0 [a]).trans u1_0 (allS (Or.inl (List.mem_of_getElem? (i := 0) rfl)) all0)), u1_1, u1_2, u1_3, u1_4⟩
theorem d_cmp5_1_0 : decode jdk_52_method_21_code 0 = .ok (.iconst 0, 1) := by decide +kernel
theorem d_cmp5_1_1 : decode jdk_52_method_21_code 1 = .ok (.istore 5, 2) := by decide +kernel
theorem d_cmp5_1_3 : decode jdk_52_method_21_code 3 = .ok (.iload 5, 2) := by decide +kernel
theorem d_cmp5_1_5 : decode jdk_52_method_21_code 5 = .ok (.iload 4, 2) := by decide +kernel
theorem d_cmp5_1_7 : decode jdk_52_method_21_code 7 = .ok (.if_icmp .ge 37, 3) := by decide +kernel
theorem d_cmp5_1_10 : decode jdk_52_method_21_code 10 = .ok (.aload_n 0, 1) := by decide +kernel
theorem d_cmp5_1_11 : decode jdk_52_method_21_code 11 = .ok (.iload_n 1, 1) := by decide +kernel
theorem d_cmp5_1_12 : decode jdk_52_method_21_code 12 = .ok (.caload, 1) := by decide +kernel
theorem d_cmp5_1_13 : decode jdk_52_method_21_code 13 = .ok (.istore 6, 2) := by decide +kernel
theorem d_cmp5_1_15 : decode jdk_52_method_21_code 15 = .ok (.iload 6, 2) := by decide +kernel
theorem d_cmp5_1_17 : decode jdk_52_method_21_code 17 = .ok (.sipush 255, 3) := by decide +kernel
theorem d_cmp5_1_20 : decode jdk_52_method_21_code 20 = .ok (.if_icmp .le 6, 3) := by decide +kernel
theorem d_cmp5_1_26 : decode jdk_52_method_21_code 26 = .ok (.aload_n 2, 1) := by decide +kernel
theorem d_cmp5_1_27 : decode jdk_52_method_21_code 27 = .ok (.iload_n 3, 1) := by decide +kernel
theorem d_cmp5_1_28 : decode jdk_52_method_21_code 28 = .ok (.iload 6, 2) := by decide +kernel
theorem d_cmp5_1_30 : decode jdk_52_method_21_code 30 = .ok (.i2b, 1) := by decide +kernel
theorem d_cmp5_1_31 : decode jdk_52_method_21_code 31 = .ok (.bastore, 1) := by decide +kernel
theorem d_cmp5_1_32 : decode jdk_52_method_21_code 32 = .ok (.iinc 1 1, 3) := by decide +kernel
theorem d_cmp5_1_35 : decode jdk_52_method_21_code 35 = .ok (.iinc 3 1, 3) := by decide +kernel
theorem d_cmp5_1_38 : decode jdk_52_method_21_code 38 = .ok (.iinc 5 1, 3) := by decide +kernel
theorem d_cmp5_1_41 : decode jdk_52_method_21_code 41 = .ok (.goto (-38), 3) := by decide +kernel
theorem d_cmp5_1_44 : decode jdk_52_method_21_code 44 = .ok (.iload 4, 2) := by decide +kernel
theorem d_cmp5_1_46 : decode jdk_52_method_21_code 46 = .ok (.ireturn, 1) := by decide +kernel
def r_cmp5_1 : Room := { frames := 0, cells := 0, slots := 0, locals := 0 }
def Q_cmp5_1 (Z : State) (b : Addr) (kb : ClassId) (d : Addr) (kd : ClassId) (c0 : Int32) (h0 : Heap) (v : Option Value) (h : Heap) : Prop := v = some (.int (1 : Int32)) ∧ Keep h0 h [d] ∧ oArr Z h d kd .byte [(.int (nar .byte c0))]
set_option maxRecDepth 65536 in
set_option maxHeartbeats 40000000 in
theorem rm_cmp5_1 (l : Launch) (Z : State) (a0 : Array Value) (hw : oHw Z a0) (b : Addr) (kb : ClassId) (d : Addr) (kd : ClassId) (c0 : Int32) (h0 : Heap) (q0 : oArr Z h0 b kb .char [(.int c0)]) (q1 : oArr Z h0 d kd .byte [(.int (0 : Int32))]) (q2 : Z.heap.size ≤ d) (q3 : b ≠ d) (q4 : ¬ ((255 : Int32) < c0)) : oMet l Z (⟨"java/lang/StringUTF16", "compress", "([CI[BII)I"⟩ : MethodName) jdk_52_method_21_code 7 (some .int) r_cmp5_1 [] #[(.ref b), (.int (0 : Int32)), (.ref d), (.int (0 : Int32)), (.int (1 : Int32))] h0 (Q_cmp5_1 Z b kb d kd c0 h0) [d] false := by
  refine oEnter (oEW hw) (plainFor_of_name (by first | (simp [plainName, overriddenIn]; done) | decide +kernel)) (own := "java/lang/StringUTF16") (nm := "compress") rfl rfl (L := #[.val (.ref b), .val (.int (0 : Int32)), .val (.ref d), .val (.int (0 : Int32)), .val (.int (1 : Int32)), .unset, .unset]) (fun m => by first | (simp [entryFrame, mkF, argsToLocals, Value.category]; done) | rfl) ?_
  intro pp ee ss mm bb mtd cc T0 K X0
  have E0 := X0.ext0
  refine o_iconst K X0 d_cmp5_1_0 (pc' := 1) rfl (z := (0 : Int32)) rfl ?_
  refine o_istore K X0 d_cmp5_1_1 (pc' := 3) rfl (L' := #[.val (.ref b), .val (.int (0 : Int32)), .val (.ref d), .val (.int (0 : Int32)), .val (.int (1 : Int32)), .val (.int (0 : Int32)), .unset]) rfl ?_
  refine o_iload K X0 d_cmp5_1_3 (pc' := 5) rfl rfl ?_
  refine o_iload K X0 d_cmp5_1_5 (pc' := 7) rfl rfl ?_
  refine o_icmp_ge_f K X0 d_cmp5_1_7 (pc' := 10) rfl (by decide) ?_
  refine o_aloadN K X0 d_cmp5_1_10 (pc' := 11) rfl rfl rfl ?_
  refine o_iloadN K X0 d_cmp5_1_11 (pc' := 12) rfl rfl ?_
  refine o_caload K X0 q0 (by decide) (v := (.int c0)) rfl d_cmp5_1_12 (pc' := 13) rfl ?_
  refine o_istore K X0 d_cmp5_1_13 (pc' := 15) rfl (L' := #[.val (.ref b), .val (.int (0 : Int32)), .val (.ref d), .val (.int (0 : Int32)), .val (.int (1 : Int32)), .val (.int (0 : Int32)), .val (.int c0)]) rfl ?_
  refine o_iload K X0 d_cmp5_1_15 (pc' := 17) rfl rfl ?_
  refine o_sipush K X0 d_cmp5_1_17 (pc' := 20) rfl (z := (255 : Int32)) rfl ?_
  refine o_icmp_le_t K X0 d_cmp5_1_20 (by decide) (pc' := 26) (by decide) q4 ?_
  refine o_aloadN K X0 d_cmp5_1_26 (pc' := 27) rfl rfl rfl ?_
  refine o_iloadN K X0 d_cmp5_1_27 (pc' := 28) rfl rfl ?_
  refine o_iload K X0 d_cmp5_1_28 (pc' := 30) rfl rfl ?_
  refine o_i2b K X0 d_cmp5_1_30 (pc' := 31) rfl (z := (nar .byte c0)) rfl ?_
  refine o_bastore K X0 q1 (by decide) (show (0 : Int32).toNatClampNeg < 1 from (by decide)) q2 (List.mem_of_getElem? (i := 0) rfl) (z := (.int (nar .byte c0))) (congrArg Value.int (oNarIdembyte _)) d_cmp5_1_31 (pc' := 32) rfl ?_
  intro T1 h1 X1 W1 A1
  replace A1 : oArr Z h1 d kd .byte [(.int (nar .byte c0))] := A1
  refine o_iinc K X1 d_cmp5_1_32 (pc' := 35) rfl rfl (L' := #[.val (.ref b), .val (.int (1 : Int32)), .val (.ref d), .val (.int (0 : Int32)), .val (.int (1 : Int32)), .val (.int (0 : Int32)), .val (.int c0)]) (by rw [show (0 : Int32) + Int32.ofInt 1 = (1 : Int32) from (by decide)]; rfl) ?_
  refine o_iinc K X1 d_cmp5_1_35 (pc' := 38) rfl rfl (L' := #[.val (.ref b), .val (.int (1 : Int32)), .val (.ref d), .val (.int (1 : Int32)), .val (.int (1 : Int32)), .val (.int (0 : Int32)), .val (.int c0)]) (by rw [show (0 : Int32) + Int32.ofInt 1 = (1 : Int32) from (by decide)]; rfl) ?_
  refine o_iinc K X1 d_cmp5_1_38 (pc' := 41) rfl rfl (L' := #[.val (.ref b), .val (.int (1 : Int32)), .val (.ref d), .val (.int (1 : Int32)), .val (.int (1 : Int32)), .val (.int (1 : Int32)), .val (.int c0)]) (by rw [show (0 : Int32) + Int32.ofInt 1 = (1 : Int32) from (by decide)]; rfl) ?_
  refine o_goto K X1 d_cmp5_1_41 (by decide) (pc' := 3) (by decide) ?_
  refine o_iload K X1 d_cmp5_1_3 (pc' := 5) rfl rfl ?_
  refine o_iload K X1 d_cmp5_1_5 (pc' := 7) rfl rfl ?_
  refine o_icmp_ge_t K X1 d_cmp5_1_7 (by decide) (pc' := 44) (by decide) (by decide) ?_
  refine o_iload K X1 d_cmp5_1_44 (pc' := 46) rfl rfl ?_
  refine o_ireturn K X1 d_cmp5_1_46 rfl ?_ (by decide) (by decide) (by decide)
  exact ⟨rfl, ((Keep.refl h0 [d]).wr W1 (Or.inl (List.mem_of_getElem? (i := 0) rfl))), A1⟩
theorem d_cmp3_1_0 : decode jdk_52_method_16_code 0 = .ok (.iload_n 2, 1) := by decide +kernel
theorem d_cmp3_1_1 : decode jdk_52_method_16_code 1 = .ok (.newarray .byte, 2) := by decide +kernel
theorem d_cmp3_1_3 : decode jdk_52_method_16_code 3 = .ok (.astore_n 3, 1) := by decide +kernel
theorem d_cmp3_1_4 : decode jdk_52_method_16_code 4 = .ok (.aload_n 0, 1) := by decide +kernel
theorem d_cmp3_1_5 : decode jdk_52_method_16_code 5 = .ok (.iload_n 1, 1) := by decide +kernel
theorem d_cmp3_1_6 : decode jdk_52_method_16_code 6 = .ok (.aload_n 3, 1) := by decide +kernel
theorem d_cmp3_1_7 : decode jdk_52_method_16_code 7 = .ok (.iconst 0, 1) := by decide +kernel
theorem d_cmp3_1_8 : decode jdk_52_method_16_code 8 = .ok (.iload_n 2, 1) := by decide +kernel
theorem d_cmp3_1_9 : decode jdk_52_method_16_code 9 = .ok (.invokestatic 115, 3) := by decide +kernel
theorem d_cmp3_1_12 : decode jdk_52_method_16_code 12 = .ok (.istore 4, 2) := by decide +kernel
theorem d_cmp3_1_14 : decode jdk_52_method_16_code 14 = .ok (.iload 4, 2) := by decide +kernel
theorem d_cmp3_1_16 : decode jdk_52_method_16_code 16 = .ok (.iload_n 2, 1) := by decide +kernel
theorem d_cmp3_1_17 : decode jdk_52_method_16_code 17 = .ok (.if_icmp .eq 40, 3) := by decide +kernel
theorem d_cmp3_1_57 : decode jdk_52_method_16_code 57 = .ok (.aload_n 3, 1) := by decide +kernel
theorem d_cmp3_1_58 : decode jdk_52_method_16_code 58 = .ok (.areturn, 1) := by decide +kernel
theorem pd_cmp3_1_0 : parseMethodDescriptor "([CI[BII)I" = some ⟨[(.array .char), .int, (.array .byte), .int, .int], some .int⟩ := by decide +kernel
def r_cmp3_1 : Room := { frames := 1, cells := 1, slots := 1, locals := 18 }
def Q_cmp3_1 (Z : State) (b : Addr) (kb : ClassId) (c0 : Int32) (h0 : Heap) (v : Option Value) (h : Heap) : Prop := ∃ r : Addr, ∃ k : ClassId, v = some (.ref r) ∧ Keep h0 h [] ∧ h0.size ≤ r ∧ oArr Z h r k .byte [(.int (nar .byte c0))]
set_option maxRecDepth 65536 in
set_option maxHeartbeats 40000000 in
theorem rm_cmp3_1 (l : Launch) (Z : State) (a0 : Array Value) (hw : oHw Z a0) (b : Addr) (kb : ClassId) (c0 : Int32) (h0 : Heap) (q0 : oArr Z h0 b kb .char [(.int c0)]) (q1 : ¬ ((255 : Int32) < c0)) : oMet l Z (⟨"java/lang/StringUTF16", "compress", "([CII)[B"⟩ : MethodName) jdk_52_method_16_code 6 (some (.array .byte)) r_cmp3_1 [] #[(.ref b), (.int (0 : Int32)), (.int (1 : Int32))] h0 (Q_cmp3_1 Z b kb c0 h0) [] false := by
  refine oEnter (oEW hw) (plainFor_of_name (by first | (simp [plainName, overriddenIn]; done) | decide +kernel)) (own := "java/lang/StringUTF16") (nm := "compress") rfl rfl (L := #[.val (.ref b), .val (.int (0 : Int32)), .val (.int (1 : Int32)), .unset, .unset, .unset]) (fun m => by first | (simp [entryFrame, mkF, argsToLocals, Value.category]; done) | rfl) ?_
  intro pp ee ss mm bb mtd cc T0 K X0
  have E0 := X0.ext0
  refine o_iloadN K X0 d_cmp3_1_0 (pc' := 1) rfl rfl ?_
  refine o_newarray K X0 (aty := .byte) 1 (w31 hw) (ad := "[B") (by decide +kernel) (by decide) (by decide) (by decide) rfl d_cmp3_1_1 (pc' := 3) rfl (by decide) (by decide) ?_
  intro T1 h1 b1 k1 X1 g1 E1 A1 B1 G1
  replace A1 : oArr Z h1 b1 k1 .byte [(.int (0 : Int32))] := A1
  refine o_astoreN K X1 d_cmp3_1_3 (pc' := 4) rfl rfl (L' := #[.val (.ref b), .val (.int (0 : Int32)), .val (.int (1 : Int32)), .val (.ref b1), .unset, .unset]) rfl ?_
  refine o_aloadN K X1 d_cmp3_1_4 (pc' := 5) rfl rfl rfl ?_
  refine o_iloadN K X1 d_cmp3_1_5 (pc' := 6) rfl rfl ?_
  refine o_aloadN K X1 d_cmp3_1_6 (pc' := 7) rfl rfl rfl ?_
  refine o_iconst K X1 d_cmp3_1_7 (pc' := 8) rfl (z := (0 : Int32)) rfl ?_
  refine o_iloadN K X1 d_cmp3_1_8 (pc' := 9) rfl rfl ?_
  refine o_static K X1 (y := (⟨"java/lang/StringUTF16", "compress", "([CI[BII)I"⟩ : MethodName)) (w78 hw) (w79 hw) (w76 hw) (w80 hw) (by decide) (rm_cmp5_1 l Z a0 hw b kb b1 k1 c0 h1 (q0.ext E1) A1 G1 (Nat.ne_of_lt (Nat.lt_of_lt_of_le q0.lt (Nat.le_of_eq g1.symm))) q1) (allS (List.mem_of_getElem? (i := 0) rfl) all0) (by decide) rfl (argsL := [(.ref b), (.int (0 : Int32)), (.ref b1), (.int (0 : Int32)), (.int (1 : Int32))]) rfl (lenOf pd_cmp3_1_0 rfl) (W := 0) rfl (by decide) (by decide) (by decide) d_cmp3_1_9 (pc' := 12) rfl ?_
  intro v2 T2 h2 FX2 U2
  obtain ⟨rfl, u2_0, u2_1⟩ := U2
  have X2 := FX2 [] (Or.inl rfl) all0
  show oGoes pp ee bb ss Z T2 (mkF mm 12 #[.val (.ref b), .val (.int (0 : Int32)), .val (.int (1 : Int32)), .val (.ref b1), .unset, .unset] [(.int (1 : Int32))]) _ _ _ _
  refine o_istore K X2 d_cmp3_1_12 (pc' := 14) rfl (L' := #[.val (.ref b), .val (.int (0 : Int32)), .val (.int (1 : Int32)), .val (.ref b1), .val (.int (1 : Int32)), .unset]) rfl ?_
  refine o_iload K X2 d_cmp3_1_14 (pc' := 16) rfl rfl ?_
  refine o_iloadN K X2 d_cmp3_1_16 (pc' := 17) rfl rfl ?_
  refine o_icmp_eq_t K X2 d_cmp3_1_17 (by decide) (pc' := 57) (by decide) (by decide) ?_
  refine o_aloadN K X2 d_cmp3_1_57 (pc' := 58) rfl rfl rfl ?_
  refine o_areturn K X2 (t := (.array .byte)) d_cmp3_1_58 rfl rfl rfl ?_ (by decide) (by decide) (by decide)
  exact ⟨b1, k1, rfl, (((Keep.refl h0 []).ext E1).trans u2_0 (allS (Or.inr (Nat.le_of_eq g1.symm)) all0)), (Nat.le_of_eq g1.symm), u2_1⟩
theorem d_coder_1_0 : decode jdk_52_method_15_code 0 = .ok (.iload_n 1, 1) := by decide +kernel
theorem d_coder_1_1 : decode jdk_52_method_15_code 1 = .ok (.aload_n 0, 1) := by decide +kernel
theorem d_coder_1_2 : decode jdk_52_method_15_code 2 = .ok (.arraylength, 1) := by decide +kernel
theorem d_coder_1_3 : decode jdk_52_method_15_code 3 = .ok (.isub, 1) := by decide +kernel
theorem d_coder_1_4 : decode jdk_52_method_15_code 4 = .ok (.bipush 31, 2) := by decide +kernel
theorem d_coder_1_6 : decode jdk_52_method_15_code 6 = .ok (.iushr, 1) := by decide +kernel
theorem d_coder_1_7 : decode jdk_52_method_15_code 7 = .ok (.i2b, 1) := by decide +kernel
theorem d_coder_1_8 : decode jdk_52_method_15_code 8 = .ok (.ireturn, 1) := by decide +kernel
def r_coder_1 : Room := { frames := 0, cells := 0, slots := 0, locals := 0 }
def Q_coder_1 (Z : State) (b : Addr) (kb : ClassId) (c0 : Int32) (h0 : Heap) (v : Option Value) (h : Heap) : Prop := v = some (.int (0 : Int32)) ∧ h0 = h
set_option maxRecDepth 65536 in
set_option maxHeartbeats 40000000 in
theorem rm_coder_1 (l : Launch) (Z : State) (a0 : Array Value) (hw : oHw Z a0) (b : Addr) (kb : ClassId) (c0 : Int32) (h0 : Heap) (q0 : oArr Z h0 b kb .byte [(.int c0)]) : oMet l Z (⟨"java/lang/StringUTF16", "coderFromArrayLen", "([BI)B"⟩ : MethodName) jdk_52_method_15_code 2 (some .byte) r_coder_1 [] #[(.ref b), (.int (1 : Int32))] h0 (Q_coder_1 Z b kb c0 h0) [] false := by
  refine oEnter (oEW hw) (plainFor_of_name (by first | (simp [plainName, overriddenIn]; done) | decide +kernel)) (own := "java/lang/StringUTF16") (nm := "coderFromArrayLen") rfl rfl (L := #[.val (.ref b), .val (.int (1 : Int32))]) (fun m => by first | (simp [entryFrame, mkF, argsToLocals, Value.category]; done) | rfl) ?_
  intro pp ee ss mm bb mtd cc T0 K X0
  have E0 := X0.ext0
  refine o_iloadN K X0 d_coder_1_0 (pc' := 1) rfl rfl ?_
  refine o_aloadN K X0 d_coder_1_1 (pc' := 2) rfl rfl rfl ?_
  refine o_arraylength K X0 q0 (z := (1 : Int32)) rfl d_coder_1_2 (pc' := 3) rfl ?_
  refine o_isub K X0 d_coder_1_3 (pc' := 4) rfl (z := (0 : Int32)) (by decide) ?_
  refine o_bipush K X0 d_coder_1_4 (pc' := 6) rfl (z := (31 : Int32)) rfl ?_
  refine o_iushr K X0 d_coder_1_6 (pc' := 7) rfl (z := (0 : Int32)) (by decide) ?_
  refine o_i2b K X0 d_coder_1_7 (pc' := 8) rfl (z := (0 : Int32)) (by decide) ?_
  refine o_ireturnN K X0 .byte d_coder_1_8 rfl (by simp) (z' := (0 : Int32)) (by decide) ?_ (by decide) (by decide) (by decide)
  exact ⟨rfl, rfl⟩
theorem d_str4_1_0 : decode jdk_42_method_149_code 0 = .ok (.aload_n 0, 1) := by decide +kernel
theorem d_str4_1_1 : decode jdk_42_method_149_code 1 = .ok (.invokespecial 1, 3) := by decide +kernel
theorem d_str4_1_4 : decode jdk_42_method_149_code 4 = .ok (.iload_n 3, 1) := by decide +kernel
theorem d_str4_1_5 : decode jdk_42_method_149_code 5 = .ok (.ifCond .ne 22, 3) := by decide +kernel
theorem d_str4_1_27 : decode jdk_42_method_149_code 27 = .ok (.getstatic 38, 3) := by decide +kernel
theorem d_str4_1_30 : decode jdk_42_method_149_code 30 = .ok (.ifCond .eq 28, 3) := by decide +kernel
theorem d_str4_1_33 : decode jdk_42_method_149_code 33 = .ok (.aload_n 1, 1) := by decide +kernel
theorem d_str4_1_34 : decode jdk_42_method_149_code 34 = .ok (.iload_n 2, 1) := by decide +kernel
theorem d_str4_1_35 : decode jdk_42_method_149_code 35 = .ok (.iload_n 3, 1) := by decide +kernel
theorem d_str4_1_36 : decode jdk_42_method_149_code 36 = .ok (.invokestatic 177, 3) := by decide +kernel
theorem d_str4_1_39 : decode jdk_42_method_149_code 39 = .ok (.astore 5, 2) := by decide +kernel
theorem d_str4_1_41 : decode jdk_42_method_149_code 41 = .ok (.aload_n 0, 1) := by decide +kernel
theorem d_str4_1_42 : decode jdk_42_method_149_code 42 = .ok (.aload 5, 2) := by decide +kernel
theorem d_str4_1_44 : decode jdk_42_method_149_code 44 = .ok (.iload_n 3, 1) := by decide +kernel
theorem d_str4_1_45 : decode jdk_42_method_149_code 45 = .ok (.invokestatic 47, 3) := by decide +kernel
theorem d_str4_1_48 : decode jdk_42_method_149_code 48 = .ok (.putfield 15, 3) := by decide +kernel
theorem d_str4_1_51 : decode jdk_42_method_149_code 51 = .ok (.aload_n 0, 1) := by decide +kernel
theorem d_str4_1_52 : decode jdk_42_method_149_code 52 = .ok (.aload 5, 2) := by decide +kernel
theorem d_str4_1_54 : decode jdk_42_method_149_code 54 = .ok (.putfield 9, 3) := by decide +kernel
theorem d_str4_1_57 : decode jdk_42_method_149_code 57 = .ok (.return_, 1) := by decide +kernel
theorem pd_str4_1_0 : parseMethodDescriptor "([CII)[B" = some ⟨[(.array .char), .int, .int], some (.array .byte)⟩ := by decide +kernel
theorem pd_str4_1_1 : parseMethodDescriptor "([BI)B" = some ⟨[(.array .byte), .int], some .byte⟩ := by decide +kernel
def r_str4_1 : Room := { frames := 2, cells := 1, slots := 1, locals := 35 }
def Q_str4_1 (Z : State) (a : Addr) (b : Addr) (kb : ClassId) (cs : Int32) (c0 : Int32) (h0 : Heap) (v : Option Value) (h : Heap) : Prop := ∃ vb : Addr, ∃ k : ClassId, v = none ∧ Keep h0 h [a] ∧ Exa Z h a "java/lang/String" ∧ Fld Z h a "java/lang/String" "value" "[B" (.ref vb) ∧ Fld Z h a "java/lang/String" "coder" "B" (.int (0 : Int32)) ∧ h0.size ≤ vb ∧ oArr Z h vb k .byte [(.int (nar .byte c0))]
set_option maxRecDepth 65536 in
set_option maxHeartbeats 40000000 in
theorem rm_str4_1 (l : Launch) (Z : State) (a0 : Array Value) (hw : oHw Z a0) (a : Addr) (b : Addr) (kb : ClassId) (cs : Int32) (c0 : Int32) (h0 : Heap) (q0 : Exa Z h0 a "java/lang/String") (q1 : Fld Z h0 a "java/lang/String" "value" "[B" .null) (q2 : Fld Z h0 a "java/lang/String" "coder" "B" (.int (0 : Int32))) (q3 : Z.heap.size ≤ a) (q4 : oArr Z h0 b kb .char [(.int c0)]) (q5 : Sta Z Z.heap "java/lang/String" "COMPACT_STRINGS" "Z" (.int cs)) (q6 : ¬ (cs = (0 : Int32))) (q7 : ¬ ((255 : Int32) < c0)) : oMet l Z (⟨"java/lang/String", "<init>", "([CIILjava/lang/Void;)V"⟩ : MethodName) jdk_42_method_149_code 6 none r_str4_1 [] #[(.ref a), (.ref b), (.int (0 : Int32)), (.int (1 : Int32)), .null] h0 (Q_str4_1 Z a b kb cs c0 h0) [a] false := by
  refine oEnter (oEW hw) (plainFor_of_name (by first | (simp [plainName, overriddenIn]; done) | decide +kernel)) (own := "java/lang/String") (nm := "<init>") rfl rfl (L := #[.val (.ref a), .val (.ref b), .val (.int (0 : Int32)), .val (.int (1 : Int32)), .val .null, .unset]) (fun m => by first | (simp [entryFrame, mkF, argsToLocals, Value.category]; done) | rfl) ?_
  intro pp ee ss mm bb mtd cc T0 K X0
  have E0 := X0.ext0
  refine o_aloadN K X0 d_str4_1_0 (pc' := 1) rfl rfl rfl ?_
  refine o_initObj K X0 (w27 hw) (w28 hw) (w29 hw) d_str4_1_1 (pc' := 4) rfl rfl (by decide) (W := 0) rfl (by decide) ?_
  intro T1 X1
  refine o_iloadN K X1 d_str4_1_4 (pc' := 5) rfl rfl ?_
  refine o_if_ne_t K X1 d_str4_1_5 (by decide) (pc' := 27) (by decide) (by decide) ?_
  refine o_getstatic K X1 (host := "") (Or.inl (w69 hw)) Via.refl (q5.ext X1.ext0) d_str4_1_27 (pc' := 30) rfl ?_
  intro T2 X2
  refine o_if_eq_f K X2 d_str4_1_30 (pc' := 33) rfl q6 ?_
  refine o_aloadN K X2 d_str4_1_33 (pc' := 34) rfl rfl rfl ?_
  refine o_iloadN K X2 d_str4_1_34 (pc' := 35) rfl rfl ?_
  refine o_iloadN K X2 d_str4_1_35 (pc' := 36) rfl rfl ?_
  refine o_static K X2 (y := (⟨"java/lang/StringUTF16", "compress", "([CII)[B"⟩ : MethodName)) (w74 hw) (w75 hw) (w76 hw) (w77 hw) (by decide) (rm_cmp3_1 l Z a0 hw b kb c0 h0 q4 q7) all0 (by decide) rfl (argsL := [(.ref b), (.int (0 : Int32)), (.int (1 : Int32))]) rfl (lenOf pd_str4_1_0 rfl) (W := 0) rfl (by decide) (by decide) (by decide) d_str4_1_36 (pc' := 39) rfl ?_
  intro v3 T3 h3 FX3 U3
  obtain ⟨r_3, k_3, rfl, u3_0, u3_1, u3_2⟩ := U3
  have G3_r : Z.heap.size ≤ r_3 := Nat.le_trans (Nat.le_trans E0.1 (Nat.le_refl _)) u3_1
  have X3 := FX3 [r_3] (Or.inl rfl) (allS ⟨u3_1, u3_2.lt⟩ all0)
  show oGoes pp ee bb ss Z T3 (mkF mm 39 #[.val (.ref a), .val (.ref b), .val (.int (0 : Int32)), .val (.int (1 : Int32)), .val .null, .unset] [(.ref r_3)]) _ _ _ _
  refine o_astore K X3 d_str4_1_39 (pc' := 41) rfl rfl (L' := #[.val (.ref a), .val (.ref b), .val (.int (0 : Int32)), .val (.int (1 : Int32)), .val .null, .val (.ref r_3)]) rfl ?_
  refine o_aloadN K X3 d_str4_1_41 (pc' := 42) rfl rfl rfl ?_
  refine o_aload K X3 d_str4_1_42 (pc' := 44) rfl rfl rfl ?_
  refine o_iloadN K X3 d_str4_1_44 (pc' := 45) rfl rfl ?_
  refine o_static K X3 (y := (⟨"java/lang/StringUTF16", "coderFromArrayLen", "([BI)B"⟩ : MethodName)) (w81 hw) (w82 hw) (w76 hw) (w83 hw) (by decide) (rm_coder_1 l Z a0 hw r_3 k_3 (nar .byte c0) h3 u3_2) all0 (by decide) rfl (argsL := [(.ref r_3), (.int (1 : Int32))]) rfl (lenOf pd_str4_1_1 rfl) (W := 1) rfl (by decide) (by decide) (by decide) d_str4_1_45 (pc' := 48) rfl ?_
  intro v4 T4 h4 FX4 U4
  obtain ⟨rfl, rfl⟩ := U4
  have X4 := FX4 [] (Or.inl rfl) all0
  show oGoes pp ee bb ss Z T4 (mkF mm 48 #[.val (.ref a), .val (.ref b), .val (.int (0 : Int32)), .val (.int (1 : Int32)), .val .null, .val (.ref r_3)] [(.int (0 : Int32)), (.ref a)]) _ _ _ _
  refine o_putfieldN K X4 (w37 hw) Via.refl (q2.keep u3_0 nin0) (q0.keep u3_0) (Or.inr ⟨(w33 hw), rfl, rfl⟩) (w17 hw) (ty := .byte) (by decide) (v' := (.int (0 : Int32))) (congrArg Value.int (by decide)) (oFitbyte (x := (0 : Int32)) (by decide)) q3 (List.mem_of_getElem? (i := 1) rfl) d_str4_1_48 (pc' := 51) rfl ?_
  intro T5 h5 X5 W5
  have F5 := Fld.same W5 (q2.keep u3_0 nin0)
  refine o_aloadN K X5 d_str4_1_51 (pc' := 52) rfl rfl rfl ?_
  refine o_aload K X5 d_str4_1_52 (pc' := 54) rfl rfl rfl ?_
  refine o_putfield K X5 (host := "") (Or.inl (w36 hw)) Via.refl (Fld.other W5 (q1.keep u3_0 nin0) (Or.inr (slot_ne (Or.inr (w32 hw)) (Or.inr (w33 hw)) (by decide) (t := (.array .byte)) (t' := .byte) (by decide) (by decide)))) (Exa.wr W5 (q0.keep u3_0)) (Or.inr ⟨(w32 hw), rfl, rfl⟩) (w17 hw) (ty := (.array .byte)) (by decide) rfl rfl q3 (List.mem_of_getElem? (i := 1) rfl) d_str4_1_54 (pc' := 57) rfl ?_
  intro T6 h6 X6 W6
  have F6 := Fld.same W6 (Fld.other W5 (q1.keep u3_0 nin0) (Or.inr (slot_ne (Or.inr (w32 hw)) (Or.inr (w33 hw)) (by decide) (t := (.array .byte)) (t' := .byte) (by decide) (by decide))))
  refine o_return K X6 d_str4_1_57 rfl ?_ (by decide) (by decide) (by decide)
  exact ⟨r_3, k_3, rfl, ((((Keep.refl h0 [a]).trans u3_0 all0).wr W5 (Or.inl (List.mem_of_getElem? (i := 0) rfl))).wr W6 (Or.inl (List.mem_of_getElem? (i := 0) rfl))), (Exa.wr W6 (Exa.wr W5 (q0.keep u3_0))), F6, (Fld.other W6 F5 (Or.inr (slot_ne (Or.inr (w33 hw)) (Or.inr (w32 hw)) (by decide) (t := .byte) (t' := (.array .byte)) (by decide) (by decide)))), u3_1, ((u3_2.other W5 (Ne.symm (Nat.ne_of_lt (Nat.lt_of_lt_of_le q0.lt u3_1)))).other W6 (Ne.symm (Nat.ne_of_lt (Nat.lt_of_lt_of_le q0.lt u3_1))))⟩
theorem d_str_1_0 : decode jdk_42_method_3_code 0 = .ok (.aload_n 0, 1) := by decide +kernel
theorem d_str_1_1 : decode jdk_42_method_3_code 1 = .ok (.aload_n 1, 1) := by decide +kernel
theorem d_str_1_2 : decode jdk_42_method_3_code 2 = .ok (.iconst 0, 1) := by decide +kernel
theorem d_str_1_3 : decode jdk_42_method_3_code 3 = .ok (.aload_n 1, 1) := by decide +kernel
theorem d_str_1_4 : decode jdk_42_method_3_code 4 = .ok (.arraylength, 1) := by decide +kernel
theorem d_str_1_5 : decode jdk_42_method_3_code 5 = .ok (.aconst_null, 1) := by decide +kernel
theorem d_str_1_6 : decode jdk_42_method_3_code 6 = .ok (.invokespecial 27, 3) := by decide +kernel
theorem d_str_1_9 : decode jdk_42_method_3_code 9 = .ok (.return_, 1) := by decide +kernel
theorem pd_str_1_0 : parseMethodDescriptor "([CIILjava/lang/Void;)V" = some ⟨[(.array .char), .int, .int, (.object "java/lang/Void")], none⟩ := by decide +kernel
def r_str_1 : Room := { frames := 3, cells := 1, slots := 1, locals := 52 }
def Q_str_1 (Z : State) (a : Addr) (b : Addr) (kb : ClassId) (cs : Int32) (c0 : Int32) (h0 : Heap) (v : Option Value) (h : Heap) : Prop := ∃ vb : Addr, ∃ k : ClassId, v = none ∧ Keep h0 h [a] ∧ Exa Z h a "java/lang/String" ∧ Fld Z h a "java/lang/String" "value" "[B" (.ref vb) ∧ Fld Z h a "java/lang/String" "coder" "B" (.int (0 : Int32)) ∧ h0.size ≤ vb ∧ oArr Z h vb k .byte [(.int (nar .byte c0))]
set_option maxRecDepth 65536 in
set_option maxHeartbeats 40000000 in
theorem rm_str_1 (l : Launch) (Z : State) (a0 : Array Value) (hw : oHw Z a0) (a : Addr) (b : Addr) (kb : ClassId) (cs : Int32) (c0 : Int32) (h0 : Heap) (q0 : Exa Z h0 a "java/lang/String") (q1 : Fld Z h0 a "java/lang/String" "value" "[B" .null) (q2 : Fld Z h0 a "java/lang/String" "coder" "B" (.int (0 : Int32))) (q3 : Z.heap.size ≤ a) (q4 : oArr Z h0 b kb .char [(.int c0)]) (q5 : Sta Z Z.heap "java/lang/String" "COMPACT_STRINGS" "Z" (.int cs)) (q6 : ¬ (cs = (0 : Int32))) (q7 : ¬ ((255 : Int32) < c0)) : oMet l Z (⟨"java/lang/String", "<init>", "([C)V"⟩ : MethodName) jdk_42_method_3_code 2 none r_str_1 [] #[(.ref a), (.ref b)] h0 (Q_str_1 Z a b kb cs c0 h0) [a] false := by
  refine oEnter (oEW hw) (plainFor_of_name (by first | (simp [plainName, overriddenIn]; done) | decide +kernel)) (own := "java/lang/String") (nm := "<init>") rfl rfl (L := #[.val (.ref a), .val (.ref b)]) (fun m => by first | (simp [entryFrame, mkF, argsToLocals, Value.category]; done) | rfl) ?_
  intro pp ee ss mm bb mtd cc T0 K X0
  have E0 := X0.ext0
  refine o_aloadN K X0 d_str_1_0 (pc' := 1) rfl rfl rfl ?_
  refine o_aloadN K X0 d_str_1_1 (pc' := 2) rfl rfl rfl ?_
  refine o_iconst K X0 d_str_1_2 (pc' := 3) rfl (z := (0 : Int32)) rfl ?_
  refine o_aloadN K X0 d_str_1_3 (pc' := 4) rfl rfl rfl ?_
  refine o_arraylength K X0 q4 (z := (1 : Int32)) rfl d_str_1_4 (pc' := 5) rfl ?_
  refine o_aconst_null K X0 d_str_1_5 (pc' := 6) rfl ?_
  refine o_special K X0 (y := (⟨"java/lang/String", "<init>", "([CIILjava/lang/Void;)V"⟩ : MethodName)) rfl (w23 hw) (w24 hw) (w18 hw) (w26 hw) (by decide) (rm_str4_1 l Z a0 hw a b kb cs c0 h0 q0 q1 q2 q3 q4 q5 q6 q7) (allS (List.mem_of_getElem? (i := 0) rfl) all0) (by decide) rfl (argsL := [(.ref b), (.int (0 : Int32)), (.int (1 : Int32)), .null]) rfl (lenOf pd_str_1_0 rfl) (W := 0) rfl (by decide) (by decide) (by decide) d_str_1_6 (pc' := 9) rfl ?_
  intro v1 T1 h1 FX1 U1
  obtain ⟨vb_1, k_1, rfl, u1_0, u1_1, u1_2, u1_3, u1_4, u1_5⟩ := U1
  have G1_vb : Z.heap.size ≤ vb_1 := Nat.le_trans (Nat.le_trans E0.1 (Nat.le_refl _)) u1_4
  have X1 := FX1 [vb_1] (Or.inl rfl) (allS ⟨u1_4, u1_5.lt⟩ all0)
  show oGoes pp ee bb ss Z T1 (mkF mm 9 #[.val (.ref a), .val (.ref b)] []) _ _ _ _
  refine o_return K X1 d_str_1_9 rfl ?_ (by decide) (by decide) (by decide)
  exact ⟨vb_1, k_1, rfl, ((Keep.refl h0 [a]).trans u1_0 (allS (Or.inl (List.mem_of_getElem? (i := 0) rfl)) all0)), u1_1, u1_2, u1_3, u1_4, u1_5⟩
theorem d_cmp5_2_0 : decode jdk_52_method_21_code 0 = .ok (.iconst 0, 1) := by decide +kernel
theorem d_cmp5_2_1 : decode jdk_52_method_21_code 1 = .ok (.istore 5, 2) := by decide +kernel
theorem d_cmp5_2_3 : decode jdk_52_method_21_code 3 = .ok (.iload 5, 2) := by decide +kernel
theorem d_cmp5_2_5 : decode jdk_52_method_21_code 5 = .ok (.iload 4, 2) := by decide +kernel
theorem d_cmp5_2_7 : decode jdk_52_method_21_code 7 = .ok (.if_icmp .ge 37, 3) := by decide +kernel
theorem d_cmp5_2_10 : decode jdk_52_method_21_code 10 = .ok (.aload_n 0, 1) := by decide +kernel
theorem d_cmp5_2_11 : decode jdk_52_method_21_code 11 = .ok (.iload_n 1, 1) := by decide +kernel
theorem d_cmp5_2_12 : decode jdk_52_method_21_code 12 = .ok (.caload, 1) := by decide +kernel
theorem d_cmp5_2_13 : decode jdk_52_method_21_code 13 = .ok (.istore 6, 2) := by decide +kernel
theorem d_cmp5_2_15 : decode jdk_52_method_21_code 15 = .ok (.iload 6, 2) := by decide +kernel
theorem d_cmp5_2_17 : decode jdk_52_method_21_code 17 = .ok (.sipush 255, 3) := by decide +kernel
theorem d_cmp5_2_20 : decode jdk_52_method_21_code 20 = .ok (.if_icmp .le 6, 3) := by decide +kernel
theorem d_cmp5_2_26 : decode jdk_52_method_21_code 26 = .ok (.aload_n 2, 1) := by decide +kernel
theorem d_cmp5_2_27 : decode jdk_52_method_21_code 27 = .ok (.iload_n 3, 1) := by decide +kernel
theorem d_cmp5_2_28 : decode jdk_52_method_21_code 28 = .ok (.iload 6, 2) := by decide +kernel
theorem d_cmp5_2_30 : decode jdk_52_method_21_code 30 = .ok (.i2b, 1) := by decide +kernel
theorem d_cmp5_2_31 : decode jdk_52_method_21_code 31 = .ok (.bastore, 1) := by decide +kernel
theorem d_cmp5_2_32 : decode jdk_52_method_21_code 32 = .ok (.iinc 1 1, 3) := by decide +kernel
theorem d_cmp5_2_35 : decode jdk_52_method_21_code 35 = .ok (.iinc 3 1, 3) := by decide +kernel
theorem d_cmp5_2_38 : decode jdk_52_method_21_code 38 = .ok (.iinc 5 1, 3) := by decide +kernel
theorem d_cmp5_2_41 : decode jdk_52_method_21_code 41 = .ok (.goto (-38), 3) := by decide +kernel
theorem d_cmp5_2_44 : decode jdk_52_method_21_code 44 = .ok (.iload 4, 2) := by decide +kernel
theorem d_cmp5_2_46 : decode jdk_52_method_21_code 46 = .ok (.ireturn, 1) := by decide +kernel
def r_cmp5_2 : Room := { frames := 0, cells := 0, slots := 0, locals := 0 }
def Q_cmp5_2 (Z : State) (b : Addr) (kb : ClassId) (d : Addr) (kd : ClassId) (c0 : Int32) (c1 : Int32) (h0 : Heap) (v : Option Value) (h : Heap) : Prop := v = some (.int (2 : Int32)) ∧ Keep h0 h [d] ∧ oArr Z h d kd .byte [(.int (nar .byte c0)), (.int (nar .byte c1))]
set_option maxRecDepth 65536 in
set_option maxHeartbeats 40000000 in
theorem rm_cmp5_2 (l : Launch) (Z : State) (a0 : Array Value) (hw : oHw Z a0) (b : Addr) (kb : ClassId) (d : Addr) (kd : ClassId) (c0 : Int32) (c1 : Int32) (h0 : Heap) (q0 : oArr Z h0 b kb .char [(.int c0), (.int c1)]) (q1 : oArr Z h0 d kd .byte [(.int (0 : Int32)), (.int (0 : Int32))]) (q2 : Z.heap.size ≤ d) (q3 : b ≠ d) (q4 : ¬ ((255 : Int32) < c0)) (q5 : ¬ ((255 : Int32) < c1)) : oMet l Z (⟨"java/lang/StringUTF16", "compress", "([CI[BII)I"⟩ : MethodName) jdk_52_method_21_code 7 (some .int) r_cmp5_2 [] #[(.ref b), (.int (0 : Int32)), (.ref d), (.int (0 : Int32)), (.int (2 : Int32))] h0 (Q_cmp5_2 Z b kb d kd c0 c1 h0) [d] false := by
  refine oEnter (oEW hw) (plainFor_of_name (by first | (simp [plainName, overriddenIn]; done) | decide +kernel)) (own := "java/lang/StringUTF16") (nm := "compress") rfl rfl (L := #[.val (.ref b), .val (.int (0 : Int32)), .val (.ref d), .val (.int (0 : Int32)), .val (.int (2 : Int32)), .unset, .unset]) (fun m => by first | (simp [entryFrame, mkF, argsToLocals, Value.category]; done) | rfl) ?_
  intro pp ee ss mm bb mtd cc T0 K X0
  have E0 := X0.ext0
  refine o_iconst K X0 d_cmp5_2_0 (pc' := 1) rfl (z := (0 : Int32)) rfl ?_
  refine o_istore K X0 d_cmp5_2_1 (pc' := 3) rfl (L' := #[.val (.ref b), .val (.int (0 : Int32)), .val (.ref d), .val (.int (0 : Int32)), .val (.int (2 : Int32)), .val (.int (0 : Int32)), .unset]) rfl ?_
  refine o_iload K X0 d_cmp5_2_3 (pc' := 5) rfl rfl ?_
  refine o_iload K X0 d_cmp5_2_5 (pc' := 7) rfl rfl ?_
  refine o_icmp_ge_f K X0 d_cmp5_2_7 (pc' := 10) rfl (by decide) ?_
  refine o_aloadN K X0 d_cmp5_2_10 (pc' := 11) rfl rfl rfl ?_
  refine o_iloadN K X0 d_cmp5_2_11 (pc' := 12) rfl rfl ?_
  refine o_caload K X0 q0 (by decide) (v := (.int c0)) rfl d_cmp5_2_12 (pc' := 13) rfl ?_
  refine o_istore K X0 d_cmp5_2_13 (pc' := 15) rfl (L' := #[.val (.ref b), .val (.int (0 : Int32)), .val (.ref d), .val (.int (0 : Int32)), .val (.int (2 : Int32)), .val (.int (0 : Int32)), .val (.int c0)]) rfl ?_
  refine o_iload K X0 d_cmp5_2_15 (pc' := 17) rfl rfl ?_
  refine o_sipush K X0 d_cmp5_2_17 (pc' := 20) rfl (z := (255 : Int32)) rfl ?_
  refine o_icmp_le_t K X0 d_cmp5_2_20 (by decide) (pc' := 26) (by decide) q4 ?_
  refine o_aloadN K X0 d_cmp5_2_26 (pc' := 27) rfl rfl rfl ?_
  refine o_iloadN K X0 d_cmp5_2_27 (pc' := 28) rfl rfl ?_
  refine o_iload K X0 d_cmp5_2_28 (pc' := 30) rfl rfl ?_
  refine o_i2b K X0 d_cmp5_2_30 (pc' := 31) rfl (z := (nar .byte c0)) rfl ?_
  refine o_bastore K X0 q1 (by decide) (show (0 : Int32).toNatClampNeg < 2 from (by decide)) q2 (List.mem_of_getElem? (i := 0) rfl) (z := (.int (nar .byte c0))) (congrArg Value.int (oNarIdembyte _)) d_cmp5_2_31 (pc' := 32) rfl ?_
  intro T1 h1 X1 W1 A1
  replace A1 : oArr Z h1 d kd .byte [(.int (nar .byte c0)), (.int (0 : Int32))] := A1
  refine o_iinc K X1 d_cmp5_2_32 (pc' := 35) rfl rfl (L' := #[.val (.ref b), .val (.int (1 : Int32)), .val (.ref d), .val (.int (0 : Int32)), .val (.int (2 : Int32)), .val (.int (0 : Int32)), .val (.int c0)]) (by rw [show (0 : Int32) + Int32.ofInt 1 = (1 : Int32) from (by decide)]; rfl) ?_
  refine o_iinc K X1 d_cmp5_2_35 (pc' := 38) rfl rfl (L' := #[.val (.ref b), .val (.int (1 : Int32)), .val (.ref d), .val (.int (1 : Int32)), .val (.int (2 : Int32)), .val (.int (0 : Int32)), .val (.int c0)]) (by rw [show (0 : Int32) + Int32.ofInt 1 = (1 : Int32) from (by decide)]; rfl) ?_
  refine o_iinc K X1 d_cmp5_2_38 (pc' := 41) rfl rfl (L' := #[.val (.ref b), .val (.int (1 : Int32)), .val (.ref d), .val (.int (1 : Int32)), .val (.int (2 : Int32)), .val (.int (1 : Int32)), .val (.int c0)]) (by rw [show (0 : Int32) + Int32.ofInt 1 = (1 : Int32) from (by decide)]; rfl) ?_
  refine o_goto K X1 d_cmp5_2_41 (by decide) (pc' := 3) (by decide) ?_
  refine o_iload K X1 d_cmp5_2_3 (pc' := 5) rfl rfl ?_
  refine o_iload K X1 d_cmp5_2_5 (pc' := 7) rfl rfl ?_
  refine o_icmp_ge_f K X1 d_cmp5_2_7 (pc' := 10) rfl (by decide) ?_
  refine o_aloadN K X1 d_cmp5_2_10 (pc' := 11) rfl rfl rfl ?_
  refine o_iloadN K X1 d_cmp5_2_11 (pc' := 12) rfl rfl ?_
  refine o_caload K X1 (q0.other W1 q3) (by decide) (v := (.int c1)) rfl d_cmp5_2_12 (pc' := 13) rfl ?_
  refine o_istore K X1 d_cmp5_2_13 (pc' := 15) rfl (L' := #[.val (.ref b), .val (.int (1 : Int32)), .val (.ref d), .val (.int (1 : Int32)), .val (.int (2 : Int32)), .val (.int (1 : Int32)), .val (.int c1)]) rfl ?_
  refine o_iload K X1 d_cmp5_2_15 (pc' := 17) rfl rfl ?_
  refine o_sipush K X1 d_cmp5_2_17 (pc' := 20) rfl (z := (255 : Int32)) rfl ?_
  refine o_icmp_le_t K X1 d_cmp5_2_20 (by decide) (pc' := 26) (by decide) q5 ?_
  refine o_aloadN K X1 d_cmp5_2_26 (pc' := 27) rfl rfl rfl ?_
  refine o_iloadN K X1 d_cmp5_2_27 (pc' := 28) rfl rfl ?_
  refine o_iload K X1 d_cmp5_2_28 (pc' := 30) rfl rfl ?_
  refine o_i2b K X1 d_cmp5_2_30 (pc' := 31) rfl (z := (nar .byte c1)) rfl ?_
  refine o_bastore K X1 A1 (by decide) (show (1 : Int32).toNatClampNeg < 2 from (by decide)) q2 (List.mem_of_getElem? (i := 0) rfl) (z := (.int (nar .byte c1))) (congrArg Value.int (oNarIdembyte _)) d_cmp5_2_31 (pc' := 32) rfl ?_
  intro T2 h2 X2 W2 A2
  replace A2 : oArr Z h2 d kd .byte [(.int (nar .byte c0)), (.int (nar .byte c1))] := A2
  refine o_iinc K X2 d_cmp5_2_32 (pc' := 35) rfl rfl (L' := #[.val (.ref b), .val (.int (2 : Int32)), .val (.ref d), .val (.int (1 : Int32)), .val (.int (2 : Int32)), .val (.int (1 : Int32)), .val (.int c1)]) (by rw [show (1 : Int32) + Int32.ofInt 1 = (2 : Int32) from (by decide)]; rfl) ?_
  refine o_iinc K X2 d_cmp5_2_35 (pc' := 38) rfl rfl (L' := #[.val (.ref b), .val (.int (2 : Int32)), .val (.ref d), .val (.int (2 : Int32)), .val (.int (2 : Int32)), .val (.int (1 : Int32)), .val (.int c1)]) (by rw [show (1 : Int32) + Int32.ofInt 1 = (2 : Int32) from (by decide)]; rfl) ?_
  refine o_iinc K X2 d_cmp5_2_38 (pc' := 41) rfl rfl (L' := #[.val (.ref b), .val (.int (2 : Int32)), .val (.ref d), .val (.int (2 : Int32)), .val (.int (2 : Int32)), .val (.int (2 : Int32)), .val (.int c1)]) (by rw [show (1 : Int32) + Int32.ofInt 1 = (2 : Int32) from (by decide)]; rfl) ?_
  refine o_goto K X2 d_cmp5_2_41 (by decide) (pc' := 3) (by decide) ?_
  refine o_iload K X2 d_cmp5_2_3 (pc' := 5) rfl rfl ?_
  refine o_iload K X2 d_cmp5_2_5 (pc' := 7) rfl rfl ?_
  refine o_icmp_ge_t K X2 d_cmp5_2_7 (by decide) (pc' := 44) (by decide) (by decide) ?_
  refine o_iload K X2 d_cmp5_2_44 (pc' := 46) rfl rfl ?_
  refine o_ireturn K X2 d_cmp5_2_46 rfl ?_ (by decide) (by decide) (by decide)
  exact ⟨rfl, (((Keep.refl h0 [d]).wr W1 (Or.inl (List.mem_of_getElem? (i := 0) rfl))).wr W2 (Or.inl (List.mem_of_getElem? (i := 0) rfl))), A2⟩
theorem d_cmp3_2_0 : decode jdk_52_method_16_code 0 = .ok (.iload_n 2, 1) := by decide +kernel
theorem d_cmp3_2_1 : decode jdk_52_method_16_code 1 = .ok (.newarray .byte, 2) := by decide +kernel
theorem d_cmp3_2_3 : decode jdk_52_method_16_code 3 = .ok (.astore_n 3, 1) := by decide +kernel
theorem d_cmp3_2_4 : decode jdk_52_method_16_code 4 = .ok (.aload_n 0, 1) := by decide +kernel
theorem d_cmp3_2_5 : decode jdk_52_method_16_code 5 = .ok (.iload_n 1, 1) := by decide +kernel
theorem d_cmp3_2_6 : decode jdk_52_method_16_code 6 = .ok (.aload_n 3, 1) := by decide +kernel
theorem d_cmp3_2_7 : decode jdk_52_method_16_code 7 = .ok (.iconst 0, 1) := by decide +kernel
theorem d_cmp3_2_8 : decode jdk_52_method_16_code 8 = .ok (.iload_n 2, 1) := by decide +kernel
theorem d_cmp3_2_9 : decode jdk_52_method_16_code 9 = .ok (.invokestatic 115, 3) := by decide +kernel
theorem d_cmp3_2_12 : decode jdk_52_method_16_code 12 = .ok (.istore 4, 2) := by decide +kernel
theorem d_cmp3_2_14 : decode jdk_52_method_16_code 14 = .ok (.iload 4, 2) := by decide +kernel
theorem d_cmp3_2_16 : decode jdk_52_method_16_code 16 = .ok (.iload_n 2, 1) := by decide +kernel
theorem d_cmp3_2_17 : decode jdk_52_method_16_code 17 = .ok (.if_icmp .eq 40, 3) := by decide +kernel
theorem d_cmp3_2_57 : decode jdk_52_method_16_code 57 = .ok (.aload_n 3, 1) := by decide +kernel
theorem d_cmp3_2_58 : decode jdk_52_method_16_code 58 = .ok (.areturn, 1) := by decide +kernel
theorem pd_cmp3_2_0 : parseMethodDescriptor "([CI[BII)I" = some ⟨[(.array .char), .int, (.array .byte), .int, .int], some .int⟩ := by decide +kernel
def r_cmp3_2 : Room := { frames := 1, cells := 1, slots := 2, locals := 18 }
def Q_cmp3_2 (Z : State) (b : Addr) (kb : ClassId) (c0 : Int32) (c1 : Int32) (h0 : Heap) (v : Option Value) (h : Heap) : Prop := ∃ r : Addr, ∃ k : ClassId, v = some (.ref r) ∧ Keep h0 h [] ∧ h0.size ≤ r ∧ oArr Z h r k .byte [(.int (nar .byte c0)), (.int (nar .byte c1))]
set_option maxRecDepth 65536 in
set_option maxHeartbeats 40000000 in
theorem rm_cmp3_2 (l : Launch) (Z : State) (a0 : Array Value) (hw : oHw Z a0) (b : Addr) (kb : ClassId) (c0 : Int32) (c1 : Int32) (h0 : Heap) (q0 : oArr Z h0 b kb .char [(.int c0), (.int c1)]) (q1 : ¬ ((255 : Int32) < c0)) (q2 : ¬ ((255 : Int32) < c1)) : oMet l Z (⟨"java/lang/StringUTF16", "compress", "([CII)[B"⟩ : MethodName) jdk_52_method_16_code 6 (some (.array .byte)) r_cmp3_2 [] #[(.ref b), (.int (0 : Int32)), (.int (2 : Int32))] h0 (Q_cmp3_2 Z b kb c0 c1 h0) [] false := by
  refine oEnter (oEW hw) (plainFor_of_name (by first | (simp [plainName, overriddenIn]; done) | decide +kernel)) (own := "java/lang/StringUTF16") (nm := "compress") rfl rfl (L := #[.val (.ref b), .val (.int (0 : Int32)), .val (.int (2 : Int32)), .unset, .unset, .unset]) (fun m => by first | (simp [entryFrame, mkF, argsToLocals, Value.category]; done) | rfl) ?_
  intro pp ee ss mm bb mtd cc T0 K X0
  have E0 := X0.ext0
  refine o_iloadN K X0 d_cmp3_2_0 (pc' := 1) rfl rfl ?_
  refine o_newarray K X0 (aty := .byte) 2 (w31 hw) (ad := "[B") (by decide +kernel) (by decide) (by decide) (by decide) rfl d_cmp3_2_1 (pc' := 3) rfl (by decide) (by decide) ?_
  intro T1 h1 b1 k1 X1 g1 E1 A1 B1 G1
  replace A1 : oArr Z h1 b1 k1 .byte [(.int (0 : Int32)), (.int (0 : Int32))] := A1
  refine o_astoreN K X1 d_cmp3_2_3 (pc' := 4) rfl rfl (L' := #[.val (.ref b), .val (.int (0 : Int32)), .val (.int (2 : Int32)), .val (.ref b1), .unset, .unset]) rfl ?_
  refine o_aloadN K X1 d_cmp3_2_4 (pc' := 5) rfl rfl rfl ?_
  refine o_iloadN K X1 d_cmp3_2_5 (pc' := 6) rfl rfl ?_
  refine o_aloadN K X1 d_cmp3_2_6 (pc' := 7) rfl rfl rfl ?_
  refine o_iconst K X1 d_cmp3_2_7 (pc' := 8) rfl (z := (0 : Int32)) rfl ?_
  refine o_iloadN K X1 d_cmp3_2_8 (pc' := 9) rfl rfl ?_
  refine o_static K X1 (y := (⟨"java/lang/StringUTF16", "compress", "([CI[BII)I"⟩ : MethodName)) (w78 hw) (w79 hw) (w76 hw) (w80 hw) (by decide) (rm_cmp5_2 l Z a0 hw b kb b1 k1 c0 c1 h1 (q0.ext E1) A1 G1 (Nat.ne_of_lt (Nat.lt_of_lt_of_le q0.lt (Nat.le_of_eq g1.symm))) q1 q2) (allS (List.mem_of_getElem? (i := 0) rfl) all0) (by decide) rfl (argsL := [(.ref b), (.int (0 : Int32)), (.ref b1), (.int (0 : Int32)), (.int (2 : Int32))]) rfl (lenOf pd_cmp3_2_0 rfl) (W := 0) rfl (by decide) (by decide) (by decide) d_cmp3_2_9 (pc' := 12) rfl ?_
  intro v2 T2 h2 FX2 U2
  obtain ⟨rfl, u2_0, u2_1⟩ := U2
  have X2 := FX2 [] (Or.inl rfl) all0
  show oGoes pp ee bb ss Z T2 (mkF mm 12 #[.val (.ref b), .val (.int (0 : Int32)), .val (.int (2 : Int32)), .val (.ref b1), .unset, .unset] [(.int (2 : Int32))]) _ _ _ _
  refine o_istore K X2 d_cmp3_2_12 (pc' := 14) rfl (L' := #[.val (.ref b), .val (.int (0 : Int32)), .val (.int (2 : Int32)), .val (.ref b1), .val (.int (2 : Int32)), .unset]) rfl ?_
  refine o_iload K X2 d_cmp3_2_14 (pc' := 16) rfl rfl ?_
  refine o_iloadN K X2 d_cmp3_2_16 (pc' := 17) rfl rfl ?_
  refine o_icmp_eq_t K X2 d_cmp3_2_17 (by decide) (pc' := 57) (by decide) (by decide) ?_
  refine o_aloadN K X2 d_cmp3_2_57 (pc' := 58) rfl rfl rfl ?_
  refine o_areturn K X2 (t := (.array .byte)) d_cmp3_2_58 rfl rfl rfl ?_ (by decide) (by decide) (by decide)
  exact ⟨b1, k1, rfl, (((Keep.refl h0 []).ext E1).trans u2_0 (allS (Or.inr (Nat.le_of_eq g1.symm)) all0)), (Nat.le_of_eq g1.symm), u2_1⟩
theorem d_coder_2_0 : decode jdk_52_method_15_code 0 = .ok (.iload_n 1, 1) := by decide +kernel
theorem d_coder_2_1 : decode jdk_52_method_15_code 1 = .ok (.aload_n 0, 1) := by decide +kernel
theorem d_coder_2_2 : decode jdk_52_method_15_code 2 = .ok (.arraylength, 1) := by decide +kernel
theorem d_coder_2_3 : decode jdk_52_method_15_code 3 = .ok (.isub, 1) := by decide +kernel
theorem d_coder_2_4 : decode jdk_52_method_15_code 4 = .ok (.bipush 31, 2) := by decide +kernel
theorem d_coder_2_6 : decode jdk_52_method_15_code 6 = .ok (.iushr, 1) := by decide +kernel
theorem d_coder_2_7 : decode jdk_52_method_15_code 7 = .ok (.i2b, 1) := by decide +kernel
theorem d_coder_2_8 : decode jdk_52_method_15_code 8 = .ok (.ireturn, 1) := by decide +kernel
def r_coder_2 : Room := { frames := 0, cells := 0, slots := 0, locals := 0 }
def Q_coder_2 (Z : State) (b : Addr) (kb : ClassId) (c0 : Int32) (c1 : Int32) (h0 : Heap) (v : Option Value) (h : Heap) : Prop := v = some (.int (0 : Int32)) ∧ h0 = h
set_option maxRecDepth 65536 in
set_option maxHeartbeats 40000000 in
theorem rm_coder_2 (l : Launch) (Z : State) (a0 : Array Value) (hw : oHw Z a0) (b : Addr) (kb : ClassId) (c0 : Int32) (c1 : Int32) (h0 : Heap) (q0 : oArr Z h0 b kb .byte [(.int c0), (.int c1)]) : oMet l Z (⟨"java/lang/StringUTF16", "coderFromArrayLen", "([BI)B"⟩ : MethodName) jdk_52_method_15_code 2 (some .byte) r_coder_2 [] #[(.ref b), (.int (2 : Int32))] h0 (Q_coder_2 Z b kb c0 c1 h0) [] false := by
  refine oEnter (oEW hw) (plainFor_of_name (by first | (simp [plainName, overriddenIn]; done) | decide +kernel)) (own := "java/lang/StringUTF16") (nm := "coderFromArrayLen") rfl rfl (L := #[.val (.ref b), .val (.int (2 : Int32))]) (fun m => by first | (simp [entryFrame, mkF, argsToLocals, Value.category]; done) | rfl) ?_
  intro pp ee ss mm bb mtd cc T0 K X0
  have E0 := X0.ext0
  refine o_iloadN K X0 d_coder_2_0 (pc' := 1) rfl rfl ?_
  refine o_aloadN K X0 d_coder_2_1 (pc' := 2) rfl rfl rfl ?_
  refine o_arraylength K X0 q0 (z := (2 : Int32)) rfl d_coder_2_2 (pc' := 3) rfl ?_
  refine o_isub K X0 d_coder_2_3 (pc' := 4) rfl (z := (0 : Int32)) (by decide) ?_
  refine o_bipush K X0 d_coder_2_4 (pc' := 6) rfl (z := (31 : Int32)) rfl ?_
  refine o_iushr K X0 d_coder_2_6 (pc' := 7) rfl (z := (0 : Int32)) (by decide) ?_
  refine o_i2b K X0 d_coder_2_7 (pc' := 8) rfl (z := (0 : Int32)) (by decide) ?_
  refine o_ireturnN K X0 .byte d_coder_2_8 rfl (by simp) (z' := (0 : Int32)) (by decide) ?_ (by decide) (by decide) (by decide)
  exact ⟨rfl, rfl⟩
theorem d_str4_2_0 : decode jdk_42_method_149_code 0 = .ok (.aload_n 0, 1) := by decide +kernel
theorem d_str4_2_1 : decode jdk_42_method_149_code 1 = .ok (.invokespecial 1, 3) := by decide +kernel
theorem d_str4_2_4 : decode jdk_42_method_149_code 4 = .ok (.iload_n 3, 1) := by decide +kernel
theorem d_str4_2_5 : decode jdk_42_method_149_code 5 = .ok (.ifCond .ne 22, 3) := by decide +kernel
theorem d_str4_2_27 : decode jdk_42_method_149_code 27 = .ok (.getstatic 38, 3) := by decide +kernel
theorem d_str4_2_30 : decode jdk_42_method_149_code 30 = .ok (.ifCond .eq 28, 3) := by decide +kernel
theorem d_str4_2_33 : decode jdk_42_method_149_code 33 = .ok (.aload_n 1, 1) := by decide +kernel
theorem d_str4_2_34 : decode jdk_42_method_149_code 34 = .ok (.iload_n 2, 1) := by decide +kernel
theorem d_str4_2_35 : decode jdk_42_method_149_code 35 = .ok (.iload_n 3, 1) := by decide +kernel
theorem d_str4_2_36 : decode jdk_42_method_149_code 36 = .ok (.invokestatic 177, 3) := by decide +kernel
theorem d_str4_2_39 : decode jdk_42_method_149_code 39 = .ok (.astore 5, 2) := by decide +kernel
theorem d_str4_2_41 : decode jdk_42_method_149_code 41 = .ok (.aload_n 0, 1) := by decide +kernel
theorem d_str4_2_42 : decode jdk_42_method_149_code 42 = .ok (.aload 5, 2) := by decide +kernel
theorem d_str4_2_44 : decode jdk_42_method_149_code 44 = .ok (.iload_n 3, 1) := by decide +kernel
theorem d_str4_2_45 : decode jdk_42_method_149_code 45 = .ok (.invokestatic 47, 3) := by decide +kernel
theorem d_str4_2_48 : decode jdk_42_method_149_code 48 = .ok (.putfield 15, 3) := by decide +kernel
theorem d_str4_2_51 : decode jdk_42_method_149_code 51 = .ok (.aload_n 0, 1) := by decide +kernel
theorem d_str4_2_52 : decode jdk_42_method_149_code 52 = .ok (.aload 5, 2) := by decide +kernel
theorem d_str4_2_54 : decode jdk_42_method_149_code 54 = .ok (.putfield 9, 3) := by decide +kernel
theorem d_str4_2_57 : decode jdk_42_method_149_code 57 = .ok (.return_, 1) := by decide +kernel
theorem pd_str4_2_0 : parseMethodDescriptor "([CII)[B" = some ⟨[(.array .char), .int, .int], some (.array .byte)⟩ := by decide +kernel
theorem pd_str4_2_1 : parseMethodDescriptor "([BI)B" = some ⟨[(.array .byte), .int], some .byte⟩ := by decide +kernel
def r_str4_2 : Room := { frames := 2, cells := 1, slots := 2, locals := 35 }
def Q_str4_2 (Z : State) (a : Addr) (b : Addr) (kb : ClassId) (cs : Int32) (c0 : Int32) (c1 : Int32) (h0 : Heap) (v : Option Value) (h : Heap) : Prop := ∃ vb : Addr, ∃ k : ClassId, v = none ∧ Keep h0 h [a] ∧ Exa Z h a "java/lang/String" ∧ Fld Z h a "java/lang/String" "value" "[B" (.ref vb) ∧ Fld Z h a "java/lang/String" "coder" "B" (.int (0 : Int32)) ∧ h0.size ≤ vb ∧ oArr Z h vb k .byte [(.int (nar .byte c0)), (.int (nar .byte c1))]
set_option maxRecDepth 65536 in
set_option maxHeartbeats 40000000 in
theorem rm_str4_2 (l : Launch) (Z : State) (a0 : Array Value) (hw : oHw Z a0) (a : Addr) (b : Addr) (kb : ClassId) (cs : Int32) (c0 : Int32) (c1 : Int32) (h0 : Heap) (q0 : Exa Z h0 a "java/lang/String") (q1 : Fld Z h0 a "java/lang/String" "value" "[B" .null) (q2 : Fld Z h0 a "java/lang/String" "coder" "B" (.int (0 : Int32))) (q3 : Z.heap.size ≤ a) (q4 : oArr Z h0 b kb .char [(.int c0), (.int c1)]) (q5 : Sta Z Z.heap "java/lang/String" "COMPACT_STRINGS" "Z" (.int cs)) (q6 : ¬ (cs = (0 : Int32))) (q7 : ¬ ((255 : Int32) < c0)) (q8 : ¬ ((255 : Int32) < c1)) : oMet l Z (⟨"java/lang/String", "<init>", "([CIILjava/lang/Void;)V"⟩ : MethodName) jdk_42_method_149_code 6 none r_str4_2 [] #[(.ref a), (.ref b), (.int (0 : Int32)), (.int (2 : Int32)), .null] h0 (Q_str4_2 Z a b kb cs c0 c1 h0) [a] false := by
  refine oEnter (oEW hw) (plainFor_of_name (by first | (simp [plainName, overriddenIn]; done) | decide +kernel)) (own := "java/lang/String") (nm := "<init>") rfl rfl (L := #[.val (.ref a), .val (.ref b), .val (.int (0 : Int32)), .val (.int (2 : Int32)), .val .null, .unset]) (fun m => by first | (simp [entryFrame, mkF, argsToLocals, Value.category]; done) | rfl) ?_
  intro pp ee ss mm bb mtd cc T0 K X0
  have E0 := X0.ext0
  refine o_aloadN K X0 d_str4_2_0 (pc' := 1) rfl rfl rfl ?_
  refine o_initObj K X0 (w27 hw) (w28 hw) (w29 hw) d_str4_2_1 (pc' := 4) rfl rfl (by decide) (W := 0) rfl (by decide) ?_
  intro T1 X1
  refine o_iloadN K X1 d_str4_2_4 (pc' := 5) rfl rfl ?_
  refine o_if_ne_t K X1 d_str4_2_5 (by decide) (pc' := 27) (by decide) (by decide) ?_
  refine o_getstatic K X1 (host := "") (Or.inl (w69 hw)) Via.refl (q5.ext X1.ext0) d_str4_2_27 (pc' := 30) rfl ?_
  intro T2 X2
  refine o_if_eq_f K X2 d_str4_2_30 (pc' := 33) rfl q6 ?_
  refine o_aloadN K X2 d_str4_2_33 (pc' := 34) rfl rfl rfl ?_
  refine o_iloadN K X2 d_str4_2_34 (pc' := 35) rfl rfl ?_
  refine o_iloadN K X2 d_str4_2_35 (pc' := 36) rfl rfl ?_
  refine o_static K X2 (y := (⟨"java/lang/StringUTF16", "compress", "([CII)[B"⟩ : MethodName)) (w74 hw) (w75 hw) (w76 hw) (w77 hw) (by decide) (rm_cmp3_2 l Z a0 hw b kb c0 c1 h0 q4 q7 q8) all0 (by decide) rfl (argsL := [(.ref b), (.int (0 : Int32)), (.int (2 : Int32))]) rfl (lenOf pd_str4_2_0 rfl) (W := 0) rfl (by decide) (by decide) (by decide) d_str4_2_36 (pc' := 39) rfl ?_
  intro v3 T3 h3 FX3 U3
  obtain ⟨r_3, k_3, rfl, u3_0, u3_1, u3_2⟩ := U3
  have G3_r : Z.heap.size ≤ r_3 := Nat.le_trans (Nat.le_trans E0.1 (Nat.le_refl _)) u3_1
  have X3 := FX3 [r_3] (Or.inl rfl) (allS ⟨u3_1, u3_2.lt⟩ all0)
  show oGoes pp ee bb ss Z T3 (mkF mm 39 #[.val (.ref a), .val (.ref b), .val (.int (0 : Int32)), .val (.int (2 : Int32)), .val .null, .unset] [(.ref r_3)]) _ _ _ _
  refine o_astore K X3 d_str4_2_39 (pc' := 41) rfl rfl (L' := #[.val (.ref a), .val (.ref b), .val (.int (0 : Int32)), .val (.int (2 : Int32)), .val .null, .val (.ref r_3)]) rfl ?_
  refine o_aloadN K X3 d_str4_2_41 (pc' := 42) rfl rfl rfl ?_
  refine o_aload K X3 d_str4_2_42 (pc' := 44) rfl rfl rfl ?_
  refine o_iloadN K X3 d_str4_2_44 (pc' := 45) rfl rfl ?_
  refine o_static K X3 (y := (⟨"java/lang/StringUTF16", "coderFromArrayLen", "([BI)B"⟩ : MethodName)) (w81 hw) (w82 hw) (w76 hw) (w83 hw) (by decide) (rm_coder_2 l Z a0 hw r_3 k_3 (nar .byte c0) (nar .byte c1) h3 u3_2) all0 (by decide) rfl (argsL := [(.ref r_3), (.int (2 : Int32))]) rfl (lenOf pd_str4_2_1 rfl) (W := 1) rfl (by decide) (by decide) (by decide) d_str4_2_45 (pc' := 48) rfl ?_
  intro v4 T4 h4 FX4 U4
  obtain ⟨rfl, rfl⟩ := U4
  have X4 := FX4 [] (Or.inl rfl) all0
  show oGoes pp ee bb ss Z T4 (mkF mm 48 #[.val (.ref a), .val (.ref b), .val (.int (0 : Int32)), .val (.int (2 : Int32)), .val .null, .val (.ref r_3)] [(.int (0 : Int32)), (.ref a)]) _ _ _ _
  refine o_putfieldN K X4 (w37 hw) Via.refl (q2.keep u3_0 nin0) (q0.keep u3_0) (Or.inr ⟨(w33 hw), rfl, rfl⟩) (w17 hw) (ty := .byte) (by decide) (v' := (.int (0 : Int32))) (congrArg Value.int (by decide)) (oFitbyte (x := (0 : Int32)) (by decide)) q3 (List.mem_of_getElem? (i := 1) rfl) d_str4_2_48 (pc' := 51) rfl ?_
  intro T5 h5 X5 W5
  have F5 := Fld.same W5 (q2.keep u3_0 nin0)
  refine o_aloadN K X5 d_str4_2_51 (pc' := 52) rfl rfl rfl ?_
  refine o_aload K X5 d_str4_2_52 (pc' := 54) rfl rfl rfl ?_
  refine o_putfield K X5 (host := "") (Or.inl (w36 hw)) Via.refl (Fld.other W5 (q1.keep u3_0 nin0) (Or.inr (slot_ne (Or.inr (w32 hw)) (Or.inr (w33 hw)) (by decide) (t := (.array .byte)) (t' := .byte) (by decide) (by decide)))) (Exa.wr W5 (q0.keep u3_0)) (Or.inr ⟨(w32 hw), rfl, rfl⟩) (w17 hw) (ty := (.array .byte)) (by decide) rfl rfl q3 (List.mem_of_getElem? (i := 1) rfl) d_str4_2_54 (pc' := 57) rfl ?_
  intro T6 h6 X6 W6
  have F6 := Fld.same W6 (Fld.other W5 (q1.keep u3_0 nin0) (Or.inr (slot_ne (Or.inr (w32 hw)) (Or.inr (w33 hw)) (by decide) (t := (.array .byte)) (t' := .byte) (by decide) (by decide))))
  refine o_return K X6 d_str4_2_57 rfl ?_ (by decide) (by decide) (by decide)
  exact ⟨r_3, k_3, rfl, ((((Keep.refl h0 [a]).trans u3_0 all0).wr W5 (Or.inl (List.mem_of_getElem? (i := 0) rfl))).wr W6 (Or.inl (List.mem_of_getElem? (i := 0) rfl))), (Exa.wr W6 (Exa.wr W5 (q0.keep u3_0))), F6, (Fld.other W6 F5 (Or.inr (slot_ne (Or.inr (w33 hw)) (Or.inr (w32 hw)) (by decide) (t := .byte) (t' := (.array .byte)) (by decide) (by decide)))), u3_1, ((u3_2.other W5 (Ne.symm (Nat.ne_of_lt (Nat.lt_of_lt_of_le q0.lt u3_1)))).other W6 (Ne.symm (Nat.ne_of_lt (Nat.lt_of_lt_of_le q0.lt u3_1))))⟩
theorem d_str_2_0 : decode jdk_42_method_3_code 0 = .ok (.aload_n 0, 1) := by decide +kernel
theorem d_str_2_1 : decode jdk_42_method_3_code 1 = .ok (.aload_n 1, 1) := by decide +kernel
theorem d_str_2_2 : decode jdk_42_method_3_code 2 = .ok (.iconst 0, 1) := by decide +kernel
theorem d_str_2_3 : decode jdk_42_method_3_code 3 = .ok (.aload_n 1, 1) := by decide +kernel
theorem d_str_2_4 : decode jdk_42_method_3_code 4 = .ok (.arraylength, 1) := by decide +kernel
theorem d_str_2_5 : decode jdk_42_method_3_code 5 = .ok (.aconst_null, 1) := by decide +kernel
theorem d_str_2_6 : decode jdk_42_method_3_code 6 = .ok (.invokespecial 27, 3) := by decide +kernel
theorem d_str_2_9 : decode jdk_42_method_3_code 9 = .ok (.return_, 1) := by decide +kernel
theorem pd_str_2_0 : parseMethodDescriptor "([CIILjava/lang/Void;)V" = some ⟨[(.array .char), .int, .int, (.object "java/lang/Void")], none⟩ := by decide +kernel
def r_str_2 : Room := { frames := 3, cells := 1, slots := 2, locals := 52 }
def Q_str_2 (Z : State) (a : Addr) (b : Addr) (kb : ClassId) (cs : Int32) (c0 : Int32) (c1 : Int32) (h0 : Heap) (v : Option Value) (h : Heap) : Prop := ∃ vb : Addr, ∃ k : ClassId, v = none ∧ Keep h0 h [a] ∧ Exa Z h a "java/lang/String" ∧ Fld Z h a "java/lang/String" "value" "[B" (.ref vb) ∧ Fld Z h a "java/lang/String" "coder" "B" (.int (0 : Int32)) ∧ h0.size ≤ vb ∧ oArr Z h vb k .byte [(.int (nar .byte c0)), (.int (nar .byte c1))]
set_option maxRecDepth 65536 in
set_option maxHeartbeats 40000000 in
theorem rm_str_2 (l : Launch) (Z : State) (a0 : Array Value) (hw : oHw Z a0) (a : Addr) (b : Addr) (kb : ClassId) (cs : Int32) (c0 : Int32) (c1 : Int32) (h0 : Heap) (q0 : Exa Z h0 a "java/lang/String") (q1 : Fld Z h0 a "java/lang/String" "value" "[B" .null) (q2 : Fld Z h0 a "java/lang/String" "coder" "B" (.int (0 : Int32))) (q3 : Z.heap.size ≤ a) (q4 : oArr Z h0 b kb .char [(.int c0), (.int c1)]) (q5 : Sta Z Z.heap "java/lang/String" "COMPACT_STRINGS" "Z" (.int cs)) (q6 : ¬ (cs = (0 : Int32))) (q7 : ¬ ((255 : Int32) < c0)) (q8 : ¬ ((255 : Int32) < c1)) : oMet l Z (⟨"java/lang/String", "<init>", "([C)V"⟩ : MethodName) jdk_42_method_3_code 2 none r_str_2 [] #[(.ref a), (.ref b)] h0 (Q_str_2 Z a b kb cs c0 c1 h0) [a] false := by
  refine oEnter (oEW hw) (plainFor_of_name (by first | (simp [plainName, overriddenIn]; done) | decide +kernel)) (own := "java/lang/String") (nm := "<init>") rfl rfl (L := #[.val (.ref a), .val (.ref b)]) (fun m => by first | (simp [entryFrame, mkF, argsToLocals, Value.category]; done) | rfl) ?_
  intro pp ee ss mm bb mtd cc T0 K X0
  have E0 := X0.ext0
  refine o_aloadN K X0 d_str_2_0 (pc' := 1) rfl rfl rfl ?_
  refine o_aloadN K X0 d_str_2_1 (pc' := 2) rfl rfl rfl ?_
  refine o_iconst K X0 d_str_2_2 (pc' := 3) rfl (z := (0 : Int32)) rfl ?_
  refine o_aloadN K X0 d_str_2_3 (pc' := 4) rfl rfl rfl ?_
  refine o_arraylength K X0 q4 (z := (2 : Int32)) rfl d_str_2_4 (pc' := 5) rfl ?_
  refine o_aconst_null K X0 d_str_2_5 (pc' := 6) rfl ?_
  refine o_special K X0 (y := (⟨"java/lang/String", "<init>", "([CIILjava/lang/Void;)V"⟩ : MethodName)) rfl (w23 hw) (w24 hw) (w18 hw) (w26 hw) (by decide) (rm_str4_2 l Z a0 hw a b kb cs c0 c1 h0 q0 q1 q2 q3 q4 q5 q6 q7 q8) (allS (List.mem_of_getElem? (i := 0) rfl) all0) (by decide) rfl (argsL := [(.ref b), (.int (0 : Int32)), (.int (2 : Int32)), .null]) rfl (lenOf pd_str_2_0 rfl) (W := 0) rfl (by decide) (by decide) (by decide) d_str_2_6 (pc' := 9) rfl ?_
  intro v1 T1 h1 FX1 U1
  obtain ⟨vb_1, k_1, rfl, u1_0, u1_1, u1_2, u1_3, u1_4, u1_5⟩ := U1
  have G1_vb : Z.heap.size ≤ vb_1 := Nat.le_trans (Nat.le_trans E0.1 (Nat.le_refl _)) u1_4
  have X1 := FX1 [vb_1] (Or.inl rfl) (allS ⟨u1_4, u1_5.lt⟩ all0)
  show oGoes pp ee bb ss Z T1 (mkF mm 9 #[.val (.ref a), .val (.ref b)] []) _ _ _ _
  refine o_return K X1 d_str_2_9 rfl ?_ (by decide) (by decide) (by decide)
  exact ⟨vb_1, k_1, rfl, ((Keep.refl h0 [a]).trans u1_0 (allS (Or.inl (List.mem_of_getElem? (i := 0) rfl)) all0)), u1_1, u1_2, u1_3, u1_4, u1_5⟩
theorem d_mk_0 : decode method_6_code 0 = .ok (.iload_n 0, 1) := by decide +kernel
theorem d_mk_1 : decode method_6_code 1 = .ok (.ifCond .ne 14, 3) := by decide +kernel
theorem d_mk_4 : decode method_6_code 4 = .ok (.new 43, 3) := by decide +kernel
theorem d_mk_7 : decode method_6_code 7 = .ok (.dup, 1) := by decide +kernel
theorem d_mk_8 : decode method_6_code 8 = .ok (.iconst 0, 1) := by decide +kernel
theorem d_mk_9 : decode method_6_code 9 = .ok (.newarray .char, 2) := by decide +kernel
theorem d_mk_11 : decode method_6_code 11 = .ok (.invokespecial 45, 3) := by decide +kernel
theorem d_mk_14 : decode method_6_code 14 = .ok (.areturn, 1) := by decide +kernel
theorem d_mk_15 : decode method_6_code 15 = .ok (.iload_n 0, 1) := by decide +kernel
theorem d_mk_16 : decode method_6_code 16 = .ok (.iconst 1, 1) := by decide +kernel
theorem d_mk_17 : decode method_6_code 17 = .ok (.if_icmp .ne 18, 3) := by decide +kernel
theorem d_mk_20 : decode method_6_code 20 = .ok (.new 43, 3) := by decide +kernel
theorem d_mk_23 : decode method_6_code 23 = .ok (.dup, 1) := by decide +kernel
theorem d_mk_24 : decode method_6_code 24 = .ok (.iconst 1, 1) := by decide +kernel
theorem d_mk_25 : decode method_6_code 25 = .ok (.newarray .char, 2) := by decide +kernel
theorem d_mk_27 : decode method_6_code 27 = .ok (.dup, 1) := by decide +kernel
theorem d_mk_28 : decode method_6_code 28 = .ok (.iconst 0, 1) := by decide +kernel
theorem d_mk_29 : decode method_6_code 29 = .ok (.iload_n 1, 1) := by decide +kernel
theorem d_mk_30 : decode method_6_code 30 = .ok (.castore, 1) := by decide +kernel
theorem d_mk_31 : decode method_6_code 31 = .ok (.invokespecial 45, 3) := by decide +kernel
theorem d_mk_34 : decode method_6_code 34 = .ok (.areturn, 1) := by decide +kernel
theorem d_mk_35 : decode method_6_code 35 = .ok (.new 43, 3) := by decide +kernel
theorem d_mk_38 : decode method_6_code 38 = .ok (.dup, 1) := by decide +kernel
theorem d_mk_39 : decode method_6_code 39 = .ok (.iconst 2, 1) := by decide +kernel
theorem d_mk_40 : decode method_6_code 40 = .ok (.newarray .char, 2) := by decide +kernel
theorem d_mk_42 : decode method_6_code 42 = .ok (.dup, 1) := by decide +kernel
theorem d_mk_43 : decode method_6_code 43 = .ok (.iconst 0, 1) := by decide +kernel
theorem d_mk_44 : decode method_6_code 44 = .ok (.iload_n 1, 1) := by decide +kernel
theorem d_mk_45 : decode method_6_code 45 = .ok (.castore, 1) := by decide +kernel
theorem d_mk_46 : decode method_6_code 46 = .ok (.dup, 1) := by decide +kernel
theorem d_mk_47 : decode method_6_code 47 = .ok (.iconst 1, 1) := by decide +kernel
theorem d_mk_48 : decode method_6_code 48 = .ok (.iload_n 2, 1) := by decide +kernel
theorem d_mk_49 : decode method_6_code 49 = .ok (.castore, 1) := by decide +kernel
theorem d_mk_50 : decode method_6_code 50 = .ok (.invokespecial 45, 3) := by decide +kernel
theorem d_mk_53 : decode method_6_code 53 = .ok (.areturn, 1) := by decide +kernel
theorem pd_mk_0 : parseMethodDescriptor "([C)V" = some ⟨[(.array .char)], none⟩ := by decide +kernel
def r_mk : Room := { frames := 4, cells := 6, slots := 12, locals := 66 }
def Q_mk (Z : State) (n : Int32) (x0 : Int32) (x1 : Int32) (cs : Int32) (h0 : Heap) (v : Option Value) (h : Heap) : Prop := ∃ r : Addr, ∃ vb : Addr, ∃ k : ClassId, v = some (.ref r) ∧ Keep h0 h [] ∧ h0.size ≤ r ∧ Exa Z h r "java/lang/String" ∧ Fld Z h r "java/lang/String" "value" "[B" (.ref vb) ∧ Fld Z h r "java/lang/String" "coder" "B" (.int (0 : Int32)) ∧ oArr Z h vb k .byte (oBy n x0 x1)
set_option maxRecDepth 65536 in
set_option maxHeartbeats 40000000 in
theorem rm_mk (l : Launch) (Z : State) (a0 : Array Value) (hw : oHw Z a0) (n : Int32) (x0 : Int32) (x1 : Int32) (cs : Int32) (h0 : Heap) (q0 : Sta Z Z.heap "java/lang/String" "COMPACT_STRINGS" "Z" (.int cs)) (q1 : ¬ (cs = (0 : Int32))) (q2 : ¬ ((255 : Int32) < x0)) (q3 : ¬ ((255 : Int32) < x1)) (q4 : nar .char x0 = x0) (q5 : nar .char x1 = x1) : oMet l Z (⟨"com/example/phone_conformance_check/phoneconformancecheck/capture/PropertyEqualsPinLaw", "mk", "(ICC)Ljava/lang/String;"⟩ : MethodName) method_6_code 3 (some (.object "java/lang/String")) r_mk [] #[(.int n), (.int x0), (.int x1)] h0 (Q_mk Z n x0 x1 cs h0) [] true := by
  refine oEnter (oEW hw) (plainFor_of_name (by first | (simp [plainName, overriddenIn]; done) | decide +kernel)) (own := "com/example/phone_conformance_check/phoneconformancecheck/capture/PropertyEqualsPinLaw") (nm := "mk") rfl rfl (L := #[.val (.int n), .val (.int x0), .val (.int x1)]) (fun m => by first | (simp [entryFrame, mkF, argsToLocals, Value.category]; done) | rfl) ?_
  intro pp ee ss mm bb mtd cc T0 K X0
  have E0 := X0.ext0
  refine o_iloadN K X0 d_mk_0 (pc' := 1) rfl rfl ?_
  by_cases c1_1 : n = (0 : Int32)
  · refine o_if_ne_f K X0 d_mk_1 (pc' := 4) rfl c1_1 ?_
    refine o_new K X0 (w16 hw) (w17 hw) (w18 hw) d_mk_4 (pc' := 7) rfl (by decide) (by decide) ?_
    intro T2 h2 b2 X2 g2 E2 A2 D2 G2
    have F2_value : Fld Z h2 b2 "java/lang/String" "value" "[B" .null := (D2 (Or.inr (w32 hw)) (ty := (.array .byte)) (by decide))
    have F2_coder : Fld Z h2 b2 "java/lang/String" "coder" "B" (.int (0 : Int32)) := (D2 (Or.inr (w33 hw)) (ty := .byte) (by decide))
    refine o_dup K X2 d_mk_7 (pc' := 8) rfl rfl ?_
    refine o_iconst K X2 d_mk_8 (pc' := 9) rfl (z := (0 : Int32)) rfl ?_
    refine o_newarray K X2 (aty := .char) 0 (w19 hw) (ad := "[C") (by decide +kernel) (by decide) (by decide) (by decide) rfl d_mk_9 (pc' := 11) rfl (by decide) (by decide) ?_
    intro T3 h3 b3 k3 X3 g3 E3 A3 B3 G3
    replace A3 : oArr Z h3 b3 k3 .char [] := A3
    refine o_special K X3 (y := (⟨"java/lang/String", "<init>", "([C)V"⟩ : MethodName)) rfl (w20 hw) (w21 hw) (w18 hw) (w22 hw) (by decide) (rm_str_0 l Z a0 hw b2 b3 k3 h3 (A2.ext E3) (F2_value.ext E3) (F2_coder.ext E3) G2 A3) (allS (List.mem_of_getElem? (i := 1) rfl) all0) (by decide) rfl (argsL := [(.ref b3)]) rfl (lenOf pd_mk_0 rfl) (W := 1) rfl (by decide) (by decide) (by decide) d_mk_11 (pc' := 14) rfl ?_
    intro v4 T4 h4 FX4 U4
    obtain ⟨vb_4, k_4, rfl, u4_0, u4_1, u4_2, u4_3, u4_4⟩ := U4
    have X4 := FX4 [] (Or.inr rfl) all0
    show oGoes pp ee bb ss Z T4 (mkF mm 14 #[.val (.int n), .val (.int x0), .val (.int x1)] [(.ref b2)]) _ _ _ _
    refine o_areturn K X4 (t := (.object "java/lang/String")) d_mk_14 rfl rfl rfl ?_ (by decide) (by decide) (by decide)
    exact ⟨b2, vb_4, k_4, rfl, ((((Keep.refl h0 []).ext E2).ext E3).trans u4_0 (allS (Or.inr (Nat.le_of_eq g2.symm)) all0)), (Nat.le_of_eq g2.symm), u4_1, u4_2, u4_3, (oByC (by simp [oBy, c1_1]) u4_4)⟩
  · refine o_if_ne_t K X0 d_mk_1 (by decide) (pc' := 15) (by decide) c1_1 ?_
    refine o_iloadN K X0 d_mk_15 (pc' := 16) rfl rfl ?_
    refine o_iconst K X0 d_mk_16 (pc' := 17) rfl (z := (1 : Int32)) rfl ?_
    by_cases c17_5 : n = (1 : Int32)
    · refine o_icmp_ne_f K X0 d_mk_17 (pc' := 20) rfl c17_5 ?_
      refine o_new K X0 (w16 hw) (w17 hw) (w18 hw) d_mk_20 (pc' := 23) rfl (by decide) (by decide) ?_
      intro T6 h6 b6 X6 g6 E6 A6 D6 G6
      have F6_value : Fld Z h6 b6 "java/lang/String" "value" "[B" .null := (D6 (Or.inr (w32 hw)) (ty := (.array .byte)) (by decide))
      have F6_coder : Fld Z h6 b6 "java/lang/String" "coder" "B" (.int (0 : Int32)) := (D6 (Or.inr (w33 hw)) (ty := .byte) (by decide))
      refine o_dup K X6 d_mk_23 (pc' := 24) rfl rfl ?_
      refine o_iconst K X6 d_mk_24 (pc' := 25) rfl (z := (1 : Int32)) rfl ?_
      refine o_newarray K X6 (aty := .char) 1 (w19 hw) (ad := "[C") (by decide +kernel) (by decide) (by decide) (by decide) rfl d_mk_25 (pc' := 27) rfl (by decide) (by decide) ?_
      intro T7 h7 b7 k7 X7 g7 E7 A7 B7 G7
      replace A7 : oArr Z h7 b7 k7 .char [(.int (0 : Int32))] := A7
      refine o_dup K X7 d_mk_27 (pc' := 28) rfl rfl ?_
      refine o_iconst K X7 d_mk_28 (pc' := 29) rfl (z := (0 : Int32)) rfl ?_
      refine o_iloadN K X7 d_mk_29 (pc' := 30) rfl rfl ?_
      refine o_castore K X7 A7 (by decide) (show (0 : Int32).toNatClampNeg < 1 from (by decide)) G7 (List.mem_of_getElem? (i := 0) rfl) (z := (.int x0)) (congrArg Value.int q4) d_mk_30 (pc' := 31) rfl ?_
      intro T8 h8 X8 W8 A8
      replace A8 : oArr Z h8 b7 k7 .char [(.int x0)] := A8
      refine o_special K X8 (y := (⟨"java/lang/String", "<init>", "([C)V"⟩ : MethodName)) rfl (w20 hw) (w21 hw) (w18 hw) (w22 hw) (by decide) (rm_str_1 l Z a0 hw b6 b7 k7 cs x0 h8 (Exa.wr W8 (A6.ext E7)) (Fld.other W8 (F6_value.ext E7) (Or.inl (Nat.ne_of_lt (Nat.lt_of_lt_of_le A6.lt (Nat.le_of_eq g7.symm))))) (Fld.other W8 (F6_coder.ext E7) (Or.inl (Nat.ne_of_lt (Nat.lt_of_lt_of_le A6.lt (Nat.le_of_eq g7.symm))))) G6 A8 q0 q1 q2) (allS (List.mem_of_getElem? (i := 1) rfl) all0) (by decide) rfl (argsL := [(.ref b7)]) rfl (lenOf pd_mk_0 rfl) (W := 1) rfl (by decide) (by decide) (by decide) d_mk_31 (pc' := 34) rfl ?_
      intro v9 T9 h9 FX9 U9
      obtain ⟨vb_9, k_9, rfl, u9_0, u9_1, u9_2, u9_3, u9_4, u9_5⟩ := U9
      have G9_vb : Z.heap.size ≤ vb_9 := Nat.le_trans (Nat.le_trans E0.1 (Nat.le_trans (Nat.le_trans E6.1 E7.1) (Keep.of_wr W8).1)) u9_4
      have X9 := FX9 [vb_9] (Or.inl rfl) (allS ⟨u9_4, u9_5.lt⟩ all0)
      show oGoes pp ee bb ss Z T9 (mkF mm 34 #[.val (.int n), .val (.int x0), .val (.int x1)] [(.ref b6)]) _ _ _ _
      refine o_areturn K X9 (t := (.object "java/lang/String")) d_mk_34 rfl rfl rfl ?_ (by decide) (by decide) (by decide)
      exact ⟨b6, vb_9, k_9, rfl, (((((Keep.refl h0 []).ext E6).ext E7).wr W8 (Or.inr (Nat.le_trans E6.1 (Nat.le_of_eq g7.symm)))).trans u9_0 (allS (Or.inr (Nat.le_of_eq g6.symm)) all0)), (Nat.le_of_eq g6.symm), u9_1, u9_2, u9_3, (oByC (by simp [oBy, c1_1, c17_5]) u9_5)⟩
    · refine o_icmp_ne_t K X0 d_mk_17 (by decide) (pc' := 35) (by decide) c17_5 ?_
      refine o_new K X0 (w16 hw) (w17 hw) (w18 hw) d_mk_35 (pc' := 38) rfl (by decide) (by decide) ?_
      intro T10 h10 b10 X10 g10 E10 A10 D10 G10
      have F10_value : Fld Z h10 b10 "java/lang/String" "value" "[B" .null := (D10 (Or.inr (w32 hw)) (ty := (.array .byte)) (by decide))
      have F10_coder : Fld Z h10 b10 "java/lang/String" "coder" "B" (.int (0 : Int32)) := (D10 (Or.inr (w33 hw)) (ty := .byte) (by decide))
      refine o_dup K X10 d_mk_38 (pc' := 39) rfl rfl ?_
      refine o_iconst K X10 d_mk_39 (pc' := 40) rfl (z := (2 : Int32)) rfl ?_
      refine o_newarray K X10 (aty := .char) 2 (w19 hw) (ad := "[C") (by decide +kernel) (by decide) (by decide) (by decide) rfl d_mk_40 (pc' := 42) rfl (by decide) (by decide) ?_
      intro T11 h11 b11 k11 X11 g11 E11 A11 B11 G11
      replace A11 : oArr Z h11 b11 k11 .char [(.int (0 : Int32)), (.int (0 : Int32))] := A11
      refine o_dup K X11 d_mk_42 (pc' := 43) rfl rfl ?_
      refine o_iconst K X11 d_mk_43 (pc' := 44) rfl (z := (0 : Int32)) rfl ?_
      refine o_iloadN K X11 d_mk_44 (pc' := 45) rfl rfl ?_
      refine o_castore K X11 A11 (by decide) (show (0 : Int32).toNatClampNeg < 2 from (by decide)) G11 (List.mem_of_getElem? (i := 0) rfl) (z := (.int x0)) (congrArg Value.int q4) d_mk_45 (pc' := 46) rfl ?_
      intro T12 h12 X12 W12 A12
      replace A12 : oArr Z h12 b11 k11 .char [(.int x0), (.int (0 : Int32))] := A12
      refine o_dup K X12 d_mk_46 (pc' := 47) rfl rfl ?_
      refine o_iconst K X12 d_mk_47 (pc' := 48) rfl (z := (1 : Int32)) rfl ?_
      refine o_iloadN K X12 d_mk_48 (pc' := 49) rfl rfl ?_
      refine o_castore K X12 A12 (by decide) (show (1 : Int32).toNatClampNeg < 2 from (by decide)) G11 (List.mem_of_getElem? (i := 0) rfl) (z := (.int x1)) (congrArg Value.int q5) d_mk_49 (pc' := 50) rfl ?_
      intro T13 h13 X13 W13 A13
      replace A13 : oArr Z h13 b11 k11 .char [(.int x0), (.int x1)] := A13
      refine o_special K X13 (y := (⟨"java/lang/String", "<init>", "([C)V"⟩ : MethodName)) rfl (w20 hw) (w21 hw) (w18 hw) (w22 hw) (by decide) (rm_str_2 l Z a0 hw b10 b11 k11 cs x0 x1 h13 (Exa.wr W13 (Exa.wr W12 (A10.ext E11))) (Fld.other W13 (Fld.other W12 (F10_value.ext E11) (Or.inl (Nat.ne_of_lt (Nat.lt_of_lt_of_le A10.lt (Nat.le_of_eq g11.symm))))) (Or.inl (Nat.ne_of_lt (Nat.lt_of_lt_of_le A10.lt (Nat.le_of_eq g11.symm))))) (Fld.other W13 (Fld.other W12 (F10_coder.ext E11) (Or.inl (Nat.ne_of_lt (Nat.lt_of_lt_of_le A10.lt (Nat.le_of_eq g11.symm))))) (Or.inl (Nat.ne_of_lt (Nat.lt_of_lt_of_le A10.lt (Nat.le_of_eq g11.symm))))) G10 A13 q0 q1 q2 q3) (allS (List.mem_of_getElem? (i := 1) rfl) all0) (by decide) rfl (argsL := [(.ref b11)]) rfl (lenOf pd_mk_0 rfl) (W := 1) rfl (by decide) (by decide) (by decide) d_mk_50 (pc' := 53) rfl ?_
      intro v14 T14 h14 FX14 U14
      obtain ⟨vb_14, k_14, rfl, u14_0, u14_1, u14_2, u14_3, u14_4, u14_5⟩ := U14
      have G14_vb : Z.heap.size ≤ vb_14 := Nat.le_trans (Nat.le_trans E0.1 (Nat.le_trans (Nat.le_trans (Nat.le_trans E10.1 E11.1) (Keep.of_wr W12).1) (Keep.of_wr W13).1)) u14_4
      have X14 := FX14 [vb_14] (Or.inl rfl) (allS ⟨u14_4, u14_5.lt⟩ all0)
      show oGoes pp ee bb ss Z T14 (mkF mm 53 #[.val (.int n), .val (.int x0), .val (.int x1)] [(.ref b10)]) _ _ _ _
      refine o_areturn K X14 (t := (.object "java/lang/String")) d_mk_53 rfl rfl rfl ?_ (by decide) (by decide) (by decide)
      exact ⟨b10, vb_14, k_14, rfl, ((((((Keep.refl h0 []).ext E10).ext E11).wr W12 (Or.inr (Nat.le_trans E10.1 (Nat.le_of_eq g11.symm)))).wr W13 (Or.inr (Nat.le_trans E10.1 (Nat.le_of_eq g11.symm)))).trans u14_0 (allS (Or.inr (Nat.le_of_eq g10.symm)) all0)), (Nat.le_of_eq g10.symm), u14_1, u14_2, u14_3, (oByC (by simp [oBy, c1_1, c17_5]) u14_5)⟩
theorem d_rnn_0 : decode jdk_31_method_11_code 0 = .ok (.aload_n 0, 1) := by decide +kernel
theorem d_rnn_1 : decode jdk_31_method_11_code 1 = .ok (.ifnonnull 12, 3) := by decide +kernel
theorem d_rnn_13 : decode jdk_31_method_11_code 13 = .ok (.aload_n 0, 1) := by decide +kernel
theorem d_rnn_14 : decode jdk_31_method_11_code 14 = .ok (.areturn, 1) := by decide +kernel
def r_rnn : Room := { frames := 0, cells := 0, slots := 0, locals := 0 }
def Q_rnn (Z : State) (x : Addr) (y : Addr) (h0 : Heap) (v : Option Value) (h : Heap) : Prop := v = some (.ref x) ∧ h0 = h
set_option maxRecDepth 65536 in
set_option maxHeartbeats 40000000 in
theorem rm_rnn (l : Launch) (Z : State) (a0 : Array Value) (hw : oHw Z a0) (x : Addr) (y : Addr) (h0 : Heap) : oMet l Z (⟨"java/util/Objects", "requireNonNull", "(Ljava/lang/Object;Ljava/lang/String;)Ljava/lang/Object;"⟩ : MethodName) jdk_31_method_11_code 2 (some (.object "java/lang/Object")) r_rnn [] #[(.ref x), (.ref y)] h0 (Q_rnn Z x y h0) [] false := by
  refine oEnter (oEW hw) (plainFor_of_name (by first | (simp [plainName, overriddenIn]; done) | decide +kernel)) (own := "java/util/Objects") (nm := "requireNonNull") rfl rfl (L := #[.val (.ref x), .val (.ref y)]) (fun m => by first | (simp [entryFrame, mkF, argsToLocals, Value.category]; done) | rfl) ?_
  intro pp ee ss mm bb mtd cc T0 K X0
  have E0 := X0.ext0
  refine o_aloadN K X0 d_rnn_0 (pc' := 1) rfl rfl rfl ?_
  refine o_ifnonnull_t K X0 d_rnn_1 (by decide) (pc' := 13) (by decide) ?_
  refine o_aloadN K X0 d_rnn_13 (pc' := 14) rfl rfl rfl ?_
  refine o_areturn K X0 (t := (.object "java/lang/Object")) d_rnn_14 rfl rfl rfl ?_ (by decide) (by decide) (by decide)
  exact ⟨rfl, rfl⟩
theorem d_pinit_0 : decode prog_16_method_1_code 0 = .ok (.aload_n 0, 1) := by decide +kernel
theorem d_pinit_1 : decode prog_16_method_1_code 1 = .ok (.invokespecial 1, 3) := by decide +kernel
theorem d_pinit_4 : decode prog_16_method_1_code 4 = .ok (.aload_n 0, 1) := by decide +kernel
theorem d_pinit_5 : decode prog_16_method_1_code 5 = .ok (.aload_n 1, 1) := by decide +kernel
theorem d_pinit_6 : decode prog_16_method_1_code 6 = .ok (.ldc 7, 2) := by decide +kernel
theorem d_pinit_8 : decode prog_16_method_1_code 8 = .ok (.invokestatic 9, 3) := by decide +kernel
theorem d_pinit_11 : decode prog_16_method_1_code 11 = .ok (.checkcast 15, 3) := by decide +kernel
theorem d_pinit_14 : decode prog_16_method_1_code 14 = .ok (.putfield 17, 3) := by decide +kernel
theorem d_pinit_17 : decode prog_16_method_1_code 17 = .ok (.aload_n 0, 1) := by decide +kernel
theorem d_pinit_18 : decode prog_16_method_1_code 18 = .ok (.aload_n 2, 1) := by decide +kernel
theorem d_pinit_19 : decode prog_16_method_1_code 19 = .ok (.ldc 22, 2) := by decide +kernel
theorem d_pinit_21 : decode prog_16_method_1_code 21 = .ok (.invokestatic 9, 3) := by decide +kernel
theorem d_pinit_24 : decode prog_16_method_1_code 24 = .ok (.checkcast 15, 3) := by decide +kernel
theorem d_pinit_27 : decode prog_16_method_1_code 27 = .ok (.putfield 24, 3) := by decide +kernel
theorem d_pinit_30 : decode prog_16_method_1_code 30 = .ok (.return_, 1) := by decide +kernel
theorem pd_pinit_0 : parseMethodDescriptor "(Ljava/lang/Object;Ljava/lang/String;)Ljava/lang/Object;" = some ⟨[(.object "java/lang/Object"), (.object "java/lang/String")], some (.object "java/lang/Object")⟩ := by decide +kernel
def r_pinit : Room := { frames := 1, cells := 4, slots := 44, locals := 14 }
def Q_pinit (Z : State) (a : Addr) (x : Addr) (y : Addr) (h0 : Heap) (v : Option Value) (h : Heap) : Prop := v = none ∧ Keep h0 h [a] ∧ Exa Z h a "com/example/phone_conformance_check/phoneconformancecheck/capture/Property" ∧ Fld Z h a "com/example/phone_conformance_check/phoneconformancecheck/capture/Property" "name" "Ljava/lang/String;" (.ref x) ∧ Fld Z h a "com/example/phone_conformance_check/phoneconformancecheck/capture/Property" "value" "Ljava/lang/String;" (.ref y)
set_option maxRecDepth 65536 in
set_option maxHeartbeats 40000000 in
theorem rm_pinit (l : Launch) (Z : State) (a0 : Array Value) (hw : oHw Z a0) (a : Addr) (x : Addr) (y : Addr) (h0 : Heap) (q0 : Exa Z h0 a "com/example/phone_conformance_check/phoneconformancecheck/capture/Property") (q1 : Fld Z h0 a "com/example/phone_conformance_check/phoneconformancecheck/capture/Property" "name" "Ljava/lang/String;" .null) (q2 : Fld Z h0 a "com/example/phone_conformance_check/phoneconformancecheck/capture/Property" "value" "Ljava/lang/String;" .null) (q3 : Z.heap.size ≤ a) (q4 : Exa Z h0 x "java/lang/String") (q5 : Exa Z h0 y "java/lang/String") : oMet l Z (⟨"com/example/phone_conformance_check/phoneconformancecheck/capture/Property", "<init>", "(Ljava/lang/String;Ljava/lang/String;)V"⟩ : MethodName) prog_16_method_1_code 3 none r_pinit [] #[(.ref a), (.ref x), (.ref y)] h0 (Q_pinit Z a x y h0) [a] true := by
  refine oEnter (oEW hw) (plainFor_of_name (by first | (simp [plainName, overriddenIn]; done) | decide +kernel)) (own := "com/example/phone_conformance_check/phoneconformancecheck/capture/Property") (nm := "<init>") rfl rfl (L := #[.val (.ref a), .val (.ref x), .val (.ref y)]) (fun m => by first | (simp [entryFrame, mkF, argsToLocals, Value.category]; done) | rfl) ?_
  intro pp ee ss mm bb mtd cc T0 K X0
  have E0 := X0.ext0
  refine o_aloadN K X0 d_pinit_0 (pc' := 1) rfl rfl rfl ?_
  refine o_initObj K X0 (w41 hw) (w28 hw) (w29 hw) d_pinit_1 (pc' := 4) rfl rfl (by decide) (W := 0) rfl (by decide) ?_
  intro T1 X1
  refine o_aloadN K X1 d_pinit_4 (pc' := 5) rfl rfl rfl ?_
  refine o_aloadN K X1 d_pinit_5 (pc' := 6) rfl rfl rfl ?_
  refine o_ldcO K X1 16 (oEW hw) (w42 hw) (oSA hw) d_pinit_6 (pc' := 8) rfl (by decide) (by decide) (by decide) (by decide) ?_
  intro T2 h2 a2 X2 E2
  refine o_static K X2 (y := (⟨"java/util/Objects", "requireNonNull", "(Ljava/lang/Object;Ljava/lang/String;)Ljava/lang/Object;"⟩ : MethodName)) (w43 hw) (w44 hw) (w45 hw) (w46 hw) (by decide) (rm_rnn l Z a0 hw x a2 h2) all0 (by decide) rfl (argsL := [(.ref x), (.ref a2)]) rfl (lenOf pd_pinit_0 rfl) (W := 1) rfl (by decide) (by decide) (by decide) d_pinit_8 (pc' := 11) rfl ?_
  intro v3 T3 h3 FX3 U3
  obtain ⟨rfl, rfl⟩ := U3
  have X3 := FX3 [] (Or.inl rfl) all0
  show oGoes pp ee bb ss Z T3 (mkF mm 11 #[.val (.ref a), .val (.ref x), .val (.ref y)] [(.ref x), (.ref a)]) _ _ _ _
  refine o_checkcast K X3 (w47 hw) (Ins.self (q4.ext E2)) d_pinit_11 (pc' := 14) rfl ?_
  intro T4 X4
  refine o_putfield K X4 (host := "") (Or.inl (w48 hw)) Via.refl (q1.ext E2) (q0.ext E2) (Or.inr ⟨(w49 hw), rfl, rfl⟩) (w11 hw) (ty := (.object "java/lang/String")) (by decide) rfl rfl q3 (List.mem_of_getElem? (i := 0) rfl) d_pinit_14 (pc' := 17) rfl ?_
  intro T5 h5 X5 W5
  have F5 := Fld.same W5 (q1.ext E2)
  refine o_aloadN K X5 d_pinit_17 (pc' := 18) rfl rfl rfl ?_
  refine o_aloadN K X5 d_pinit_18 (pc' := 19) rfl rfl rfl ?_
  refine o_ldcO K X5 20 (oEW hw) (w50 hw) (oSA hw) d_pinit_19 (pc' := 21) rfl (by decide) (by decide) (by decide) (by decide) ?_
  intro T6 h6 a6 X6 E6
  refine o_static K X6 (y := (⟨"java/util/Objects", "requireNonNull", "(Ljava/lang/Object;Ljava/lang/String;)Ljava/lang/Object;"⟩ : MethodName)) (w43 hw) (w44 hw) (w45 hw) (w46 hw) (by decide) (rm_rnn l Z a0 hw y a6 h6) all0 (by decide) rfl (argsL := [(.ref y), (.ref a6)]) rfl (lenOf pd_pinit_0 rfl) (W := 1) rfl (by decide) (by decide) (by decide) d_pinit_21 (pc' := 24) rfl ?_
  intro v7 T7 h7 FX7 U7
  obtain ⟨rfl, rfl⟩ := U7
  have X7 := FX7 [] (Or.inl rfl) all0
  show oGoes pp ee bb ss Z T7 (mkF mm 24 #[.val (.ref a), .val (.ref x), .val (.ref y)] [(.ref y), (.ref a)]) _ _ _ _
  refine o_checkcast K X7 (w47 hw) (Ins.self ((Exa.wr W5 (q5.ext E2)).ext E6)) d_pinit_24 (pc' := 27) rfl ?_
  intro T8 X8
  refine o_putfield K X8 (host := "") (Or.inl (w51 hw)) Via.refl ((Fld.other W5 (q2.ext E2) (Or.inr (slot_ne (Or.inr (w52 hw)) (Or.inr (w49 hw)) (by decide) (t := (.object "java/lang/String")) (t' := (.object "java/lang/String")) (by decide) (by decide)))).ext E6) ((Exa.wr W5 (q0.ext E2)).ext E6) (Or.inr ⟨(w52 hw), rfl, rfl⟩) (w11 hw) (ty := (.object "java/lang/String")) (by decide) rfl rfl q3 (List.mem_of_getElem? (i := 0) rfl) d_pinit_27 (pc' := 30) rfl ?_
  intro T9 h9 X9 W9
  have F9 := Fld.same W9 ((Fld.other W5 (q2.ext E2) (Or.inr (slot_ne (Or.inr (w52 hw)) (Or.inr (w49 hw)) (by decide) (t := (.object "java/lang/String")) (t' := (.object "java/lang/String")) (by decide) (by decide)))).ext E6)
  refine o_return K X9 d_pinit_30 rfl ?_ (by decide) (by decide) (by decide)
  exact ⟨rfl, (((((Keep.refl h0 [a]).ext E2).wr W5 (Or.inl (List.mem_of_getElem? (i := 0) rfl))).ext E6).wr W9 (Or.inl (List.mem_of_getElem? (i := 0) rfl))), (Exa.wr W9 ((Exa.wr W5 (q0.ext E2)).ext E6)), (Fld.other W9 (F5.ext E6) (Or.inr (slot_ne (Or.inr (w49 hw)) (Or.inr (w52 hw)) (by decide) (t := (.object "java/lang/String")) (t' := (.object "java/lang/String")) (by decide) (by decide)))), F9⟩
theorem d_same_0 : decode method_7_code 0 = .ok (.iload_n 0, 1) := by decide +kernel
theorem d_same_1 : decode method_7_code 1 = .ok (.iload_n 3, 1) := by decide +kernel
theorem d_same_2 : decode method_7_code 2 = .ok (.if_icmp .ne 29, 3) := by decide +kernel
theorem d_same_5 : decode method_7_code 5 = .ok (.iload_n 0, 1) := by decide +kernel
theorem d_same_6 : decode method_7_code 6 = .ok (.iconst 1, 1) := by decide +kernel
theorem d_same_7 : decode method_7_code 7 = .ok (.if_icmp .lt 9, 3) := by decide +kernel
theorem d_same_10 : decode method_7_code 10 = .ok (.iload_n 1, 1) := by decide +kernel
theorem d_same_11 : decode method_7_code 11 = .ok (.iload 4, 2) := by decide +kernel
theorem d_same_13 : decode method_7_code 13 = .ok (.if_icmp .ne 18, 3) := by decide +kernel
theorem d_same_16 : decode method_7_code 16 = .ok (.iload_n 0, 1) := by decide +kernel
theorem d_same_17 : decode method_7_code 17 = .ok (.iconst 2, 1) := by decide +kernel
theorem d_same_18 : decode method_7_code 18 = .ok (.if_icmp .lt 9, 3) := by decide +kernel
theorem d_same_21 : decode method_7_code 21 = .ok (.iload_n 2, 1) := by decide +kernel
theorem d_same_22 : decode method_7_code 22 = .ok (.iload 5, 2) := by decide +kernel
theorem d_same_24 : decode method_7_code 24 = .ok (.if_icmp .ne 7, 3) := by decide +kernel
theorem d_same_27 : decode method_7_code 27 = .ok (.iconst 1, 1) := by decide +kernel
theorem d_same_28 : decode method_7_code 28 = .ok (.goto 4, 3) := by decide +kernel
theorem d_same_31 : decode method_7_code 31 = .ok (.iconst 0, 1) := by decide +kernel
theorem d_same_32 : decode method_7_code 32 = .ok (.ireturn, 1) := by decide +kernel
def r_same : Room := { frames := 0, cells := 0, slots := 0, locals := 0 }
def Q_same (Z : State) (n : Int32) (x0 : Int32) (x1 : Int32) (m : Int32) (y0 : Int32) (y1 : Int32) (h0 : Heap) (v : Option Value) (h : Heap) : Prop := v = some (.int (oSm n x0 x1 m y0 y1)) ∧ h0 = h
set_option maxRecDepth 65536 in
set_option maxHeartbeats 40000000 in
theorem rm_same (l : Launch) (Z : State) (a0 : Array Value) (hw : oHw Z a0) (n : Int32) (x0 : Int32) (x1 : Int32) (m : Int32) (y0 : Int32) (y1 : Int32) (h0 : Heap) : oMet l Z (⟨"com/example/phone_conformance_check/phoneconformancecheck/capture/PropertyEqualsPinLaw", "same", "(ICCICC)Z"⟩ : MethodName) method_7_code 6 (some .boolean) r_same [] #[(.int n), (.int x0), (.int x1), (.int m), (.int y0), (.int y1)] h0 (Q_same Z n x0 x1 m y0 y1 h0) [] false := by
  refine oEnter (oEW hw) (plainFor_of_name (by first | (simp [plainName, overriddenIn]; done) | decide +kernel)) (own := "com/example/phone_conformance_check/phoneconformancecheck/capture/PropertyEqualsPinLaw") (nm := "same") rfl rfl (L := #[.val (.int n), .val (.int x0), .val (.int x1), .val (.int m), .val (.int y0), .val (.int y1)]) (fun m => by first | (simp [entryFrame, mkF, argsToLocals, Value.category]; done) | rfl) ?_
  intro pp ee ss mm bb mtd cc T0 K X0
  have E0 := X0.ext0
  refine o_iloadN K X0 d_same_0 (pc' := 1) rfl rfl ?_
  refine o_iloadN K X0 d_same_1 (pc' := 2) rfl rfl ?_
  by_cases c2_1 : n = m
  · refine o_icmp_ne_f K X0 d_same_2 (pc' := 5) rfl c2_1 ?_
    refine o_iloadN K X0 d_same_5 (pc' := 6) rfl rfl ?_
    refine o_iconst K X0 d_same_6 (pc' := 7) rfl (z := (1 : Int32)) rfl ?_
    by_cases c7_2 : n < (1 : Int32)
    · refine o_icmp_lt_t K X0 d_same_7 (by decide) (pc' := 16) (by decide) c7_2 ?_
      refine o_iloadN K X0 d_same_16 (pc' := 17) rfl rfl ?_
      refine o_iconst K X0 d_same_17 (pc' := 18) rfl (z := (2 : Int32)) rfl ?_
      by_cases c18_3 : n < (2 : Int32)
      · refine o_icmp_lt_t K X0 d_same_18 (by decide) (pc' := 27) (by decide) c18_3 ?_
        refine o_iconst K X0 d_same_27 (pc' := 28) rfl (z := (1 : Int32)) rfl ?_
        refine o_goto K X0 d_same_28 (by decide) (pc' := 32) (by decide) ?_
        refine o_ireturnN K X0 .boolean d_same_32 rfl (by simp) (z' := (1 : Int32)) (by decide) ?_ (by decide) (by decide) (by decide)
        exact ⟨(congrArg (fun z => some (Value.int z)) (if_pos ⟨c2_1, Or.inl c7_2, Or.inl c18_3⟩).symm), rfl⟩
      · refine o_icmp_lt_f K X0 d_same_18 (pc' := 21) rfl c18_3 ?_
        refine o_iloadN K X0 d_same_21 (pc' := 22) rfl rfl ?_
        refine o_iload K X0 d_same_22 (pc' := 24) rfl rfl ?_
        by_cases c24_4 : x1 = y1
        · refine o_icmp_ne_f K X0 d_same_24 (pc' := 27) rfl c24_4 ?_
          refine o_iconst K X0 d_same_27 (pc' := 28) rfl (z := (1 : Int32)) rfl ?_
          refine o_goto K X0 d_same_28 (by decide) (pc' := 32) (by decide) ?_
          refine o_ireturnN K X0 .boolean d_same_32 rfl (by simp) (z' := (1 : Int32)) (by decide) ?_ (by decide) (by decide) (by decide)
          exact ⟨(congrArg (fun z => some (Value.int z)) (if_pos ⟨c2_1, Or.inl c7_2, Or.inr c24_4⟩).symm), rfl⟩
        · refine o_icmp_ne_t K X0 d_same_24 (by decide) (pc' := 31) (by decide) c24_4 ?_
          refine o_iconst K X0 d_same_31 (pc' := 32) rfl (z := (0 : Int32)) rfl ?_
          refine o_ireturnN K X0 .boolean d_same_32 rfl (by simp) (z' := (0 : Int32)) (by decide) ?_ (by decide) (by decide) (by decide)
          exact ⟨(congrArg (fun z => some (Value.int z)) (if_neg fun q => q.2.2.elim c18_3 c24_4).symm), rfl⟩
    · refine o_icmp_lt_f K X0 d_same_7 (pc' := 10) rfl c7_2 ?_
      refine o_iloadN K X0 d_same_10 (pc' := 11) rfl rfl ?_
      refine o_iload K X0 d_same_11 (pc' := 13) rfl rfl ?_
      by_cases c13_5 : x0 = y0
      · refine o_icmp_ne_f K X0 d_same_13 (pc' := 16) rfl c13_5 ?_
        refine o_iloadN K X0 d_same_16 (pc' := 17) rfl rfl ?_
        refine o_iconst K X0 d_same_17 (pc' := 18) rfl (z := (2 : Int32)) rfl ?_
        by_cases c18_6 : n < (2 : Int32)
        · refine o_icmp_lt_t K X0 d_same_18 (by decide) (pc' := 27) (by decide) c18_6 ?_
          refine o_iconst K X0 d_same_27 (pc' := 28) rfl (z := (1 : Int32)) rfl ?_
          refine o_goto K X0 d_same_28 (by decide) (pc' := 32) (by decide) ?_
          refine o_ireturnN K X0 .boolean d_same_32 rfl (by simp) (z' := (1 : Int32)) (by decide) ?_ (by decide) (by decide) (by decide)
          exact ⟨(congrArg (fun z => some (Value.int z)) (if_pos ⟨c2_1, Or.inr c13_5, Or.inl c18_6⟩).symm), rfl⟩
        · refine o_icmp_lt_f K X0 d_same_18 (pc' := 21) rfl c18_6 ?_
          refine o_iloadN K X0 d_same_21 (pc' := 22) rfl rfl ?_
          refine o_iload K X0 d_same_22 (pc' := 24) rfl rfl ?_
          by_cases c24_7 : x1 = y1
          · refine o_icmp_ne_f K X0 d_same_24 (pc' := 27) rfl c24_7 ?_
            refine o_iconst K X0 d_same_27 (pc' := 28) rfl (z := (1 : Int32)) rfl ?_
            refine o_goto K X0 d_same_28 (by decide) (pc' := 32) (by decide) ?_
            refine o_ireturnN K X0 .boolean d_same_32 rfl (by simp) (z' := (1 : Int32)) (by decide) ?_ (by decide) (by decide) (by decide)
            exact ⟨(congrArg (fun z => some (Value.int z)) (if_pos ⟨c2_1, Or.inr c13_5, Or.inr c24_7⟩).symm), rfl⟩
          · refine o_icmp_ne_t K X0 d_same_24 (by decide) (pc' := 31) (by decide) c24_7 ?_
            refine o_iconst K X0 d_same_31 (pc' := 32) rfl (z := (0 : Int32)) rfl ?_
            refine o_ireturnN K X0 .boolean d_same_32 rfl (by simp) (z' := (0 : Int32)) (by decide) ?_ (by decide) (by decide) (by decide)
            exact ⟨(congrArg (fun z => some (Value.int z)) (if_neg fun q => q.2.2.elim c18_6 c24_7).symm), rfl⟩
      · refine o_icmp_ne_t K X0 d_same_13 (by decide) (pc' := 31) (by decide) c13_5 ?_
        refine o_iconst K X0 d_same_31 (pc' := 32) rfl (z := (0 : Int32)) rfl ?_
        refine o_ireturnN K X0 .boolean d_same_32 rfl (by simp) (z' := (0 : Int32)) (by decide) ?_ (by decide) (by decide) (by decide)
        exact ⟨(congrArg (fun z => some (Value.int z)) (if_neg fun q => q.2.1.elim c7_2 c13_5).symm), rfl⟩
  · refine o_icmp_ne_t K X0 d_same_2 (by decide) (pc' := 31) (by decide) c2_1 ?_
    refine o_iconst K X0 d_same_31 (pc' := 32) rfl (z := (0 : Int32)) rfl ?_
    refine o_ireturnN K X0 .boolean d_same_32 rfl (by simp) (z' := (0 : Int32)) (by decide) ?_ (by decide) (by decide) (by decide)
    exact ⟨(congrArg (fun z => some (Value.int z)) (if_neg fun q => c2_1 q.1).symm), rfl⟩
theorem d_lateq_0 : decode jdk_43_method_13_code 0 = .ok (.aload_n 0, 1) := by decide +kernel
theorem d_lateq_1 : decode jdk_43_method_13_code 1 = .ok (.arraylength, 1) := by decide +kernel
theorem d_lateq_2 : decode jdk_43_method_13_code 2 = .ok (.aload_n 1, 1) := by decide +kernel
theorem d_lateq_3 : decode jdk_43_method_13_code 3 = .ok (.arraylength, 1) := by decide +kernel
theorem d_lateq_4 : decode jdk_43_method_13_code 4 = .ok (.if_icmp .ne 30, 3) := by decide +kernel
theorem d_lateq_7 : decode jdk_43_method_13_code 7 = .ok (.iconst 0, 1) := by decide +kernel
theorem d_lateq_8 : decode jdk_43_method_13_code 8 = .ok (.istore_n 2, 1) := by decide +kernel
theorem d_lateq_9 : decode jdk_43_method_13_code 9 = .ok (.iload_n 2, 1) := by decide +kernel
theorem d_lateq_10 : decode jdk_43_method_13_code 10 = .ok (.aload_n 0, 1) := by decide +kernel
theorem d_lateq_11 : decode jdk_43_method_13_code 11 = .ok (.arraylength, 1) := by decide +kernel
theorem d_lateq_12 : decode jdk_43_method_13_code 12 = .ok (.if_icmp .ge 20, 3) := by decide +kernel
theorem d_lateq_15 : decode jdk_43_method_13_code 15 = .ok (.aload_n 0, 1) := by decide +kernel
theorem d_lateq_16 : decode jdk_43_method_13_code 16 = .ok (.iload_n 2, 1) := by decide +kernel
theorem d_lateq_17 : decode jdk_43_method_13_code 17 = .ok (.baload, 1) := by decide +kernel
theorem d_lateq_18 : decode jdk_43_method_13_code 18 = .ok (.aload_n 1, 1) := by decide +kernel
theorem d_lateq_19 : decode jdk_43_method_13_code 19 = .ok (.iload_n 2, 1) := by decide +kernel
theorem d_lateq_20 : decode jdk_43_method_13_code 20 = .ok (.baload, 1) := by decide +kernel
theorem d_lateq_21 : decode jdk_43_method_13_code 21 = .ok (.if_icmp .eq 5, 3) := by decide +kernel
theorem d_lateq_24 : decode jdk_43_method_13_code 24 = .ok (.iconst 0, 1) := by decide +kernel
theorem d_lateq_25 : decode jdk_43_method_13_code 25 = .ok (.ireturn, 1) := by decide +kernel
theorem d_lateq_26 : decode jdk_43_method_13_code 26 = .ok (.iinc 2 1, 3) := by decide +kernel
theorem d_lateq_29 : decode jdk_43_method_13_code 29 = .ok (.goto (-20), 3) := by decide +kernel
theorem d_lateq_32 : decode jdk_43_method_13_code 32 = .ok (.iconst 1, 1) := by decide +kernel
theorem d_lateq_33 : decode jdk_43_method_13_code 33 = .ok (.ireturn, 1) := by decide +kernel
theorem d_lateq_34 : decode jdk_43_method_13_code 34 = .ok (.iconst 0, 1) := by decide +kernel
theorem d_lateq_35 : decode jdk_43_method_13_code 35 = .ok (.ireturn, 1) := by decide +kernel
def r_lateq : Room := { frames := 0, cells := 0, slots := 0, locals := 0 }
def Q_lateq (Z : State) (a : Addr) (b : Addr) (ka : ClassId) (kb : ClassId) (n : Int32) (x0 : Int32) (x1 : Int32) (m : Int32) (y0 : Int32) (y1 : Int32) (h0 : Heap) (v : Option Value) (h : Heap) : Prop := v = some (.int (oSm n x0 x1 m y0 y1)) ∧ h0 = h
set_option maxRecDepth 65536 in
set_option maxHeartbeats 40000000 in
theorem rm_lateq (l : Launch) (Z : State) (a0 : Array Value) (hw : oHw Z a0) (a : Addr) (b : Addr) (ka : ClassId) (kb : ClassId) (n : Int32) (x0 : Int32) (x1 : Int32) (m : Int32) (y0 : Int32) (y1 : Int32) (h0 : Heap) (q0 : oArr Z h0 a ka .byte (oBy n x0 x1)) (q1 : oArr Z h0 b kb .byte (oBy m y0 y1)) (q2 : oL n) (q3 : oL m) (q4 : oCh x0) (q5 : oCh x1) (q6 : oCh y0) (q7 : oCh y1) : oMet l Z (⟨"java/lang/StringLatin1", "equals", "([B[B)Z"⟩ : MethodName) jdk_43_method_13_code 3 (some .boolean) r_lateq [] #[(.ref a), (.ref b)] h0 (Q_lateq Z a b ka kb n x0 x1 m y0 y1 h0) [] false := by
  refine oEnter (oEW hw) (plainFor_of_name (by first | (simp [plainName, overriddenIn]; done) | decide +kernel)) (own := "java/lang/StringLatin1") (nm := "equals") rfl rfl (L := #[.val (.ref a), .val (.ref b), .unset]) (fun m => by first | (simp [entryFrame, mkF, argsToLocals, Value.category]; done) | rfl) ?_
  intro pp ee ss mm bb mtd cc T0 K X0
  have E0 := X0.ext0
  rcases q2 with rfl | rfl | rfl <;> rcases q3 with rfl | rfl | rfl
  · have q0' : oArr Z h0 a ka .byte [] := oByD (oBy0 _ _) q0
    have q1' : oArr Z h0 b kb .byte [] := oByD (oBy0 _ _) q1
    refine o_aloadN K X0 d_lateq_0 (pc' := 1) rfl rfl rfl ?_
    refine o_arraylength K X0 q0' (z := (0 : Int32)) rfl d_lateq_1 (pc' := 2) rfl ?_
    refine o_aloadN K X0 d_lateq_2 (pc' := 3) rfl rfl rfl ?_
    refine o_arraylength K X0 q1' (z := (0 : Int32)) rfl d_lateq_3 (pc' := 4) rfl ?_
    refine o_icmp_ne_f K X0 d_lateq_4 (pc' := 7) rfl (by decide) ?_
    refine o_iconst K X0 d_lateq_7 (pc' := 8) rfl (z := (0 : Int32)) rfl ?_
    refine o_istoreN K X0 d_lateq_8 (pc' := 9) rfl (L' := #[.val (.ref a), .val (.ref b), .val (.int (0 : Int32))]) rfl ?_
    refine o_iloadN K X0 d_lateq_9 (pc' := 10) rfl rfl ?_
    refine o_aloadN K X0 d_lateq_10 (pc' := 11) rfl rfl rfl ?_
    refine o_arraylength K X0 q0' (z := (0 : Int32)) rfl d_lateq_11 (pc' := 12) rfl ?_
    refine o_icmp_ge_t K X0 d_lateq_12 (by decide) (pc' := 32) (by decide) (by decide) ?_
    refine o_iconst K X0 d_lateq_32 (pc' := 33) rfl (z := (1 : Int32)) rfl ?_
    refine o_ireturnN K X0 .boolean d_lateq_33 rfl (by simp) (z' := (1 : Int32)) (by decide) ?_ (by decide) (by decide) (by decide)
    exact ⟨(by simp +decide [oSm]), rfl⟩
  · have q0' : oArr Z h0 a ka .byte [] := oByD (oBy0 _ _) q0
    have q1' : oArr Z h0 b kb .byte [(.int (nar .byte y0))] := oByD (oBy1 _ _) q1
    refine o_aloadN K X0 d_lateq_0 (pc' := 1) rfl rfl rfl ?_
    refine o_arraylength K X0 q0' (z := (0 : Int32)) rfl d_lateq_1 (pc' := 2) rfl ?_
    refine o_aloadN K X0 d_lateq_2 (pc' := 3) rfl rfl rfl ?_
    refine o_arraylength K X0 q1' (z := (1 : Int32)) rfl d_lateq_3 (pc' := 4) rfl ?_
    refine o_icmp_ne_t K X0 d_lateq_4 (by decide) (pc' := 34) (by decide) (by decide) ?_
    refine o_iconst K X0 d_lateq_34 (pc' := 35) rfl (z := (0 : Int32)) rfl ?_
    refine o_ireturnN K X0 .boolean d_lateq_35 rfl (by simp) (z' := (0 : Int32)) (by decide) ?_ (by decide) (by decide) (by decide)
    exact ⟨(by simp +decide [oSm]), rfl⟩
  · have q0' : oArr Z h0 a ka .byte [] := oByD (oBy0 _ _) q0
    have q1' : oArr Z h0 b kb .byte [(.int (nar .byte y0)), (.int (nar .byte y1))] := oByD (oBy2 _ _) q1
    refine o_aloadN K X0 d_lateq_0 (pc' := 1) rfl rfl rfl ?_
    refine o_arraylength K X0 q0' (z := (0 : Int32)) rfl d_lateq_1 (pc' := 2) rfl ?_
    refine o_aloadN K X0 d_lateq_2 (pc' := 3) rfl rfl rfl ?_
    refine o_arraylength K X0 q1' (z := (2 : Int32)) rfl d_lateq_3 (pc' := 4) rfl ?_
    refine o_icmp_ne_t K X0 d_lateq_4 (by decide) (pc' := 34) (by decide) (by decide) ?_
    refine o_iconst K X0 d_lateq_34 (pc' := 35) rfl (z := (0 : Int32)) rfl ?_
    refine o_ireturnN K X0 .boolean d_lateq_35 rfl (by simp) (z' := (0 : Int32)) (by decide) ?_ (by decide) (by decide) (by decide)
    exact ⟨(by simp +decide [oSm]), rfl⟩
  · have q0' : oArr Z h0 a ka .byte [(.int (nar .byte x0))] := oByD (oBy1 _ _) q0
    have q1' : oArr Z h0 b kb .byte [] := oByD (oBy0 _ _) q1
    refine o_aloadN K X0 d_lateq_0 (pc' := 1) rfl rfl rfl ?_
    refine o_arraylength K X0 q0' (z := (1 : Int32)) rfl d_lateq_1 (pc' := 2) rfl ?_
    refine o_aloadN K X0 d_lateq_2 (pc' := 3) rfl rfl rfl ?_
    refine o_arraylength K X0 q1' (z := (0 : Int32)) rfl d_lateq_3 (pc' := 4) rfl ?_
    refine o_icmp_ne_t K X0 d_lateq_4 (by decide) (pc' := 34) (by decide) (by decide) ?_
    refine o_iconst K X0 d_lateq_34 (pc' := 35) rfl (z := (0 : Int32)) rfl ?_
    refine o_ireturnN K X0 .boolean d_lateq_35 rfl (by simp) (z' := (0 : Int32)) (by decide) ?_ (by decide) (by decide) (by decide)
    exact ⟨(by simp +decide [oSm]), rfl⟩
  · have q0' : oArr Z h0 a ka .byte [(.int (nar .byte x0))] := oByD (oBy1 _ _) q0
    have q1' : oArr Z h0 b kb .byte [(.int (nar .byte y0))] := oByD (oBy1 _ _) q1
    refine o_aloadN K X0 d_lateq_0 (pc' := 1) rfl rfl rfl ?_
    refine o_arraylength K X0 q0' (z := (1 : Int32)) rfl d_lateq_1 (pc' := 2) rfl ?_
    refine o_aloadN K X0 d_lateq_2 (pc' := 3) rfl rfl rfl ?_
    refine o_arraylength K X0 q1' (z := (1 : Int32)) rfl d_lateq_3 (pc' := 4) rfl ?_
    refine o_icmp_ne_f K X0 d_lateq_4 (pc' := 7) rfl (by decide) ?_
    refine o_iconst K X0 d_lateq_7 (pc' := 8) rfl (z := (0 : Int32)) rfl ?_
    refine o_istoreN K X0 d_lateq_8 (pc' := 9) rfl (L' := #[.val (.ref a), .val (.ref b), .val (.int (0 : Int32))]) rfl ?_
    refine o_iloadN K X0 d_lateq_9 (pc' := 10) rfl rfl ?_
    refine o_aloadN K X0 d_lateq_10 (pc' := 11) rfl rfl rfl ?_
    refine o_arraylength K X0 q0' (z := (1 : Int32)) rfl d_lateq_11 (pc' := 12) rfl ?_
    refine o_icmp_ge_f K X0 d_lateq_12 (pc' := 15) rfl (by decide) ?_
    refine o_aloadN K X0 d_lateq_15 (pc' := 16) rfl rfl rfl ?_
    refine o_iloadN K X0 d_lateq_16 (pc' := 17) rfl rfl ?_
    refine o_baload K X0 q0' (by decide) (v := (.int (nar .byte x0))) rfl d_lateq_17 (pc' := 18) rfl ?_
    refine o_aloadN K X0 d_lateq_18 (pc' := 19) rfl rfl rfl ?_
    refine o_iloadN K X0 d_lateq_19 (pc' := 20) rfl rfl ?_
    refine o_baload K X0 q1' (by decide) (v := (.int (nar .byte y0))) rfl d_lateq_20 (pc' := 21) rfl ?_
    by_cases c21_1 : (nar .byte x0) = (nar .byte y0)
    · refine o_icmp_eq_t K X0 d_lateq_21 (by decide) (pc' := 26) (by decide) c21_1 ?_
      refine o_iinc K X0 d_lateq_26 (pc' := 29) rfl rfl (L' := #[.val (.ref a), .val (.ref b), .val (.int (1 : Int32))]) (by rw [show (0 : Int32) + Int32.ofInt 1 = (1 : Int32) from (by decide)]; rfl) ?_
      refine o_goto K X0 d_lateq_29 (by decide) (pc' := 9) (by decide) ?_
      refine o_iloadN K X0 d_lateq_9 (pc' := 10) rfl rfl ?_
      refine o_aloadN K X0 d_lateq_10 (pc' := 11) rfl rfl rfl ?_
      refine o_arraylength K X0 q0' (z := (1 : Int32)) rfl d_lateq_11 (pc' := 12) rfl ?_
      refine o_icmp_ge_t K X0 d_lateq_12 (by decide) (pc' := 32) (by decide) (by decide) ?_
      refine o_iconst K X0 d_lateq_32 (pc' := 33) rfl (z := (1 : Int32)) rfl ?_
      refine o_ireturnN K X0 .boolean d_lateq_33 rfl (by simp) (z' := (1 : Int32)) (by decide) ?_ (by decide) (by decide) (by decide)
      exact ⟨(by simp +decide [oSm, (oNarEq q4 q6).mp c21_1]), rfl⟩
    · refine o_icmp_eq_f K X0 d_lateq_21 (pc' := 24) rfl c21_1 ?_
      refine o_iconst K X0 d_lateq_24 (pc' := 25) rfl (z := (0 : Int32)) rfl ?_
      refine o_ireturnN K X0 .boolean d_lateq_25 rfl (by simp) (z' := (0 : Int32)) (by decide) ?_ (by decide) (by decide) (by decide)
      exact ⟨(by simp +decide [oSm, mt (oNarEq q4 q6).mpr c21_1]), rfl⟩
  · have q0' : oArr Z h0 a ka .byte [(.int (nar .byte x0))] := oByD (oBy1 _ _) q0
    have q1' : oArr Z h0 b kb .byte [(.int (nar .byte y0)), (.int (nar .byte y1))] := oByD (oBy2 _ _) q1
    refine o_aloadN K X0 d_lateq_0 (pc' := 1) rfl rfl rfl ?_
    refine o_arraylength K X0 q0' (z := (1 : Int32)) rfl d_lateq_1 (pc' := 2) rfl ?_
    refine o_aloadN K X0 d_lateq_2 (pc' := 3) rfl rfl rfl ?_
    refine o_arraylength K X0 q1' (z := (2 : Int32)) rfl d_lateq_3 (pc' := 4) rfl ?_
    refine o_icmp_ne_t K X0 d_lateq_4 (by decide) (pc' := 34) (by decide) (by decide) ?_
    refine o_iconst K X0 d_lateq_34 (pc' := 35) rfl (z := (0 : Int32)) rfl ?_
    refine o_ireturnN K X0 .boolean d_lateq_35 rfl (by simp) (z' := (0 : Int32)) (by decide) ?_ (by decide) (by decide) (by decide)
    exact ⟨(by simp +decide [oSm]), rfl⟩
  · have q0' : oArr Z h0 a ka .byte [(.int (nar .byte x0)), (.int (nar .byte x1))] := oByD (oBy2 _ _) q0
    have q1' : oArr Z h0 b kb .byte [] := oByD (oBy0 _ _) q1
    refine o_aloadN K X0 d_lateq_0 (pc' := 1) rfl rfl rfl ?_
    refine o_arraylength K X0 q0' (z := (2 : Int32)) rfl d_lateq_1 (pc' := 2) rfl ?_
    refine o_aloadN K X0 d_lateq_2 (pc' := 3) rfl rfl rfl ?_
    refine o_arraylength K X0 q1' (z := (0 : Int32)) rfl d_lateq_3 (pc' := 4) rfl ?_
    refine o_icmp_ne_t K X0 d_lateq_4 (by decide) (pc' := 34) (by decide) (by decide) ?_
    refine o_iconst K X0 d_lateq_34 (pc' := 35) rfl (z := (0 : Int32)) rfl ?_
    refine o_ireturnN K X0 .boolean d_lateq_35 rfl (by simp) (z' := (0 : Int32)) (by decide) ?_ (by decide) (by decide) (by decide)
    exact ⟨(by simp +decide [oSm]), rfl⟩
  · have q0' : oArr Z h0 a ka .byte [(.int (nar .byte x0)), (.int (nar .byte x1))] := oByD (oBy2 _ _) q0
    have q1' : oArr Z h0 b kb .byte [(.int (nar .byte y0))] := oByD (oBy1 _ _) q1
    refine o_aloadN K X0 d_lateq_0 (pc' := 1) rfl rfl rfl ?_
    refine o_arraylength K X0 q0' (z := (2 : Int32)) rfl d_lateq_1 (pc' := 2) rfl ?_
    refine o_aloadN K X0 d_lateq_2 (pc' := 3) rfl rfl rfl ?_
    refine o_arraylength K X0 q1' (z := (1 : Int32)) rfl d_lateq_3 (pc' := 4) rfl ?_
    refine o_icmp_ne_t K X0 d_lateq_4 (by decide) (pc' := 34) (by decide) (by decide) ?_
    refine o_iconst K X0 d_lateq_34 (pc' := 35) rfl (z := (0 : Int32)) rfl ?_
    refine o_ireturnN K X0 .boolean d_lateq_35 rfl (by simp) (z' := (0 : Int32)) (by decide) ?_ (by decide) (by decide) (by decide)
    exact ⟨(by simp +decide [oSm]), rfl⟩
  · have q0' : oArr Z h0 a ka .byte [(.int (nar .byte x0)), (.int (nar .byte x1))] := oByD (oBy2 _ _) q0
    have q1' : oArr Z h0 b kb .byte [(.int (nar .byte y0)), (.int (nar .byte y1))] := oByD (oBy2 _ _) q1
    refine o_aloadN K X0 d_lateq_0 (pc' := 1) rfl rfl rfl ?_
    refine o_arraylength K X0 q0' (z := (2 : Int32)) rfl d_lateq_1 (pc' := 2) rfl ?_
    refine o_aloadN K X0 d_lateq_2 (pc' := 3) rfl rfl rfl ?_
    refine o_arraylength K X0 q1' (z := (2 : Int32)) rfl d_lateq_3 (pc' := 4) rfl ?_
    refine o_icmp_ne_f K X0 d_lateq_4 (pc' := 7) rfl (by decide) ?_
    refine o_iconst K X0 d_lateq_7 (pc' := 8) rfl (z := (0 : Int32)) rfl ?_
    refine o_istoreN K X0 d_lateq_8 (pc' := 9) rfl (L' := #[.val (.ref a), .val (.ref b), .val (.int (0 : Int32))]) rfl ?_
    refine o_iloadN K X0 d_lateq_9 (pc' := 10) rfl rfl ?_
    refine o_aloadN K X0 d_lateq_10 (pc' := 11) rfl rfl rfl ?_
    refine o_arraylength K X0 q0' (z := (2 : Int32)) rfl d_lateq_11 (pc' := 12) rfl ?_
    refine o_icmp_ge_f K X0 d_lateq_12 (pc' := 15) rfl (by decide) ?_
    refine o_aloadN K X0 d_lateq_15 (pc' := 16) rfl rfl rfl ?_
    refine o_iloadN K X0 d_lateq_16 (pc' := 17) rfl rfl ?_
    refine o_baload K X0 q0' (by decide) (v := (.int (nar .byte x0))) rfl d_lateq_17 (pc' := 18) rfl ?_
    refine o_aloadN K X0 d_lateq_18 (pc' := 19) rfl rfl rfl ?_
    refine o_iloadN K X0 d_lateq_19 (pc' := 20) rfl rfl ?_
    refine o_baload K X0 q1' (by decide) (v := (.int (nar .byte y0))) rfl d_lateq_20 (pc' := 21) rfl ?_
    by_cases c21_2 : (nar .byte x0) = (nar .byte y0)
    · refine o_icmp_eq_t K X0 d_lateq_21 (by decide) (pc' := 26) (by decide) c21_2 ?_
      refine o_iinc K X0 d_lateq_26 (pc' := 29) rfl rfl (L' := #[.val (.ref a), .val (.ref b), .val (.int (1 : Int32))]) (by rw [show (0 : Int32) + Int32.ofInt 1 = (1 : Int32) from (by decide)]; rfl) ?_
      refine o_goto K X0 d_lateq_29 (by decide) (pc' := 9) (by decide) ?_
      refine o_iloadN K X0 d_lateq_9 (pc' := 10) rfl rfl ?_
      refine o_aloadN K X0 d_lateq_10 (pc' := 11) rfl rfl rfl ?_
      refine o_arraylength K X0 q0' (z := (2 : Int32)) rfl d_lateq_11 (pc' := 12) rfl ?_
      refine o_icmp_ge_f K X0 d_lateq_12 (pc' := 15) rfl (by decide) ?_
      refine o_aloadN K X0 d_lateq_15 (pc' := 16) rfl rfl rfl ?_
      refine o_iloadN K X0 d_lateq_16 (pc' := 17) rfl rfl ?_
      refine o_baload K X0 q0' (by decide) (v := (.int (nar .byte x1))) rfl d_lateq_17 (pc' := 18) rfl ?_
      refine o_aloadN K X0 d_lateq_18 (pc' := 19) rfl rfl rfl ?_
      refine o_iloadN K X0 d_lateq_19 (pc' := 20) rfl rfl ?_
      refine o_baload K X0 q1' (by decide) (v := (.int (nar .byte y1))) rfl d_lateq_20 (pc' := 21) rfl ?_
      by_cases c21_3 : (nar .byte x1) = (nar .byte y1)
      · refine o_icmp_eq_t K X0 d_lateq_21 (by decide) (pc' := 26) (by decide) c21_3 ?_
        refine o_iinc K X0 d_lateq_26 (pc' := 29) rfl rfl (L' := #[.val (.ref a), .val (.ref b), .val (.int (2 : Int32))]) (by rw [show (1 : Int32) + Int32.ofInt 1 = (2 : Int32) from (by decide)]; rfl) ?_
        refine o_goto K X0 d_lateq_29 (by decide) (pc' := 9) (by decide) ?_
        refine o_iloadN K X0 d_lateq_9 (pc' := 10) rfl rfl ?_
        refine o_aloadN K X0 d_lateq_10 (pc' := 11) rfl rfl rfl ?_
        refine o_arraylength K X0 q0' (z := (2 : Int32)) rfl d_lateq_11 (pc' := 12) rfl ?_
        refine o_icmp_ge_t K X0 d_lateq_12 (by decide) (pc' := 32) (by decide) (by decide) ?_
        refine o_iconst K X0 d_lateq_32 (pc' := 33) rfl (z := (1 : Int32)) rfl ?_
        refine o_ireturnN K X0 .boolean d_lateq_33 rfl (by simp) (z' := (1 : Int32)) (by decide) ?_ (by decide) (by decide) (by decide)
        exact ⟨(by simp +decide [oSm, (oNarEq q4 q6).mp c21_2, (oNarEq q5 q7).mp c21_3]), rfl⟩
      · refine o_icmp_eq_f K X0 d_lateq_21 (pc' := 24) rfl c21_3 ?_
        refine o_iconst K X0 d_lateq_24 (pc' := 25) rfl (z := (0 : Int32)) rfl ?_
        refine o_ireturnN K X0 .boolean d_lateq_25 rfl (by simp) (z' := (0 : Int32)) (by decide) ?_ (by decide) (by decide) (by decide)
        exact ⟨(by simp +decide [oSm, (oNarEq q4 q6).mp c21_2, mt (oNarEq q5 q7).mpr c21_3]), rfl⟩
    · refine o_icmp_eq_f K X0 d_lateq_21 (pc' := 24) rfl c21_2 ?_
      refine o_iconst K X0 d_lateq_24 (pc' := 25) rfl (z := (0 : Int32)) rfl ?_
      refine o_ireturnN K X0 .boolean d_lateq_25 rfl (by simp) (z' := (0 : Int32)) (by decide) ?_ (by decide) (by decide) (by decide)
      exact ⟨(by simp +decide [oSm, mt (oNarEq q4 q6).mpr c21_2]), rfl⟩
theorem d_strself_0 : decode jdk_42_method_66_code 0 = .ok (.aload_n 0, 1) := by decide +kernel
theorem d_strself_1 : decode jdk_42_method_66_code 1 = .ok (.aload_n 1, 1) := by decide +kernel
theorem d_strself_2 : decode jdk_42_method_66_code 2 = .ok (.if_acmp .ne 5, 3) := by decide +kernel
theorem d_strself_5 : decode jdk_42_method_66_code 5 = .ok (.iconst 1, 1) := by decide +kernel
theorem d_strself_6 : decode jdk_42_method_66_code 6 = .ok (.ireturn, 1) := by decide +kernel
def r_strself : Room := { frames := 0, cells := 0, slots := 0, locals := 0 }
def Q_strself (Z : State) (a : Addr) (h0 : Heap) (v : Option Value) (h : Heap) : Prop := v = some (.int (1 : Int32)) ∧ h0 = h
set_option maxRecDepth 65536 in
set_option maxHeartbeats 40000000 in
theorem rm_strself (l : Launch) (Z : State) (a0 : Array Value) (hw : oHw Z a0) (a : Addr) (h0 : Heap) : oMet l Z (⟨"java/lang/String", "equals", "(Ljava/lang/Object;)Z"⟩ : MethodName) jdk_42_method_66_code 3 (some .boolean) r_strself [] #[(.ref a), (.ref a)] h0 (Q_strself Z a h0) [] false := by
  refine oEnter (oEW hw) (plainFor_of_name (by first | (simp [plainName, overriddenIn]; done) | decide +kernel)) (own := "java/lang/String") (nm := "equals") rfl rfl (L := #[.val (.ref a), .val (.ref a), .unset]) (fun m => by first | (simp [entryFrame, mkF, argsToLocals, Value.category]; done) | rfl) ?_
  intro pp ee ss mm bb mtd cc T0 K X0
  have E0 := X0.ext0
  refine o_aloadN K X0 d_strself_0 (pc' := 1) rfl rfl rfl ?_
  refine o_aloadN K X0 d_strself_1 (pc' := 2) rfl rfl rfl ?_
  refine o_acmp K X0 true d_strself_2 (by decide) rfl rfl (decide_eq_true rfl) (pc' := 5) (by decide) ?_
  refine o_iconst K X0 d_strself_5 (pc' := 6) rfl (z := (1 : Int32)) rfl ?_
  refine o_ireturnN K X0 .boolean d_strself_6 rfl (by simp) (z' := (1 : Int32)) (by decide) ?_ (by decide) (by decide) (by decide)
  exact ⟨rfl, rfl⟩
theorem d_streq_0 : decode jdk_42_method_66_code 0 = .ok (.aload_n 0, 1) := by decide +kernel
theorem d_streq_1 : decode jdk_42_method_66_code 1 = .ok (.aload_n 1, 1) := by decide +kernel
theorem d_streq_2 : decode jdk_42_method_66_code 2 = .ok (.if_acmp .ne 5, 3) := by decide +kernel
theorem d_streq_7 : decode jdk_42_method_66_code 7 = .ok (.aload_n 1, 1) := by decide +kernel
theorem d_streq_8 : decode jdk_42_method_66_code 8 = .ok (.instanceof 10, 3) := by decide +kernel
theorem d_streq_11 : decode jdk_42_method_66_code 11 = .ok (.ifCond .eq 43, 3) := by decide +kernel
theorem d_streq_14 : decode jdk_42_method_66_code 14 = .ok (.aload_n 1, 1) := by decide +kernel
theorem d_streq_15 : decode jdk_42_method_66_code 15 = .ok (.checkcast 10, 3) := by decide +kernel
theorem d_streq_18 : decode jdk_42_method_66_code 18 = .ok (.astore_n 2, 1) := by decide +kernel
theorem d_streq_19 : decode jdk_42_method_66_code 19 = .ok (.getstatic 38, 3) := by decide +kernel
theorem d_streq_22 : decode jdk_42_method_66_code 22 = .ok (.ifCond .eq 14, 3) := by decide +kernel
theorem d_streq_25 : decode jdk_42_method_66_code 25 = .ok (.aload_n 0, 1) := by decide +kernel
theorem d_streq_26 : decode jdk_42_method_66_code 26 = .ok (.getfield 15, 3) := by decide +kernel
theorem d_streq_29 : decode jdk_42_method_66_code 29 = .ok (.aload_n 2, 1) := by decide +kernel
theorem d_streq_30 : decode jdk_42_method_66_code 30 = .ok (.getfield 15, 3) := by decide +kernel
theorem d_streq_33 : decode jdk_42_method_66_code 33 = .ok (.if_icmp .ne 21, 3) := by decide +kernel
theorem d_streq_36 : decode jdk_42_method_66_code 36 = .ok (.aload_n 0, 1) := by decide +kernel
theorem d_streq_37 : decode jdk_42_method_66_code 37 = .ok (.getfield 9, 3) := by decide +kernel
theorem d_streq_40 : decode jdk_42_method_66_code 40 = .ok (.aload_n 2, 1) := by decide +kernel
theorem d_streq_41 : decode jdk_42_method_66_code 41 = .ok (.getfield 9, 3) := by decide +kernel
theorem d_streq_44 : decode jdk_42_method_66_code 44 = .ok (.invokestatic 541, 3) := by decide +kernel
theorem d_streq_47 : decode jdk_42_method_66_code 47 = .ok (.ifCond .eq 7, 3) := by decide +kernel
theorem d_streq_50 : decode jdk_42_method_66_code 50 = .ok (.iconst 1, 1) := by decide +kernel
theorem d_streq_51 : decode jdk_42_method_66_code 51 = .ok (.goto 4, 3) := by decide +kernel
theorem d_streq_54 : decode jdk_42_method_66_code 54 = .ok (.iconst 0, 1) := by decide +kernel
theorem d_streq_55 : decode jdk_42_method_66_code 55 = .ok (.ireturn, 1) := by decide +kernel
theorem pd_streq_0 : parseMethodDescriptor "([B[B)Z" = some ⟨[(.array .byte), (.array .byte)], some .boolean⟩ := by decide +kernel
def r_streq : Room := { frames := 1, cells := 0, slots := 0, locals := 14 }
def Q_streq (Z : State) (a : Addr) (o : Addr) (va : Addr) (vo : Addr) (ka : ClassId) (ko : ClassId) (n : Int32) (x0 : Int32) (x1 : Int32) (m : Int32) (y0 : Int32) (y1 : Int32) (cs : Int32) (h0 : Heap) (v : Option Value) (h : Heap) : Prop := v = some (.int (oSm n x0 x1 m y0 y1)) ∧ h0 = h
set_option maxRecDepth 65536 in
set_option maxHeartbeats 40000000 in
theorem rm_streq (l : Launch) (Z : State) (a0 : Array Value) (hw : oHw Z a0) (a : Addr) (o : Addr) (va : Addr) (vo : Addr) (ka : ClassId) (ko : ClassId) (n : Int32) (x0 : Int32) (x1 : Int32) (m : Int32) (y0 : Int32) (y1 : Int32) (cs : Int32) (h0 : Heap) (q0 : Exa Z h0 a "java/lang/String") (q1 : Fld Z h0 a "java/lang/String" "value" "[B" (.ref va)) (q2 : Fld Z h0 a "java/lang/String" "coder" "B" (.int (0 : Int32))) (q3 : oArr Z h0 va ka .byte (oBy n x0 x1)) (q4 : Exa Z h0 o "java/lang/String") (q5 : Fld Z h0 o "java/lang/String" "value" "[B" (.ref vo)) (q6 : Fld Z h0 o "java/lang/String" "coder" "B" (.int (0 : Int32))) (q7 : oArr Z h0 vo ko .byte (oBy m y0 y1)) (q8 : a ≠ o) (q9 : oL n) (q10 : oL m) (q11 : oCh x0) (q12 : oCh x1) (q13 : oCh y0) (q14 : oCh y1) (q15 : Sta Z Z.heap "java/lang/String" "COMPACT_STRINGS" "Z" (.int cs)) (q16 : ¬ (cs = (0 : Int32))) : oMet l Z (⟨"java/lang/String", "equals", "(Ljava/lang/Object;)Z"⟩ : MethodName) jdk_42_method_66_code 3 (some .boolean) r_streq [] #[(.ref a), (.ref o)] h0 (Q_streq Z a o va vo ka ko n x0 x1 m y0 y1 cs h0) [] false := by
  refine oEnter (oEW hw) (plainFor_of_name (by first | (simp [plainName, overriddenIn]; done) | decide +kernel)) (own := "java/lang/String") (nm := "equals") rfl rfl (L := #[.val (.ref a), .val (.ref o), .unset]) (fun m => by first | (simp [entryFrame, mkF, argsToLocals, Value.category]; done) | rfl) ?_
  intro pp ee ss mm bb mtd cc T0 K X0
  have E0 := X0.ext0
  refine o_aloadN K X0 d_streq_0 (pc' := 1) rfl rfl rfl ?_
  refine o_aloadN K X0 d_streq_1 (pc' := 2) rfl rfl rfl ?_
  refine o_acmp K X0 false d_streq_2 (by decide) rfl rfl (decide_eq_false fun q => q8 (Value.ref.inj q)) (pc' := 7) (by decide) ?_
  refine o_aloadN K X0 d_streq_7 (pc' := 8) rfl rfl rfl ?_
  refine o_instanceof K X0 (w68 hw) (Ins.self q4) d_streq_8 (pc' := 11) rfl ?_
  intro T1 X1
  refine o_if_eq_f K X1 d_streq_11 (pc' := 14) rfl (by decide) ?_
  refine o_aloadN K X1 d_streq_14 (pc' := 15) rfl rfl rfl ?_
  refine o_checkcast K X1 (w68 hw) (Ins.self q4) d_streq_15 (pc' := 18) rfl ?_
  intro T2 X2
  refine o_astoreN K X2 d_streq_18 (pc' := 19) rfl rfl (L' := #[.val (.ref a), .val (.ref o), .val (.ref o)]) rfl ?_
  refine o_getstatic K X2 (host := "") (Or.inl (w69 hw)) Via.refl (q15.ext X2.ext0) d_streq_19 (pc' := 22) rfl ?_
  intro T3 X3
  refine o_if_eq_f K X3 d_streq_22 (pc' := 25) rfl q16 ?_
  refine o_aloadN K X3 d_streq_25 (pc' := 26) rfl rfl rfl ?_
  refine o_getfield K X3 (host := "") (Or.inl (w37 hw)) Via.refl q2 d_streq_26 (pc' := 29) rfl ?_
  intro T4 X4
  refine o_aloadN K X4 d_streq_29 (pc' := 30) rfl rfl rfl ?_
  refine o_getfield K X4 (host := "") (Or.inl (w37 hw)) Via.refl q6 d_streq_30 (pc' := 33) rfl ?_
  intro T5 X5
  refine o_icmp_ne_f K X5 d_streq_33 (pc' := 36) rfl (by decide) ?_
  refine o_aloadN K X5 d_streq_36 (pc' := 37) rfl rfl rfl ?_
  refine o_getfield K X5 (host := "") (Or.inl (w36 hw)) Via.refl q1 d_streq_37 (pc' := 40) rfl ?_
  intro T6 X6
  refine o_aloadN K X6 d_streq_40 (pc' := 41) rfl rfl rfl ?_
  refine o_getfield K X6 (host := "") (Or.inl (w36 hw)) Via.refl q5 d_streq_41 (pc' := 44) rfl ?_
  intro T7 X7
  refine o_static K X7 (y := (⟨"java/lang/StringLatin1", "equals", "([B[B)Z"⟩ : MethodName)) (w70 hw) (w71 hw) (w72 hw) (w73 hw) (by decide) (rm_lateq l Z a0 hw va vo ka ko n x0 x1 m y0 y1 h0 q3 q7 q9 q10 q11 q12 q13 q14) all0 (by decide) rfl (argsL := [(.ref va), (.ref vo)]) rfl (lenOf pd_streq_0 rfl) (W := 0) rfl (by decide) (by decide) (by decide) d_streq_44 (pc' := 47) rfl ?_
  intro v8 T8 h8 FX8 U8
  obtain ⟨rfl, rfl⟩ := U8
  have X8 := FX8 [] (Or.inl rfl) all0
  show oGoes pp ee bb ss Z T8 (mkF mm 47 #[.val (.ref a), .val (.ref o), .val (.ref o)] [(.int (oSm n x0 x1 m y0 y1))]) _ _ _ _
  by_cases c47_9 : (oSm n x0 x1 m y0 y1) = (0 : Int32)
  · refine o_if_eq_t K X8 d_streq_47 (by decide) (pc' := 54) (by decide) c47_9 ?_
    refine o_iconst K X8 d_streq_54 (pc' := 55) rfl (z := (0 : Int32)) rfl ?_
    refine o_ireturnN K X8 .boolean d_streq_55 rfl (by simp) (z' := (0 : Int32)) (by decide) ?_ (by decide) (by decide) (by decide)
    exact ⟨(congrArg (fun z => some (Value.int z)) c47_9.symm), rfl⟩
  · refine o_if_eq_f K X8 d_streq_47 (pc' := 50) rfl c47_9 ?_
    refine o_iconst K X8 d_streq_50 (pc' := 51) rfl (z := (1 : Int32)) rfl ?_
    refine o_goto K X8 d_streq_51 (by decide) (pc' := 55) (by decide) ?_
    refine o_ireturnN K X8 .boolean d_streq_55 rfl (by simp) (z' := (1 : Int32)) (by decide) ?_ (by decide) (by decide) (by decide)
    exact ⟨(congrArg (fun z => some (Value.int z)) (oSm1 c47_9).symm), rfl⟩
theorem d_peqnull_0 : decode prog_16_method_7_code 0 = .ok (.aload_n 1, 1) := by decide +kernel
theorem d_peqnull_1 : decode prog_16_method_7_code 1 = .ok (.instanceof 18, 3) := by decide +kernel
theorem d_peqnull_4 : decode prog_16_method_7_code 4 = .ok (.ifCond .eq 11, 3) := by decide +kernel
theorem d_peqnull_15 : decode prog_16_method_7_code 15 = .ok (.iconst 0, 1) := by decide +kernel
theorem d_peqnull_16 : decode prog_16_method_7_code 16 = .ok (.ireturn, 1) := by decide +kernel
def r_peqnull : Room := { frames := 0, cells := 0, slots := 0, locals := 0 }
def Q_peqnull (Z : State) (a : Addr) (h0 : Heap) (v : Option Value) (h : Heap) : Prop := v = some (.int (0 : Int32)) ∧ h0 = h
set_option maxRecDepth 65536 in
set_option maxHeartbeats 40000000 in
theorem rm_peqnull (l : Launch) (Z : State) (a0 : Array Value) (hw : oHw Z a0) (a : Addr) (h0 : Heap) : oMet l Z (⟨"com/example/phone_conformance_check/phoneconformancecheck/capture/Property", "equals", "(Ljava/lang/Object;)Z"⟩ : MethodName) prog_16_method_7_code 3 (some .boolean) r_peqnull [] #[(.ref a), .null] h0 (Q_peqnull Z a h0) [] false := by
  refine oEnter (oEW hw) (plainFor_of_name (by first | (simp [plainName, overriddenIn]; done) | decide +kernel)) (own := "com/example/phone_conformance_check/phoneconformancecheck/capture/Property") (nm := "equals") rfl rfl (L := #[.val (.ref a), .val .null, .unset]) (fun m => by first | (simp [entryFrame, mkF, argsToLocals, Value.category]; done) | rfl) ?_
  intro pp ee ss mm bb mtd cc T0 K X0
  have E0 := X0.ext0
  refine o_aloadN K X0 d_peqnull_0 (pc' := 1) rfl rfl rfl ?_
  refine o_instanceofNull K X0 d_peqnull_1 (pc' := 4) rfl ?_
  refine o_if_eq_t K X0 d_peqnull_4 (by decide) (pc' := 15) (by decide) (by decide) ?_
  refine o_iconst K X0 d_peqnull_15 (pc' := 16) rfl (z := (0 : Int32)) rfl ?_
  refine o_ireturnN K X0 .boolean d_peqnull_16 rfl (by simp) (z' := (0 : Int32)) (by decide) ?_ (by decide) (by decide) (by decide)
  exact ⟨rfl, rfl⟩
theorem d_peqint_0 : decode prog_16_method_7_code 0 = .ok (.aload_n 1, 1) := by decide +kernel
theorem d_peqint_1 : decode prog_16_method_7_code 1 = .ok (.instanceof 18, 3) := by decide +kernel
theorem d_peqint_4 : decode prog_16_method_7_code 4 = .ok (.ifCond .eq 11, 3) := by decide +kernel
theorem d_peqint_15 : decode prog_16_method_7_code 15 = .ok (.iconst 0, 1) := by decide +kernel
theorem d_peqint_16 : decode prog_16_method_7_code 16 = .ok (.ireturn, 1) := by decide +kernel
def r_peqint : Room := { frames := 0, cells := 0, slots := 0, locals := 0 }
def Q_peqint (Z : State) (a : Addr) (o : Addr) (h0 : Heap) (v : Option Value) (h : Heap) : Prop := v = some (.int (0 : Int32)) ∧ h0 = h
set_option maxRecDepth 65536 in
set_option maxHeartbeats 40000000 in
theorem rm_peqint (l : Launch) (Z : State) (a0 : Array Value) (hw : oHw Z a0) (a : Addr) (o : Addr) (h0 : Heap) (q0 : Exa Z h0 o "java/lang/Integer") : oMet l Z (⟨"com/example/phone_conformance_check/phoneconformancecheck/capture/Property", "equals", "(Ljava/lang/Object;)Z"⟩ : MethodName) prog_16_method_7_code 3 (some .boolean) r_peqint [] #[(.ref a), (.ref o)] h0 (Q_peqint Z a o h0) [] false := by
  refine oEnter (oEW hw) (plainFor_of_name (by first | (simp [plainName, overriddenIn]; done) | decide +kernel)) (own := "com/example/phone_conformance_check/phoneconformancecheck/capture/Property") (nm := "equals") rfl rfl (L := #[.val (.ref a), .val (.ref o), .unset]) (fun m => by first | (simp [entryFrame, mkF, argsToLocals, Value.category]; done) | rfl) ?_
  intro pp ee ss mm bb mtd cc T0 K X0
  have E0 := X0.ext0
  refine o_aloadN K X0 d_peqint_0 (pc' := 1) rfl rfl rfl ?_
  refine o_instanceofNo K X0 (w61 hw) q0 (oNSno (w91 hw) (w11 hw) (NS.step (w91 hw) (NS.step (w92 hw) (oNSroot (w93 hw) (w11 hw) (by decide)) (by decide)) (by decide)) (by decide)) d_peqint_1 (pc' := 4) rfl ?_
  intro T1 X1
  refine o_if_eq_t K X1 d_peqint_4 (by decide) (pc' := 15) (by decide) (by decide) ?_
  refine o_iconst K X1 d_peqint_15 (pc' := 16) rfl (z := (0 : Int32)) rfl ?_
  refine o_ireturnN K X1 .boolean d_peqint_16 rfl (by simp) (z' := (0 : Int32)) (by decide) ?_ (by decide) (by decide) (by decide)
  exact ⟨rfl, rfl⟩
theorem d_peqstr_0 : decode prog_16_method_7_code 0 = .ok (.aload_n 1, 1) := by decide +kernel
theorem d_peqstr_1 : decode prog_16_method_7_code 1 = .ok (.instanceof 18, 3) := by decide +kernel
theorem d_peqstr_4 : decode prog_16_method_7_code 4 = .ok (.ifCond .eq 11, 3) := by decide +kernel
theorem d_peqstr_15 : decode prog_16_method_7_code 15 = .ok (.iconst 0, 1) := by decide +kernel
theorem d_peqstr_16 : decode prog_16_method_7_code 16 = .ok (.ireturn, 1) := by decide +kernel
def r_peqstr : Room := { frames := 0, cells := 0, slots := 0, locals := 0 }
def Q_peqstr (Z : State) (a : Addr) (o : Addr) (h0 : Heap) (v : Option Value) (h : Heap) : Prop := v = some (.int (0 : Int32)) ∧ h0 = h
set_option maxRecDepth 65536 in
set_option maxHeartbeats 40000000 in
theorem rm_peqstr (l : Launch) (Z : State) (a0 : Array Value) (hw : oHw Z a0) (a : Addr) (o : Addr) (h0 : Heap) (q0 : Exa Z h0 o "java/lang/String") : oMet l Z (⟨"com/example/phone_conformance_check/phoneconformancecheck/capture/Property", "equals", "(Ljava/lang/Object;)Z"⟩ : MethodName) prog_16_method_7_code 3 (some .boolean) r_peqstr [] #[(.ref a), (.ref o)] h0 (Q_peqstr Z a o h0) [] false := by
  refine oEnter (oEW hw) (plainFor_of_name (by first | (simp [plainName, overriddenIn]; done) | decide +kernel)) (own := "com/example/phone_conformance_check/phoneconformancecheck/capture/Property") (nm := "equals") rfl rfl (L := #[.val (.ref a), .val (.ref o), .unset]) (fun m => by first | (simp [entryFrame, mkF, argsToLocals, Value.category]; done) | rfl) ?_
  intro pp ee ss mm bb mtd cc T0 K X0
  have E0 := X0.ext0
  refine o_aloadN K X0 d_peqstr_0 (pc' := 1) rfl rfl rfl ?_
  refine o_instanceofNo K X0 (w61 hw) q0 (oNSno (w94 hw) (w11 hw) (NS.step (w94 hw) (oNSroot (w93 hw) (w11 hw) (by decide)) (by decide)) (by decide)) d_peqstr_1 (pc' := 4) rfl ?_
  intro T1 X1
  refine o_if_eq_t K X1 d_peqstr_4 (by decide) (pc' := 15) (by decide) (by decide) ?_
  refine o_iconst K X1 d_peqstr_15 (pc' := 16) rfl (z := (0 : Int32)) rfl ?_
  refine o_ireturnN K X1 .boolean d_peqstr_16 rfl (by simp) (z' := (0 : Int32)) (by decide) ?_ (by decide) (by decide) (by decide)
  exact ⟨rfl, rfl⟩
theorem d_peqself_0 : decode prog_16_method_7_code 0 = .ok (.aload_n 1, 1) := by decide +kernel
theorem d_peqself_1 : decode prog_16_method_7_code 1 = .ok (.instanceof 18, 3) := by decide +kernel
theorem d_peqself_4 : decode prog_16_method_7_code 4 = .ok (.ifCond .eq 11, 3) := by decide +kernel
theorem d_peqself_7 : decode prog_16_method_7_code 7 = .ok (.aload_n 1, 1) := by decide +kernel
theorem d_peqself_8 : decode prog_16_method_7_code 8 = .ok (.checkcast 18, 3) := by decide +kernel
theorem d_peqself_11 : decode prog_16_method_7_code 11 = .ok (.astore_n 2, 1) := by decide +kernel
theorem d_peqself_12 : decode prog_16_method_7_code 12 = .ok (.goto 5, 3) := by decide +kernel
theorem d_peqself_17 : decode prog_16_method_7_code 17 = .ok (.aload_n 0, 1) := by decide +kernel
theorem d_peqself_18 : decode prog_16_method_7_code 18 = .ok (.getfield 17, 3) := by decide +kernel
theorem d_peqself_21 : decode prog_16_method_7_code 21 = .ok (.aload_n 2, 1) := by decide +kernel
theorem d_peqself_22 : decode prog_16_method_7_code 22 = .ok (.getfield 17, 3) := by decide +kernel
theorem d_peqself_25 : decode prog_16_method_7_code 25 = .ok (.invokevirtual 54, 3) := by decide +kernel
theorem d_peqself_28 : decode prog_16_method_7_code 28 = .ok (.ifCond .eq 21, 3) := by decide +kernel
theorem d_peqself_31 : decode prog_16_method_7_code 31 = .ok (.aload_n 0, 1) := by decide +kernel
theorem d_peqself_32 : decode prog_16_method_7_code 32 = .ok (.getfield 24, 3) := by decide +kernel
theorem d_peqself_35 : decode prog_16_method_7_code 35 = .ok (.aload_n 2, 1) := by decide +kernel
theorem d_peqself_36 : decode prog_16_method_7_code 36 = .ok (.getfield 24, 3) := by decide +kernel
theorem d_peqself_39 : decode prog_16_method_7_code 39 = .ok (.invokevirtual 54, 3) := by decide +kernel
theorem d_peqself_42 : decode prog_16_method_7_code 42 = .ok (.ifCond .eq 7, 3) := by decide +kernel
theorem d_peqself_45 : decode prog_16_method_7_code 45 = .ok (.iconst 1, 1) := by decide +kernel
theorem d_peqself_46 : decode prog_16_method_7_code 46 = .ok (.goto 4, 3) := by decide +kernel
theorem d_peqself_50 : decode prog_16_method_7_code 50 = .ok (.ireturn, 1) := by decide +kernel
theorem pd_peqself_0 : parseMethodDescriptor "(Ljava/lang/Object;)Z" = some ⟨[(.object "java/lang/Object")], some .boolean⟩ := by decide +kernel
def r_peqself : Room := { frames := 1, cells := 0, slots := 0, locals := 14 }
def Q_peqself (Z : State) (a : Addr) (r : Addr) (t : Addr) (h0 : Heap) (v : Option Value) (h : Heap) : Prop := v = some (.int (1 : Int32)) ∧ h0 = h
set_option maxRecDepth 65536 in
set_option maxHeartbeats 40000000 in
theorem rm_peqself (l : Launch) (Z : State) (a0 : Array Value) (hw : oHw Z a0) (a : Addr) (r : Addr) (t : Addr) (h0 : Heap) (q0 : Exa Z h0 a "com/example/phone_conformance_check/phoneconformancecheck/capture/Property") (q1 : Fld Z h0 a "com/example/phone_conformance_check/phoneconformancecheck/capture/Property" "name" "Ljava/lang/String;" (.ref r)) (q2 : Fld Z h0 a "com/example/phone_conformance_check/phoneconformancecheck/capture/Property" "value" "Ljava/lang/String;" (.ref t)) (q3 : Exa Z h0 r "java/lang/String") (q4 : Exa Z h0 t "java/lang/String") : oMet l Z (⟨"com/example/phone_conformance_check/phoneconformancecheck/capture/Property", "equals", "(Ljava/lang/Object;)Z"⟩ : MethodName) prog_16_method_7_code 3 (some .boolean) r_peqself [] #[(.ref a), (.ref a)] h0 (Q_peqself Z a r t h0) [] false := by
  refine oEnter (oEW hw) (plainFor_of_name (by first | (simp [plainName, overriddenIn]; done) | decide +kernel)) (own := "com/example/phone_conformance_check/phoneconformancecheck/capture/Property") (nm := "equals") rfl rfl (L := #[.val (.ref a), .val (.ref a), .unset]) (fun m => by first | (simp [entryFrame, mkF, argsToLocals, Value.category]; done) | rfl) ?_
  intro pp ee ss mm bb mtd cc T0 K X0
  have E0 := X0.ext0
  refine o_aloadN K X0 d_peqself_0 (pc' := 1) rfl rfl rfl ?_
  refine o_instanceof K X0 (w61 hw) (Ins.self q0) d_peqself_1 (pc' := 4) rfl ?_
  intro T1 X1
  refine o_if_eq_f K X1 d_peqself_4 (pc' := 7) rfl (by decide) ?_
  refine o_aloadN K X1 d_peqself_7 (pc' := 8) rfl rfl rfl ?_
  refine o_checkcast K X1 (w61 hw) (Ins.self q0) d_peqself_8 (pc' := 11) rfl ?_
  intro T2 X2
  refine o_astoreN K X2 d_peqself_11 (pc' := 12) rfl rfl (L' := #[.val (.ref a), .val (.ref a), .val (.ref a)]) rfl ?_
  refine o_goto K X2 d_peqself_12 (by decide) (pc' := 17) (by decide) ?_
  refine o_aloadN K X2 d_peqself_17 (pc' := 18) rfl rfl rfl ?_
  refine o_getfield K X2 (host := "") (Or.inl (w48 hw)) Via.refl q1 d_peqself_18 (pc' := 21) rfl ?_
  intro T3 X3
  refine o_aloadN K X3 d_peqself_21 (pc' := 22) rfl rfl rfl ?_
  refine o_getfield K X3 (host := "") (Or.inl (w48 hw)) Via.refl q1 d_peqself_22 (pc' := 25) rfl ?_
  intro T4 X4
  refine o_virtual K X4 (y := (⟨"java/lang/String", "equals", "(Ljava/lang/Object;)Z"⟩ : MethodName)) (z := (⟨"java/lang/String", "equals", "(Ljava/lang/Object;)Z"⟩ : MethodName)) (w63 hw) (w64 hw) (fun _ q => notFace_of_selects (args := #[]) (mvT q (w66 hw))) (w66 hw) (w65 hw) (w18 hw) (w67 hw) (by decide) q3 (rm_strself l Z a0 hw r h0) all0 (by decide) rfl (argsL := [(.ref r)]) rfl (lenOf pd_peqself_0 rfl) (W := 0) rfl (by decide) (by decide) (by decide) d_peqself_25 (pc' := 28) rfl ?_
  intro v5 T5 h5 FX5 U5
  obtain ⟨rfl, rfl⟩ := U5
  have X5 := FX5 [] (Or.inl rfl) all0
  show oGoes pp ee bb ss Z T5 (mkF mm 28 #[.val (.ref a), .val (.ref a), .val (.ref a)] [(.int (1 : Int32))]) _ _ _ _
  refine o_if_eq_f K X5 d_peqself_28 (pc' := 31) rfl (by decide) ?_
  refine o_aloadN K X5 d_peqself_31 (pc' := 32) rfl rfl rfl ?_
  refine o_getfield K X5 (host := "") (Or.inl (w51 hw)) Via.refl q2 d_peqself_32 (pc' := 35) rfl ?_
  intro T6 X6
  refine o_aloadN K X6 d_peqself_35 (pc' := 36) rfl rfl rfl ?_
  refine o_getfield K X6 (host := "") (Or.inl (w51 hw)) Via.refl q2 d_peqself_36 (pc' := 39) rfl ?_
  intro T7 X7
  refine o_virtual K X7 (y := (⟨"java/lang/String", "equals", "(Ljava/lang/Object;)Z"⟩ : MethodName)) (z := (⟨"java/lang/String", "equals", "(Ljava/lang/Object;)Z"⟩ : MethodName)) (w63 hw) (w64 hw) (fun _ q => notFace_of_selects (args := #[]) (mvT q (w66 hw))) (w66 hw) (w65 hw) (w18 hw) (w67 hw) (by decide) q4 (rm_strself l Z a0 hw t h0) all0 (by decide) rfl (argsL := [(.ref t)]) rfl (lenOf pd_peqself_0 rfl) (W := 0) rfl (by decide) (by decide) (by decide) d_peqself_39 (pc' := 42) rfl ?_
  intro v8 T8 h8 FX8 U8
  obtain ⟨rfl, rfl⟩ := U8
  have X8 := FX8 [] (Or.inl rfl) all0
  show oGoes pp ee bb ss Z T8 (mkF mm 42 #[.val (.ref a), .val (.ref a), .val (.ref a)] [(.int (1 : Int32))]) _ _ _ _
  refine o_if_eq_f K X8 d_peqself_42 (pc' := 45) rfl (by decide) ?_
  refine o_iconst K X8 d_peqself_45 (pc' := 46) rfl (z := (1 : Int32)) rfl ?_
  refine o_goto K X8 d_peqself_46 (by decide) (pc' := 50) (by decide) ?_
  refine o_ireturnN K X8 .boolean d_peqself_50 rfl (by simp) (z' := (1 : Int32)) (by decide) ?_ (by decide) (by decide) (by decide)
  exact ⟨rfl, rfl⟩
theorem d_peq_0 : decode prog_16_method_7_code 0 = .ok (.aload_n 1, 1) := by decide +kernel
theorem d_peq_1 : decode prog_16_method_7_code 1 = .ok (.instanceof 18, 3) := by decide +kernel
theorem d_peq_4 : decode prog_16_method_7_code 4 = .ok (.ifCond .eq 11, 3) := by decide +kernel
theorem d_peq_7 : decode prog_16_method_7_code 7 = .ok (.aload_n 1, 1) := by decide +kernel
theorem d_peq_8 : decode prog_16_method_7_code 8 = .ok (.checkcast 18, 3) := by decide +kernel
theorem d_peq_11 : decode prog_16_method_7_code 11 = .ok (.astore_n 2, 1) := by decide +kernel
theorem d_peq_12 : decode prog_16_method_7_code 12 = .ok (.goto 5, 3) := by decide +kernel
theorem d_peq_17 : decode prog_16_method_7_code 17 = .ok (.aload_n 0, 1) := by decide +kernel
theorem d_peq_18 : decode prog_16_method_7_code 18 = .ok (.getfield 17, 3) := by decide +kernel
theorem d_peq_21 : decode prog_16_method_7_code 21 = .ok (.aload_n 2, 1) := by decide +kernel
theorem d_peq_22 : decode prog_16_method_7_code 22 = .ok (.getfield 17, 3) := by decide +kernel
theorem d_peq_25 : decode prog_16_method_7_code 25 = .ok (.invokevirtual 54, 3) := by decide +kernel
theorem d_peq_28 : decode prog_16_method_7_code 28 = .ok (.ifCond .eq 21, 3) := by decide +kernel
theorem d_peq_31 : decode prog_16_method_7_code 31 = .ok (.aload_n 0, 1) := by decide +kernel
theorem d_peq_32 : decode prog_16_method_7_code 32 = .ok (.getfield 24, 3) := by decide +kernel
theorem d_peq_35 : decode prog_16_method_7_code 35 = .ok (.aload_n 2, 1) := by decide +kernel
theorem d_peq_36 : decode prog_16_method_7_code 36 = .ok (.getfield 24, 3) := by decide +kernel
theorem d_peq_39 : decode prog_16_method_7_code 39 = .ok (.invokevirtual 54, 3) := by decide +kernel
theorem d_peq_42 : decode prog_16_method_7_code 42 = .ok (.ifCond .eq 7, 3) := by decide +kernel
theorem d_peq_45 : decode prog_16_method_7_code 45 = .ok (.iconst 1, 1) := by decide +kernel
theorem d_peq_46 : decode prog_16_method_7_code 46 = .ok (.goto 4, 3) := by decide +kernel
theorem d_peq_49 : decode prog_16_method_7_code 49 = .ok (.iconst 0, 1) := by decide +kernel
theorem d_peq_50 : decode prog_16_method_7_code 50 = .ok (.ireturn, 1) := by decide +kernel
theorem pd_peq_0 : parseMethodDescriptor "(Ljava/lang/Object;)Z" = some ⟨[(.object "java/lang/Object")], some .boolean⟩ := by decide +kernel
def r_peq : Room := { frames := 2, cells := 0, slots := 0, locals := 28 }
def Q_peq (Z : State) (a : Addr) (o : Addr) (r1 : Addr) (v1 : Addr) (r2 : Addr) (v2 : Addr) (r3 : Addr) (v3 : Addr) (r4 : Addr) (v4 : Addr) (k1 : ClassId) (k2 : ClassId) (k3 : ClassId) (k4 : ClassId) (na : Int32) (x0a : Int32) (x1a : Int32) (ma : Int32) (y0a : Int32) (y1a : Int32) (nb : Int32) (x0b : Int32) (x1b : Int32) (mb : Int32) (y0b : Int32) (y1b : Int32) (cs : Int32) (h0 : Heap) (v : Option Value) (h : Heap) : Prop := v = some (.int (oSm2 (oSm na x0a x1a ma y0a y1a) (oSm nb x0b x1b mb y0b y1b))) ∧ h0 = h
set_option maxRecDepth 65536 in
set_option maxHeartbeats 40000000 in
theorem rm_peq (l : Launch) (Z : State) (a0 : Array Value) (hw : oHw Z a0) (a : Addr) (o : Addr) (r1 : Addr) (v1 : Addr) (r2 : Addr) (v2 : Addr) (r3 : Addr) (v3 : Addr) (r4 : Addr) (v4 : Addr) (k1 : ClassId) (k2 : ClassId) (k3 : ClassId) (k4 : ClassId) (na : Int32) (x0a : Int32) (x1a : Int32) (ma : Int32) (y0a : Int32) (y1a : Int32) (nb : Int32) (x0b : Int32) (x1b : Int32) (mb : Int32) (y0b : Int32) (y1b : Int32) (cs : Int32) (h0 : Heap) (q0 : Exa Z h0 a "com/example/phone_conformance_check/phoneconformancecheck/capture/Property") (q1 : Fld Z h0 a "com/example/phone_conformance_check/phoneconformancecheck/capture/Property" "name" "Ljava/lang/String;" (.ref r1)) (q2 : Fld Z h0 a "com/example/phone_conformance_check/phoneconformancecheck/capture/Property" "value" "Ljava/lang/String;" (.ref r2)) (q3 : Exa Z h0 o "com/example/phone_conformance_check/phoneconformancecheck/capture/Property") (q4 : Fld Z h0 o "com/example/phone_conformance_check/phoneconformancecheck/capture/Property" "name" "Ljava/lang/String;" (.ref r3)) (q5 : Fld Z h0 o "com/example/phone_conformance_check/phoneconformancecheck/capture/Property" "value" "Ljava/lang/String;" (.ref r4)) (q6 : Exa Z h0 r1 "java/lang/String") (q7 : Fld Z h0 r1 "java/lang/String" "value" "[B" (.ref v1)) (q8 : Fld Z h0 r1 "java/lang/String" "coder" "B" (.int (0 : Int32))) (q9 : oArr Z h0 v1 k1 .byte (oBy na x0a x1a)) (q10 : Exa Z h0 r2 "java/lang/String") (q11 : Fld Z h0 r2 "java/lang/String" "value" "[B" (.ref v2)) (q12 : Fld Z h0 r2 "java/lang/String" "coder" "B" (.int (0 : Int32))) (q13 : oArr Z h0 v2 k2 .byte (oBy nb x0b x1b)) (q14 : Exa Z h0 r3 "java/lang/String") (q15 : Fld Z h0 r3 "java/lang/String" "value" "[B" (.ref v3)) (q16 : Fld Z h0 r3 "java/lang/String" "coder" "B" (.int (0 : Int32))) (q17 : oArr Z h0 v3 k3 .byte (oBy ma y0a y1a)) (q18 : Exa Z h0 r4 "java/lang/String") (q19 : Fld Z h0 r4 "java/lang/String" "value" "[B" (.ref v4)) (q20 : Fld Z h0 r4 "java/lang/String" "coder" "B" (.int (0 : Int32))) (q21 : oArr Z h0 v4 k4 .byte (oBy mb y0b y1b)) (q22 : r1 ≠ r3) (q23 : r2 ≠ r4) (q24 : oCh x0a) (q25 : oCh x1a) (q26 : oCh y0a) (q27 : oCh y1a) (q28 : oL na) (q29 : oL ma) (q30 : oCh x0b) (q31 : oCh x1b) (q32 : oCh y0b) (q33 : oCh y1b) (q34 : oL nb) (q35 : oL mb) (q36 : Sta Z Z.heap "java/lang/String" "COMPACT_STRINGS" "Z" (.int cs)) (q37 : ¬ (cs = (0 : Int32))) : oMet l Z (⟨"com/example/phone_conformance_check/phoneconformancecheck/capture/Property", "equals", "(Ljava/lang/Object;)Z"⟩ : MethodName) prog_16_method_7_code 3 (some .boolean) r_peq [] #[(.ref a), (.ref o)] h0 (Q_peq Z a o r1 v1 r2 v2 r3 v3 r4 v4 k1 k2 k3 k4 na x0a x1a ma y0a y1a nb x0b x1b mb y0b y1b cs h0) [] false := by
  refine oEnter (oEW hw) (plainFor_of_name (by first | (simp [plainName, overriddenIn]; done) | decide +kernel)) (own := "com/example/phone_conformance_check/phoneconformancecheck/capture/Property") (nm := "equals") rfl rfl (L := #[.val (.ref a), .val (.ref o), .unset]) (fun m => by first | (simp [entryFrame, mkF, argsToLocals, Value.category]; done) | rfl) ?_
  intro pp ee ss mm bb mtd cc T0 K X0
  have E0 := X0.ext0
  refine o_aloadN K X0 d_peq_0 (pc' := 1) rfl rfl rfl ?_
  refine o_instanceof K X0 (w61 hw) (Ins.self q3) d_peq_1 (pc' := 4) rfl ?_
  intro T1 X1
  refine o_if_eq_f K X1 d_peq_4 (pc' := 7) rfl (by decide) ?_
  refine o_aloadN K X1 d_peq_7 (pc' := 8) rfl rfl rfl ?_
  refine o_checkcast K X1 (w61 hw) (Ins.self q3) d_peq_8 (pc' := 11) rfl ?_
  intro T2 X2
  refine o_astoreN K X2 d_peq_11 (pc' := 12) rfl rfl (L' := #[.val (.ref a), .val (.ref o), .val (.ref o)]) rfl ?_
  refine o_goto K X2 d_peq_12 (by decide) (pc' := 17) (by decide) ?_
  refine o_aloadN K X2 d_peq_17 (pc' := 18) rfl rfl rfl ?_
  refine o_getfield K X2 (host := "") (Or.inl (w48 hw)) Via.refl q1 d_peq_18 (pc' := 21) rfl ?_
  intro T3 X3
  refine o_aloadN K X3 d_peq_21 (pc' := 22) rfl rfl rfl ?_
  refine o_getfield K X3 (host := "") (Or.inl (w48 hw)) Via.refl q4 d_peq_22 (pc' := 25) rfl ?_
  intro T4 X4
  refine o_virtual K X4 (y := (⟨"java/lang/String", "equals", "(Ljava/lang/Object;)Z"⟩ : MethodName)) (z := (⟨"java/lang/String", "equals", "(Ljava/lang/Object;)Z"⟩ : MethodName)) (w63 hw) (w64 hw) (fun _ q => notFace_of_selects (args := #[]) (mvT q (w66 hw))) (w66 hw) (w65 hw) (w18 hw) (w67 hw) (by decide) q6 (rm_streq l Z a0 hw r1 r3 v1 v3 k1 k3 na x0a x1a ma y0a y1a cs h0 q6 q7 q8 q9 q14 q15 q16 q17 q22 q28 q29 q24 q25 q26 q27 q36 q37) all0 (by decide) rfl (argsL := [(.ref r3)]) rfl (lenOf pd_peq_0 rfl) (W := 0) rfl (by decide) (by decide) (by decide) d_peq_25 (pc' := 28) rfl ?_
  intro v5 T5 h5 FX5 U5
  obtain ⟨rfl, rfl⟩ := U5
  have X5 := FX5 [] (Or.inl rfl) all0
  show oGoes pp ee bb ss Z T5 (mkF mm 28 #[.val (.ref a), .val (.ref o), .val (.ref o)] [(.int (oSm na x0a x1a ma y0a y1a))]) _ _ _ _
  by_cases c28_6 : (oSm na x0a x1a ma y0a y1a) = (0 : Int32)
  · refine o_if_eq_t K X5 d_peq_28 (by decide) (pc' := 49) (by decide) c28_6 ?_
    refine o_iconst K X5 d_peq_49 (pc' := 50) rfl (z := (0 : Int32)) rfl ?_
    refine o_ireturnN K X5 .boolean d_peq_50 rfl (by simp) (z' := (0 : Int32)) (by decide) ?_ (by decide) (by decide) (by decide)
    exact ⟨(by simp [oSm2, c28_6]), rfl⟩
  · refine o_if_eq_f K X5 d_peq_28 (pc' := 31) rfl c28_6 ?_
    refine o_aloadN K X5 d_peq_31 (pc' := 32) rfl rfl rfl ?_
    refine o_getfield K X5 (host := "") (Or.inl (w51 hw)) Via.refl q2 d_peq_32 (pc' := 35) rfl ?_
    intro T7 X7
    refine o_aloadN K X7 d_peq_35 (pc' := 36) rfl rfl rfl ?_
    refine o_getfield K X7 (host := "") (Or.inl (w51 hw)) Via.refl q5 d_peq_36 (pc' := 39) rfl ?_
    intro T8 X8
    refine o_virtual K X8 (y := (⟨"java/lang/String", "equals", "(Ljava/lang/Object;)Z"⟩ : MethodName)) (z := (⟨"java/lang/String", "equals", "(Ljava/lang/Object;)Z"⟩ : MethodName)) (w63 hw) (w64 hw) (fun _ q => notFace_of_selects (args := #[]) (mvT q (w66 hw))) (w66 hw) (w65 hw) (w18 hw) (w67 hw) (by decide) q10 (rm_streq l Z a0 hw r2 r4 v2 v4 k2 k4 nb x0b x1b mb y0b y1b cs h0 q10 q11 q12 q13 q18 q19 q20 q21 q23 q34 q35 q30 q31 q32 q33 q36 q37) all0 (by decide) rfl (argsL := [(.ref r4)]) rfl (lenOf pd_peq_0 rfl) (W := 0) rfl (by decide) (by decide) (by decide) d_peq_39 (pc' := 42) rfl ?_
    intro v9 T9 h9 FX9 U9
    obtain ⟨rfl, rfl⟩ := U9
    have X9 := FX9 [] (Or.inl rfl) all0
    show oGoes pp ee bb ss Z T9 (mkF mm 42 #[.val (.ref a), .val (.ref o), .val (.ref o)] [(.int (oSm nb x0b x1b mb y0b y1b))]) _ _ _ _
    by_cases c42_10 : (oSm nb x0b x1b mb y0b y1b) = (0 : Int32)
    · refine o_if_eq_t K X9 d_peq_42 (by decide) (pc' := 49) (by decide) c42_10 ?_
      refine o_iconst K X9 d_peq_49 (pc' := 50) rfl (z := (0 : Int32)) rfl ?_
      refine o_ireturnN K X9 .boolean d_peq_50 rfl (by simp) (z' := (0 : Int32)) (by decide) ?_ (by decide) (by decide) (by decide)
      exact ⟨(by simp [oSm2, c28_6, c42_10]), rfl⟩
    · refine o_if_eq_f K X9 d_peq_42 (pc' := 45) rfl c42_10 ?_
      refine o_iconst K X9 d_peq_45 (pc' := 46) rfl (z := (1 : Int32)) rfl ?_
      refine o_goto K X9 d_peq_46 (by decide) (pc' := 50) (by decide) ?_
      refine o_ireturnN K X9 .boolean d_peq_50 rfl (by simp) (z' := (1 : Int32)) (by decide) ?_ (by decide) (by decide) (by decide)
      exact ⟨(by simp [oSm2, c28_6, c42_10]), rfl⟩
theorem d_number_0 : decode jdk_18_method_1_code 0 = .ok (.aload_n 0, 1) := by decide +kernel
theorem d_number_1 : decode jdk_18_method_1_code 1 = .ok (.invokespecial 1, 3) := by decide +kernel
theorem d_number_4 : decode jdk_18_method_1_code 4 = .ok (.return_, 1) := by decide +kernel
def r_number : Room := { frames := 1, cells := 0, slots := 0, locals := 12 }
def Q_number (Z : State) (a : Addr) (h0 : Heap) (v : Option Value) (h : Heap) : Prop := v = none ∧ h0 = h
set_option maxRecDepth 65536 in
set_option maxHeartbeats 40000000 in
theorem rm_number (l : Launch) (Z : State) (a0 : Array Value) (hw : oHw Z a0) (a : Addr) (h0 : Heap) : oMet l Z (⟨"java/lang/Number", "<init>", "()V"⟩ : MethodName) jdk_18_method_1_code 1 none r_number [] #[(.ref a)] h0 (Q_number Z a h0) [] false := by
  refine oEnter (oEW hw) (plainFor_of_name (by first | (simp [plainName, overriddenIn]; done) | decide +kernel)) (own := "java/lang/Number") (nm := "<init>") rfl rfl (L := #[.val (.ref a)]) (fun m => by first | (simp [entryFrame, mkF, argsToLocals, Value.category]; done) | rfl) ?_
  intro pp ee ss mm bb mtd cc T0 K X0
  have E0 := X0.ext0
  refine o_aloadN K X0 d_number_0 (pc' := 1) rfl rfl rfl ?_
  refine o_initObj K X0 (w107 hw) (w28 hw) (w29 hw) d_number_1 (pc' := 4) rfl rfl (by decide) (W := 0) rfl (by decide) ?_
  intro T1 X1
  refine o_return K X1 d_number_4 rfl ?_ (by decide) (by decide) (by decide)
  exact ⟨rfl, rfl⟩
theorem d_intinit_0 : decode jdk_33_method_23_code 0 = .ok (.aload_n 0, 1) := by decide +kernel
theorem d_intinit_1 : decode jdk_33_method_23_code 1 = .ok (.invokespecial 202, 3) := by decide +kernel
theorem d_intinit_4 : decode jdk_33_method_23_code 4 = .ok (.aload_n 0, 1) := by decide +kernel
theorem d_intinit_5 : decode jdk_33_method_23_code 5 = .ok (.iload_n 1, 1) := by decide +kernel
theorem d_intinit_6 : decode jdk_33_method_23_code 6 = .ok (.putfield 205, 3) := by decide +kernel
theorem d_intinit_9 : decode jdk_33_method_23_code 9 = .ok (.return_, 1) := by decide +kernel
theorem pd_intinit_0 : parseMethodDescriptor "()V" = some ⟨[], none⟩ := by decide +kernel
def r_intinit : Room := { frames := 2, cells := 0, slots := 0, locals := 24 }
def Q_intinit (Z : State) (a : Addr) (i : Int32) (h0 : Heap) (v : Option Value) (h : Heap) : Prop := v = none ∧ Keep h0 h [a] ∧ Exa Z h a "java/lang/Integer"
set_option maxRecDepth 65536 in
set_option maxHeartbeats 40000000 in
theorem rm_intinit (l : Launch) (Z : State) (a0 : Array Value) (hw : oHw Z a0) (a : Addr) (i : Int32) (h0 : Heap) (q0 : Exa Z h0 a "java/lang/Integer") (q1 : Fld Z h0 a "java/lang/Integer" "value" "I" (.int (0 : Int32))) (q2 : Z.heap.size ≤ a) : oMet l Z (⟨"java/lang/Integer", "<init>", "(I)V"⟩ : MethodName) jdk_33_method_23_code 2 none r_intinit [] #[(.ref a), (.int i)] h0 (Q_intinit Z a i h0) [a] false := by
  refine oEnter (oEW hw) (plainFor_of_name (by first | (simp [plainName, overriddenIn]; done) | decide +kernel)) (own := "java/lang/Integer") (nm := "<init>") rfl rfl (L := #[.val (.ref a), .val (.int i)]) (fun m => by first | (simp [entryFrame, mkF, argsToLocals, Value.category]; done) | rfl) ?_
  intro pp ee ss mm bb mtd cc T0 K X0
  have E0 := X0.ext0
  refine o_aloadN K X0 d_intinit_0 (pc' := 1) rfl rfl rfl ?_
  refine o_special K X0 (y := (⟨"java/lang/Number", "<init>", "()V"⟩ : MethodName)) rfl (w101 hw) (w102 hw) (w105 hw) (w106 hw) (by decide) (rm_number l Z a0 hw a h0) all0 (by decide) rfl (argsL := []) rfl (lenOf pd_intinit_0 rfl) (W := 0) rfl (by decide) (by decide) (by decide) d_intinit_1 (pc' := 4) rfl ?_
  intro v1 T1 h1 FX1 U1
  obtain ⟨rfl, rfl⟩ := U1
  have X1 := FX1 [] (Or.inl rfl) all0
  show oGoes pp ee bb ss Z T1 (mkF mm 4 #[.val (.ref a), .val (.int i)] []) _ _ _ _
  refine o_aloadN K X1 d_intinit_4 (pc' := 5) rfl rfl rfl ?_
  refine o_iloadN K X1 d_intinit_5 (pc' := 6) rfl rfl ?_
  refine o_putfield K X1 (host := "") (Or.inl (w108 hw)) Via.refl q1 q0 (Or.inr ⟨(w109 hw), rfl, rfl⟩) (w96 hw) (ty := .int) (by decide) rfl rfl q2 (List.mem_of_getElem? (i := 0) rfl) d_intinit_6 (pc' := 9) rfl ?_
  intro T2 h2 X2 W2
  have F2 := Fld.same W2 q1
  refine o_return K X2 d_intinit_9 rfl ?_ (by decide) (by decide) (by decide)
  exact ⟨rfl, ((Keep.refl h0 [a]).wr W2 (Or.inl (List.mem_of_getElem? (i := 0) rfl))), (Exa.wr W2 q0)⟩
theorem d_valueof_0 : decode jdk_33_method_22_code 0 = .ok (.iload_n 0, 1) := by decide +kernel
theorem d_valueof_1 : decode jdk_33_method_22_code 1 = .ok (.bipush (-128), 2) := by decide +kernel
theorem d_valueof_3 : decode jdk_33_method_22_code 3 = .ok (.if_icmp .lt 20, 3) := by decide +kernel
theorem d_valueof_6 : decode jdk_33_method_22_code 6 = .ok (.iload_n 0, 1) := by decide +kernel
theorem d_valueof_7 : decode jdk_33_method_22_code 7 = .ok (.getstatic 191, 3) := by decide +kernel
theorem d_valueof_10 : decode jdk_33_method_22_code 10 = .ok (.if_icmp .gt 13, 3) := by decide +kernel
theorem d_valueof_13 : decode jdk_33_method_22_code 13 = .ok (.getstatic 195, 3) := by decide +kernel
theorem d_valueof_16 : decode jdk_33_method_22_code 16 = .ok (.iload_n 0, 1) := by decide +kernel
theorem d_valueof_17 : decode jdk_33_method_22_code 17 = .ok (.sipush 128, 3) := by decide +kernel
theorem d_valueof_20 : decode jdk_33_method_22_code 20 = .ok (.iadd, 1) := by decide +kernel
theorem d_valueof_21 : decode jdk_33_method_22_code 21 = .ok (.aaload, 1) := by decide +kernel
theorem d_valueof_22 : decode jdk_33_method_22_code 22 = .ok (.areturn, 1) := by decide +kernel
theorem d_valueof_23 : decode jdk_33_method_22_code 23 = .ok (.new 1, 3) := by decide +kernel
theorem d_valueof_26 : decode jdk_33_method_22_code 26 = .ok (.dup, 1) := by decide +kernel
theorem d_valueof_27 : decode jdk_33_method_22_code 27 = .ok (.iload_n 0, 1) := by decide +kernel
theorem d_valueof_28 : decode jdk_33_method_22_code 28 = .ok (.invokespecial 199, 3) := by decide +kernel
theorem d_valueof_31 : decode jdk_33_method_22_code 31 = .ok (.areturn, 1) := by decide +kernel
theorem pd_valueof_0 : parseMethodDescriptor "(I)V" = some ⟨[.int], none⟩ := by decide +kernel
def r_valueof : Room := { frames := 3, cells := 1, slots := 1, locals := 38 }
def Q_valueof (Z : State) (i : Int32) (ca : Addr) (kc : ClassId) (vc : List Value) (h0 : Heap) (v : Option Value) (h : Heap) : Prop := ∃ r : Addr, v = some (.ref r) ∧ Keep h0 h [] ∧ Exa Z h r "java/lang/Integer"
set_option maxRecDepth 65536 in
set_option maxHeartbeats 40000000 in
theorem rm_valueof (l : Launch) (Z : State) (a0 : Array Value) (hw : oHw Z a0) (i : Int32) (ca : Addr) (kc : ClassId) (vc : List Value) (h0 : Heap) (q0 : Sta Z Z.heap "java/lang/Integer$IntegerCache" "high" "I" (.int (127 : Int32))) (q1 : Sta Z Z.heap "java/lang/Integer$IntegerCache" "cache" "[Ljava/lang/Integer;" (.ref ca)) (q2 : oArr Z Z.heap ca kc (.object "java/lang/Integer") vc) (q3 : ∀ j : Int32, ¬ (j < (0 : Int32)) → j < (256 : Int32) → ∃ r : Addr, vc[j.toNatClampNeg]? = some (.ref r) ∧ Exa Z Z.heap r "java/lang/Integer") : oMet l Z (⟨"java/lang/Integer", "valueOf", "(I)Ljava/lang/Integer;"⟩ : MethodName) jdk_33_method_22_code 1 (some (.object "java/lang/Integer")) r_valueof [] #[(.int i)] h0 (Q_valueof Z i ca kc vc h0) [] false := by
  refine oEnter (oEW hw) (plainFor_of_name (by first | (simp [plainName, overriddenIn]; done) | decide +kernel)) (own := "java/lang/Integer") (nm := "valueOf") rfl rfl (L := #[.val (.int i)]) (fun m => by first | (simp [entryFrame, mkF, argsToLocals, Value.category]; done) | rfl) ?_
  intro pp ee ss mm bb mtd cc T0 K X0
  have E0 := X0.ext0
  refine o_iloadN K X0 d_valueof_0 (pc' := 1) rfl rfl ?_
  refine o_bipush K X0 d_valueof_1 (pc' := 3) rfl (z := (-128 : Int32)) rfl ?_
  by_cases c3_1 : i < (-128 : Int32)
  · refine o_icmp_lt_t K X0 d_valueof_3 (by decide) (pc' := 23) (by decide) c3_1 ?_
    refine o_new K X0 (w95 hw) (w96 hw) (w86 hw) d_valueof_23 (pc' := 26) rfl (by decide) (by decide) ?_
    intro T2 h2 b2 X2 g2 E2 A2 D2 G2
    have F2_value : Fld Z h2 b2 "java/lang/Integer" "value" "I" (.int (0 : Int32)) := (D2 (Or.inr (w109 hw)) (ty := .int) (by decide))
    refine o_dup K X2 d_valueof_26 (pc' := 27) rfl rfl ?_
    refine o_iloadN K X2 d_valueof_27 (pc' := 28) rfl rfl ?_
    refine o_special K X2 (y := (⟨"java/lang/Integer", "<init>", "(I)V"⟩ : MethodName)) rfl (w97 hw) (w98 hw) (w86 hw) (w100 hw) (by decide) (rm_intinit l Z a0 hw b2 i h2 A2 F2_value G2) (allS (List.mem_of_getElem? (i := 0) rfl) all0) (by decide) rfl (argsL := [(.int i)]) rfl (lenOf pd_valueof_0 rfl) (W := 1) rfl (by decide) (by decide) (by decide) d_valueof_28 (pc' := 31) rfl ?_
    intro v3 T3 h3 FX3 U3
    obtain ⟨rfl, u3_0, u3_1⟩ := U3
    have X3 := FX3 [] (Or.inl rfl) all0
    show oGoes pp ee bb ss Z T3 (mkF mm 31 #[.val (.int i)] [(.ref b2)]) _ _ _ _
    refine o_areturn K X3 (t := (.object "java/lang/Integer")) d_valueof_31 rfl rfl rfl ?_ (by decide) (by decide) (by decide)
    exact ⟨b2, rfl, (((Keep.refl h0 []).ext E2).trans u3_0 (allS (Or.inr (Nat.le_of_eq g2.symm)) all0)), u3_1⟩
  · refine o_icmp_lt_f K X0 d_valueof_3 (pc' := 6) rfl c3_1 ?_
    refine o_iloadN K X0 d_valueof_6 (pc' := 7) rfl rfl ?_
    refine o_getstatic K X0 (host := "") (Or.inl (w88 hw)) Via.refl (q0.ext X0.ext0) d_valueof_7 (pc' := 10) rfl ?_
    intro T4 X4
    by_cases c10_5 : (127 : Int32) < i
    · refine o_icmp_gt_t K X4 d_valueof_10 (by decide) (pc' := 23) (by decide) c10_5 ?_
      refine o_new K X4 (w95 hw) (w96 hw) (w86 hw) d_valueof_23 (pc' := 26) rfl (by decide) (by decide) ?_
      intro T6 h6 b6 X6 g6 E6 A6 D6 G6
      have F6_value : Fld Z h6 b6 "java/lang/Integer" "value" "I" (.int (0 : Int32)) := (D6 (Or.inr (w109 hw)) (ty := .int) (by decide))
      refine o_dup K X6 d_valueof_26 (pc' := 27) rfl rfl ?_
      refine o_iloadN K X6 d_valueof_27 (pc' := 28) rfl rfl ?_
      refine o_special K X6 (y := (⟨"java/lang/Integer", "<init>", "(I)V"⟩ : MethodName)) rfl (w97 hw) (w98 hw) (w86 hw) (w100 hw) (by decide) (rm_intinit l Z a0 hw b6 i h6 A6 F6_value G6) (allS (List.mem_of_getElem? (i := 0) rfl) all0) (by decide) rfl (argsL := [(.int i)]) rfl (lenOf pd_valueof_0 rfl) (W := 1) rfl (by decide) (by decide) (by decide) d_valueof_28 (pc' := 31) rfl ?_
      intro v7 T7 h7 FX7 U7
      obtain ⟨rfl, u7_0, u7_1⟩ := U7
      have X7 := FX7 [] (Or.inl rfl) all0
      show oGoes pp ee bb ss Z T7 (mkF mm 31 #[.val (.int i)] [(.ref b6)]) _ _ _ _
      refine o_areturn K X7 (t := (.object "java/lang/Integer")) d_valueof_31 rfl rfl rfl ?_ (by decide) (by decide) (by decide)
      exact ⟨b6, rfl, (((Keep.refl h0 []).ext E6).trans u7_0 (allS (Or.inr (Nat.le_of_eq g6.symm)) all0)), u7_1⟩
    · refine o_icmp_gt_f K X4 d_valueof_10 (pc' := 13) rfl c10_5 ?_
      refine o_getstatic K X4 (host := "") (Or.inl (w90 hw)) Via.refl (q1.ext X4.ext0) d_valueof_13 (pc' := 16) rfl ?_
      intro T8 X8
      refine o_iloadN K X8 d_valueof_16 (pc' := 17) rfl rfl ?_
      refine o_sipush K X8 d_valueof_17 (pc' := 20) rfl (z := (128 : Int32)) rfl ?_
      refine o_iadd K X8 d_valueof_20 (pc' := 21) rfl (z := (i + (128 : Int32))) rfl ?_
      obtain ⟨rc9, e9, x9⟩ := q3 _ (oCacheIx c3_1 c10_5).1 (oCacheIx c3_1 c10_5).2
      refine o_aaload K X8 rfl (q2.ext X8.ext0) (oCacheIx c3_1 c10_5).1 (v := (.ref rc9)) e9 d_valueof_21 (pc' := 22) rfl ?_
      have Y9 := x9.ext X8.ext0
      refine o_areturn K X8 (t := (.object "java/lang/Integer")) d_valueof_22 rfl rfl rfl ?_ (by decide) (by decide) (by decide)
      exact ⟨rc9, rfl, (Keep.refl h0 []), Y9⟩
theorem pd_law_0 : parseMethodDescriptor "(I)I" = some ⟨[.int], some .int⟩ := by decide +kernel
theorem pd_law_1 : parseMethodDescriptor "(I)C" = some ⟨[.int], some .char⟩ := by decide +kernel
theorem pd_law_2 : parseMethodDescriptor "(ICC)Ljava/lang/String;" = some ⟨[.int, .char, .char], some (.object "java/lang/String")⟩ := by decide +kernel
theorem pd_law_3 : parseMethodDescriptor "(Ljava/lang/String;Ljava/lang/String;)V" = some ⟨[(.object "java/lang/String"), (.object "java/lang/String")], none⟩ := by decide +kernel
theorem pd_law_4 : parseMethodDescriptor "(Ljava/lang/Object;)Z" = some ⟨[(.object "java/lang/Object")], some .boolean⟩ := by decide +kernel
theorem pd_law_5 : parseMethodDescriptor "(I)Ljava/lang/Integer;" = some ⟨[.int], some (.object "java/lang/Integer")⟩ := by decide +kernel
theorem pd_law_6 : parseMethodDescriptor "(ICCICC)Z" = some ⟨[.int, .char, .char, .int, .char, .char], some .boolean⟩ := by decide +kernel
def Q_law (Z : State) (i0 : Int32) (i1 : Int32) (i2 : Int32) (i3 : Int32) (i4 : Int32) (ca : Addr) (kc : ClassId) (vc : List Value) (cs : Int32) (h0 : Heap) (v : Option Value) (h : Heap) : Prop := v = some (.int (1 : Int32))
set_option maxRecDepth 65536 in
set_option maxHeartbeats 40000000 in
theorem rm_law (l : Launch) (Z : State) (a0 : Array Value) (hw : oHw Z a0) (i0 : Int32) (i1 : Int32) (i2 : Int32) (i3 : Int32) (i4 : Int32) (ca : Addr) (kc : ClassId) (vc : List Value) (cs : Int32) (h0 : Heap) (q0 : Sta Z Z.heap "java/lang/Integer$IntegerCache" "high" "I" (.int (127 : Int32))) (q1 : Sta Z Z.heap "java/lang/Integer$IntegerCache" "cache" "[Ljava/lang/Integer;" (.ref ca)) (q2 : oArr Z Z.heap ca kc (.object "java/lang/Integer") vc) (q3 : ∀ j : Int32, ¬ (j < (0 : Int32)) → j < (256 : Int32) → ∃ r : Addr, vc[j.toNatClampNeg]? = some (.ref r) ∧ Exa Z Z.heap r "java/lang/Integer") (q4 : Sta Z Z.heap "java/lang/String" "COMPACT_STRINGS" "Z" (.int cs)) (q5 : ¬ (cs = (0 : Int32))) (ws : List Jvm.Cond) : oMet l Z x code maxLocals ret room_1 ws #[(.int i0), (.int i1), (.int i2), (.int i3), (.int i4)] h0 (Q_law Z i0 i1 i2 i3 i4 ca kc vc cs h0) [] true := by
  refine oEnter (oEW hw) (plainFor_of_name (by first | (simp [plainName, overriddenIn]; done) | decide +kernel)) (own := "com/example/phone_conformance_check/phoneconformancecheck/capture/PropertyEqualsPinLaw") (nm := "law") rfl rfl (L := #[.val (.int i0), .val (.int i1), .val (.int i2), .val (.int i3), .val (.int i4), .unset, .unset, .unset, .unset, .unset, .unset, .unset, .unset, .unset, .unset, .unset, .unset, .unset, .unset, .unset, .unset, .unset, .unset]) (fun m => by first | (simp [entryFrame, mkF, argsToLocals, Value.category, maxLocals]; done) | rfl) ?_
  intro pp ee ss mm bb mtd cc T0 K X0
  have E0 := X0.ext0
  refine o_iloadN K X0 at_0 (pc' := 1) rfl rfl ?_
  refine o_static K X0 (y := (⟨"com/example/phone_conformance_check/phoneconformancecheck/capture/PropertyEqualsPinLaw", "len", "(I)I"⟩ : MethodName)) (w0 hw) (w1 hw) (w2 hw) (w3 hw) (by decide) (rm_len l Z a0 hw i0 h0) all0 (by decide) rfl (argsL := [(.int i0)]) rfl (lenOf pd_law_0 rfl) (W := 0) rfl (by decide) (by decide) (by decide) at_1 (pc' := 4) rfl ?_
  intro v1 T1 h1 FX1 U1
  obtain ⟨rfl, rfl⟩ := U1
  have X1 := FX1 [] (Or.inl rfl) all0
  show oGoes pp ee bb ss Z T1 (mkF mm 4 #[.val (.int i0), .val (.int i1), .val (.int i2), .val (.int i3), .val (.int i4), .unset, .unset, .unset, .unset, .unset, .unset, .unset, .unset, .unset, .unset, .unset, .unset, .unset, .unset, .unset, .unset, .unset, .unset] [(.int (oLen i0))]) _ _ _ _
  refine o_istore K X1 at_4 (pc' := 6) rfl (L' := #[.val (.int i0), .val (.int i1), .val (.int i2), .val (.int i3), .val (.int i4), .val (.int (oLen i0)), .unset, .unset, .unset, .unset, .unset, .unset, .unset, .unset, .unset, .unset, .unset, .unset, .unset, .unset, .unset, .unset, .unset]) rfl ?_
  refine o_iloadN K X1 at_6 (pc' := 7) rfl rfl ?_
  refine o_static K X1 (y := (⟨"com/example/phone_conformance_check/phoneconformancecheck/capture/PropertyEqualsPinLaw", "c0", "(I)C"⟩ : MethodName)) (w4 hw) (w5 hw) (w2 hw) (w6 hw) (by decide) (rm_c0 l Z a0 hw i0 h0) all0 (by decide) rfl (argsL := [(.int i0)]) rfl (lenOf pd_law_1 rfl) (W := 0) rfl (by decide) (by decide) (by decide) at_7 (pc' := 10) rfl ?_
  intro v2 T2 h2 FX2 U2
  obtain ⟨rfl, rfl⟩ := U2
  have X2 := FX2 [] (Or.inl rfl) all0
  show oGoes pp ee bb ss Z T2 (mkF mm 10 #[.val (.int i0), .val (.int i1), .val (.int i2), .val (.int i3), .val (.int i4), .val (.int (oLen i0)), .unset, .unset, .unset, .unset, .unset, .unset, .unset, .unset, .unset, .unset, .unset, .unset, .unset, .unset, .unset, .unset, .unset] [(.int (oC0 i0))]) _ _ _ _
  refine o_istore K X2 at_10 (pc' := 12) rfl (L' := #[.val (.int i0), .val (.int i1), .val (.int i2), .val (.int i3), .val (.int i4), .val (.int (oLen i0)), .val (.int (oC0 i0)), .unset, .unset, .unset, .unset, .unset, .unset, .unset, .unset, .unset, .unset, .unset, .unset, .unset, .unset, .unset, .unset]) rfl ?_
  refine o_iloadN K X2 at_12 (pc' := 13) rfl rfl ?_
  refine o_static K X2 (y := (⟨"com/example/phone_conformance_check/phoneconformancecheck/capture/PropertyEqualsPinLaw", "c1", "(I)C"⟩ : MethodName)) (w7 hw) (w8 hw) (w2 hw) (w9 hw) (by decide) (rm_c1 l Z a0 hw i0 h0) all0 (by decide) rfl (argsL := [(.int i0)]) rfl (lenOf pd_law_1 rfl) (W := 0) rfl (by decide) (by decide) (by decide) at_13 (pc' := 16) rfl ?_
  intro v3 T3 h3 FX3 U3
  obtain ⟨rfl, rfl⟩ := U3
  have X3 := FX3 [] (Or.inl rfl) all0
  show oGoes pp ee bb ss Z T3 (mkF mm 16 #[.val (.int i0), .val (.int i1), .val (.int i2), .val (.int i3), .val (.int i4), .val (.int (oLen i0)), .val (.int (oC0 i0)), .unset, .unset, .unset, .unset, .unset, .unset, .unset, .unset, .unset, .unset, .unset, .unset, .unset, .unset, .unset, .unset] [(.int (oC1 i0))]) _ _ _ _
  refine o_istore K X3 at_16 (pc' := 18) rfl (L' := #[.val (.int i0), .val (.int i1), .val (.int i2), .val (.int i3), .val (.int i4), .val (.int (oLen i0)), .val (.int (oC0 i0)), .val (.int (oC1 i0)), .unset, .unset, .unset, .unset, .unset, .unset, .unset, .unset, .unset, .unset, .unset, .unset, .unset, .unset, .unset]) rfl ?_
  refine o_iloadN K X3 at_18 (pc' := 19) rfl rfl ?_
  refine o_static K X3 (y := (⟨"com/example/phone_conformance_check/phoneconformancecheck/capture/PropertyEqualsPinLaw", "len", "(I)I"⟩ : MethodName)) (w0 hw) (w1 hw) (w2 hw) (w3 hw) (by decide) (rm_len l Z a0 hw i1 h0) all0 (by decide) rfl (argsL := [(.int i1)]) rfl (lenOf pd_law_0 rfl) (W := 0) rfl (by decide) (by decide) (by decide) at_19 (pc' := 22) rfl ?_
  intro v4 T4 h4 FX4 U4
  obtain ⟨rfl, rfl⟩ := U4
  have X4 := FX4 [] (Or.inl rfl) all0
  show oGoes pp ee bb ss Z T4 (mkF mm 22 #[.val (.int i0), .val (.int i1), .val (.int i2), .val (.int i3), .val (.int i4), .val (.int (oLen i0)), .val (.int (oC0 i0)), .val (.int (oC1 i0)), .unset, .unset, .unset, .unset, .unset, .unset, .unset, .unset, .unset, .unset, .unset, .unset, .unset, .unset, .unset] [(.int (oLen i1))]) _ _ _ _
  refine o_istore K X4 at_22 (pc' := 24) rfl (L' := #[.val (.int i0), .val (.int i1), .val (.int i2), .val (.int i3), .val (.int i4), .val (.int (oLen i0)), .val (.int (oC0 i0)), .val (.int (oC1 i0)), .val (.int (oLen i1)), .unset, .unset, .unset, .unset, .unset, .unset, .unset, .unset, .unset, .unset, .unset, .unset, .unset, .unset]) rfl ?_
  refine o_iloadN K X4 at_24 (pc' := 25) rfl rfl ?_
  refine o_static K X4 (y := (⟨"com/example/phone_conformance_check/phoneconformancecheck/capture/PropertyEqualsPinLaw", "c0", "(I)C"⟩ : MethodName)) (w4 hw) (w5 hw) (w2 hw) (w6 hw) (by decide) (rm_c0 l Z a0 hw i1 h0) all0 (by decide) rfl (argsL := [(.int i1)]) rfl (lenOf pd_law_1 rfl) (W := 0) rfl (by decide) (by decide) (by decide) at_25 (pc' := 28) rfl ?_
  intro v5 T5 h5 FX5 U5
  obtain ⟨rfl, rfl⟩ := U5
  have X5 := FX5 [] (Or.inl rfl) all0
  show oGoes pp ee bb ss Z T5 (mkF mm 28 #[.val (.int i0), .val (.int i1), .val (.int i2), .val (.int i3), .val (.int i4), .val (.int (oLen i0)), .val (.int (oC0 i0)), .val (.int (oC1 i0)), .val (.int (oLen i1)), .unset, .unset, .unset, .unset, .unset, .unset, .unset, .unset, .unset, .unset, .unset, .unset, .unset, .unset] [(.int (oC0 i1))]) _ _ _ _
  refine o_istore K X5 at_28 (pc' := 30) rfl (L' := #[.val (.int i0), .val (.int i1), .val (.int i2), .val (.int i3), .val (.int i4), .val (.int (oLen i0)), .val (.int (oC0 i0)), .val (.int (oC1 i0)), .val (.int (oLen i1)), .val (.int (oC0 i1)), .unset, .unset, .unset, .unset, .unset, .unset, .unset, .unset, .unset, .unset, .unset, .unset, .unset]) rfl ?_
  refine o_iloadN K X5 at_30 (pc' := 31) rfl rfl ?_
  refine o_static K X5 (y := (⟨"com/example/phone_conformance_check/phoneconformancecheck/capture/PropertyEqualsPinLaw", "c1", "(I)C"⟩ : MethodName)) (w7 hw) (w8 hw) (w2 hw) (w9 hw) (by decide) (rm_c1 l Z a0 hw i1 h0) all0 (by decide) rfl (argsL := [(.int i1)]) rfl (lenOf pd_law_1 rfl) (W := 0) rfl (by decide) (by decide) (by decide) at_31 (pc' := 34) rfl ?_
  intro v6 T6 h6 FX6 U6
  obtain ⟨rfl, rfl⟩ := U6
  have X6 := FX6 [] (Or.inl rfl) all0
  show oGoes pp ee bb ss Z T6 (mkF mm 34 #[.val (.int i0), .val (.int i1), .val (.int i2), .val (.int i3), .val (.int i4), .val (.int (oLen i0)), .val (.int (oC0 i0)), .val (.int (oC1 i0)), .val (.int (oLen i1)), .val (.int (oC0 i1)), .unset, .unset, .unset, .unset, .unset, .unset, .unset, .unset, .unset, .unset, .unset, .unset, .unset] [(.int (oC1 i1))]) _ _ _ _
  refine o_istore K X6 at_34 (pc' := 36) rfl (L' := #[.val (.int i0), .val (.int i1), .val (.int i2), .val (.int i3), .val (.int i4), .val (.int (oLen i0)), .val (.int (oC0 i0)), .val (.int (oC1 i0)), .val (.int (oLen i1)), .val (.int (oC0 i1)), .val (.int (oC1 i1)), .unset, .unset, .unset, .unset, .unset, .unset, .unset, .unset, .unset, .unset, .unset, .unset]) rfl ?_
  refine o_iload K X6 at_36 (pc' := 38) rfl rfl ?_
  refine o_iconst K X6 at_38 (pc' := 39) rfl (z := (1 : Int32)) rfl ?_
  refine o_iand K X6 at_39 (pc' := 40) rfl (z := (i4 &&& (1 : Int32))) rfl ?_
  suffices J8 : oGoes pp ee bb ss Z T6 (mkF mm 48 #[.val (.int i0), .val (.int i1), .val (.int i2), .val (.int i3), .val (.int i4), .val (.int (oLen i0)), .val (.int (oC0 i0)), .val (.int (oC1 i0)), .val (.int (oLen i1)), .val (.int (oC0 i1)), .val (.int (oC1 i1)), .unset, .unset, .unset, .unset, .unset, .unset, .unset, .unset, .unset, .unset, .unset, .unset] [(.int (if (i4 &&& (1 : Int32)) = (0 : Int32) then (0 : Int32) else (1 : Int32)))]) (Q_law Z i0 i1 i2 i3 i4 ca kc vc cs h0) room_1.cells room_1.slots true by
    by_cases c40_7 : (i4 &&& (1 : Int32)) = (0 : Int32)
    · simp only [if_pos c40_7] at J8
      refine o_if_eq_t K X6 at_40 (by decide) (pc' := 47) (by decide) c40_7 ?_
      refine o_iconst K X6 at_47 (pc' := 48) rfl (z := (0 : Int32)) rfl ?_
      exact J8
    · simp only [if_neg c40_7] at J8
      refine o_if_eq_f K X6 at_40 (pc' := 43) rfl c40_7 ?_
      refine o_iconst K X6 at_43 (pc' := 44) rfl (z := (1 : Int32)) rfl ?_
      refine o_goto K X6 at_44 (by decide) (pc' := 48) (by decide) ?_
      exact J8
  refine o_istore K X6 at_48 (pc' := 50) rfl (L' := #[.val (.int i0), .val (.int i1), .val (.int i2), .val (.int i3), .val (.int i4), .val (.int (oLen i0)), .val (.int (oC0 i0)), .val (.int (oC1 i0)), .val (.int (oLen i1)), .val (.int (oC0 i1)), .val (.int (oC1 i1)), .val (.int (if (i4 &&& (1 : Int32)) = (0 : Int32) then (0 : Int32) else (1 : Int32))), .unset, .unset, .unset, .unset, .unset, .unset, .unset, .unset, .unset, .unset, .unset]) rfl ?_
  refine o_iload K X6 at_50 (pc' := 52) rfl rfl ?_
  refine o_iconst K X6 at_52 (pc' := 53) rfl (z := (2 : Int32)) rfl ?_
  refine o_iand K X6 at_53 (pc' := 54) rfl (z := (i4 &&& (2 : Int32))) rfl ?_
  suffices J10 : oGoes pp ee bb ss Z T6 (mkF mm 62 #[.val (.int i0), .val (.int i1), .val (.int i2), .val (.int i3), .val (.int i4), .val (.int (oLen i0)), .val (.int (oC0 i0)), .val (.int (oC1 i0)), .val (.int (oLen i1)), .val (.int (oC0 i1)), .val (.int (oC1 i1)), .val (.int (if (i4 &&& (1 : Int32)) = (0 : Int32) then (0 : Int32) else (1 : Int32))), .unset, .unset, .unset, .unset, .unset, .unset, .unset, .unset, .unset, .unset, .unset] [(.int (if (i4 &&& (2 : Int32)) = (0 : Int32) then (0 : Int32) else (1 : Int32)))]) (Q_law Z i0 i1 i2 i3 i4 ca kc vc cs h0) room_1.cells room_1.slots true by
    by_cases c54_9 : (i4 &&& (2 : Int32)) = (0 : Int32)
    · simp only [if_pos c54_9] at J10
      refine o_if_eq_t K X6 at_54 (by decide) (pc' := 61) (by decide) c54_9 ?_
      refine o_iconst K X6 at_61 (pc' := 62) rfl (z := (0 : Int32)) rfl ?_
      exact J10
    · simp only [if_neg c54_9] at J10
      refine o_if_eq_f K X6 at_54 (pc' := 57) rfl c54_9 ?_
      refine o_iconst K X6 at_57 (pc' := 58) rfl (z := (1 : Int32)) rfl ?_
      refine o_goto K X6 at_58 (by decide) (pc' := 62) (by decide) ?_
      exact J10
  refine o_istore K X6 at_62 (pc' := 64) rfl (L' := #[.val (.int i0), .val (.int i1), .val (.int i2), .val (.int i3), .val (.int i4), .val (.int (oLen i0)), .val (.int (oC0 i0)), .val (.int (oC1 i0)), .val (.int (oLen i1)), .val (.int (oC0 i1)), .val (.int (oC1 i1)), .val (.int (if (i4 &&& (1 : Int32)) = (0 : Int32) then (0 : Int32) else (1 : Int32))), .val (.int (if (i4 &&& (2 : Int32)) = (0 : Int32) then (0 : Int32) else (1 : Int32))), .unset, .unset, .unset, .unset, .unset, .unset, .unset, .unset, .unset, .unset]) rfl ?_
  refine o_iload K X6 at_64 (pc' := 66) rfl rfl ?_
  by_cases c66_11 : (i4 &&& (1 : Int32)) = (0 : Int32)
  · refine o_if_eq_t K X6 at_66 (by decide) (pc' := 74) (by decide) (by rw [if_pos c66_11] <;> decide) ?_
    refine o_iloadN K X6 at_74 (pc' := 75) rfl rfl ?_
    refine o_static K X6 (y := (⟨"com/example/phone_conformance_check/phoneconformancecheck/capture/PropertyEqualsPinLaw", "len", "(I)I"⟩ : MethodName)) (w0 hw) (w1 hw) (w2 hw) (w3 hw) (by decide) (rm_len l Z a0 hw i2 h0) all0 (by decide) rfl (argsL := [(.int i2)]) rfl (lenOf pd_law_0 rfl) (W := 0) rfl (by decide) (by decide) (by decide) at_75 (pc' := 78) rfl ?_
    intro v12 T12 h12 FX12 U12
    obtain ⟨rfl, rfl⟩ := U12
    have X12 := FX12 [] (Or.inl rfl) all0
    show oGoes pp ee bb ss Z T12 (mkF mm 78 #[.val (.int i0), .val (.int i1), .val (.int i2), .val (.int i3), .val (.int i4), .val (.int (oLen i0)), .val (.int (oC0 i0)), .val (.int (oC1 i0)), .val (.int (oLen i1)), .val (.int (oC0 i1)), .val (.int (oC1 i1)), .val (.int (if (i4 &&& (1 : Int32)) = (0 : Int32) then (0 : Int32) else (1 : Int32))), .val (.int (if (i4 &&& (2 : Int32)) = (0 : Int32) then (0 : Int32) else (1 : Int32))), .unset, .unset, .unset, .unset, .unset, .unset, .unset, .unset, .unset, .unset] [(.int (oLen i2))]) _ _ _ _
    refine o_istore K X12 at_78 (pc' := 80) rfl (L' := #[.val (.int i0), .val (.int i1), .val (.int i2), .val (.int i3), .val (.int i4), .val (.int (oLen i0)), .val (.int (oC0 i0)), .val (.int (oC1 i0)), .val (.int (oLen i1)), .val (.int (oC0 i1)), .val (.int (oC1 i1)), .val (.int (if (i4 &&& (1 : Int32)) = (0 : Int32) then (0 : Int32) else (1 : Int32))), .val (.int (if (i4 &&& (2 : Int32)) = (0 : Int32) then (0 : Int32) else (1 : Int32))), .val (.int (oLen i2)), .unset, .unset, .unset, .unset, .unset, .unset, .unset, .unset, .unset]) rfl ?_
    refine o_iload K X12 at_80 (pc' := 82) rfl rfl ?_
    refine o_if_eq_t K X12 at_82 (by decide) (pc' := 90) (by decide) (by rw [if_pos c66_11] <;> decide) ?_
    refine o_iloadN K X12 at_90 (pc' := 91) rfl rfl ?_
    refine o_static K X12 (y := (⟨"com/example/phone_conformance_check/phoneconformancecheck/capture/PropertyEqualsPinLaw", "c0", "(I)C"⟩ : MethodName)) (w4 hw) (w5 hw) (w2 hw) (w6 hw) (by decide) (rm_c0 l Z a0 hw i2 h0) all0 (by decide) rfl (argsL := [(.int i2)]) rfl (lenOf pd_law_1 rfl) (W := 0) rfl (by decide) (by decide) (by decide) at_91 (pc' := 94) rfl ?_
    intro v13 T13 h13 FX13 U13
    obtain ⟨rfl, rfl⟩ := U13
    have X13 := FX13 [] (Or.inl rfl) all0
    show oGoes pp ee bb ss Z T13 (mkF mm 94 #[.val (.int i0), .val (.int i1), .val (.int i2), .val (.int i3), .val (.int i4), .val (.int (oLen i0)), .val (.int (oC0 i0)), .val (.int (oC1 i0)), .val (.int (oLen i1)), .val (.int (oC0 i1)), .val (.int (oC1 i1)), .val (.int (if (i4 &&& (1 : Int32)) = (0 : Int32) then (0 : Int32) else (1 : Int32))), .val (.int (if (i4 &&& (2 : Int32)) = (0 : Int32) then (0 : Int32) else (1 : Int32))), .val (.int (oLen i2)), .unset, .unset, .unset, .unset, .unset, .unset, .unset, .unset, .unset] [(.int (oC0 i2))]) _ _ _ _
    refine o_istore K X13 at_94 (pc' := 96) rfl (L' := #[.val (.int i0), .val (.int i1), .val (.int i2), .val (.int i3), .val (.int i4), .val (.int (oLen i0)), .val (.int (oC0 i0)), .val (.int (oC1 i0)), .val (.int (oLen i1)), .val (.int (oC0 i1)), .val (.int (oC1 i1)), .val (.int (if (i4 &&& (1 : Int32)) = (0 : Int32) then (0 : Int32) else (1 : Int32))), .val (.int (if (i4 &&& (2 : Int32)) = (0 : Int32) then (0 : Int32) else (1 : Int32))), .val (.int (oLen i2)), .val (.int (oC0 i2)), .unset, .unset, .unset, .unset, .unset, .unset, .unset, .unset]) rfl ?_
    refine o_iload K X13 at_96 (pc' := 98) rfl rfl ?_
    refine o_if_eq_t K X13 at_98 (by decide) (pc' := 106) (by decide) (by rw [if_pos c66_11] <;> decide) ?_
    refine o_iloadN K X13 at_106 (pc' := 107) rfl rfl ?_
    refine o_static K X13 (y := (⟨"com/example/phone_conformance_check/phoneconformancecheck/capture/PropertyEqualsPinLaw", "c1", "(I)C"⟩ : MethodName)) (w7 hw) (w8 hw) (w2 hw) (w9 hw) (by decide) (rm_c1 l Z a0 hw i2 h0) all0 (by decide) rfl (argsL := [(.int i2)]) rfl (lenOf pd_law_1 rfl) (W := 0) rfl (by decide) (by decide) (by decide) at_107 (pc' := 110) rfl ?_
    intro v14 T14 h14 FX14 U14
    obtain ⟨rfl, rfl⟩ := U14
    have X14 := FX14 [] (Or.inl rfl) all0
    show oGoes pp ee bb ss Z T14 (mkF mm 110 #[.val (.int i0), .val (.int i1), .val (.int i2), .val (.int i3), .val (.int i4), .val (.int (oLen i0)), .val (.int (oC0 i0)), .val (.int (oC1 i0)), .val (.int (oLen i1)), .val (.int (oC0 i1)), .val (.int (oC1 i1)), .val (.int (if (i4 &&& (1 : Int32)) = (0 : Int32) then (0 : Int32) else (1 : Int32))), .val (.int (if (i4 &&& (2 : Int32)) = (0 : Int32) then (0 : Int32) else (1 : Int32))), .val (.int (oLen i2)), .val (.int (oC0 i2)), .unset, .unset, .unset, .unset, .unset, .unset, .unset, .unset] [(.int (oC1 i2))]) _ _ _ _
    refine o_istore K X14 at_110 (pc' := 112) rfl (L' := #[.val (.int i0), .val (.int i1), .val (.int i2), .val (.int i3), .val (.int i4), .val (.int (oLen i0)), .val (.int (oC0 i0)), .val (.int (oC1 i0)), .val (.int (oLen i1)), .val (.int (oC0 i1)), .val (.int (oC1 i1)), .val (.int (if (i4 &&& (1 : Int32)) = (0 : Int32) then (0 : Int32) else (1 : Int32))), .val (.int (if (i4 &&& (2 : Int32)) = (0 : Int32) then (0 : Int32) else (1 : Int32))), .val (.int (oLen i2)), .val (.int (oC0 i2)), .val (.int (oC1 i2)), .unset, .unset, .unset, .unset, .unset, .unset, .unset]) rfl ?_
    refine o_iload K X14 at_112 (pc' := 114) rfl rfl ?_
    by_cases c114_15 : (i4 &&& (2 : Int32)) = (0 : Int32)
    · refine o_if_eq_t K X14 at_114 (by decide) (pc' := 122) (by decide) (by rw [if_pos c114_15] <;> decide) ?_
      refine o_iloadN K X14 at_122 (pc' := 123) rfl rfl ?_
      refine o_static K X14 (y := (⟨"com/example/phone_conformance_check/phoneconformancecheck/capture/PropertyEqualsPinLaw", "len", "(I)I"⟩ : MethodName)) (w0 hw) (w1 hw) (w2 hw) (w3 hw) (by decide) (rm_len l Z a0 hw i3 h0) all0 (by decide) rfl (argsL := [(.int i3)]) rfl (lenOf pd_law_0 rfl) (W := 0) rfl (by decide) (by decide) (by decide) at_123 (pc' := 126) rfl ?_
      intro v16 T16 h16 FX16 U16
      obtain ⟨rfl, rfl⟩ := U16
      have X16 := FX16 [] (Or.inl rfl) all0
      show oGoes pp ee bb ss Z T16 (mkF mm 126 #[.val (.int i0), .val (.int i1), .val (.int i2), .val (.int i3), .val (.int i4), .val (.int (oLen i0)), .val (.int (oC0 i0)), .val (.int (oC1 i0)), .val (.int (oLen i1)), .val (.int (oC0 i1)), .val (.int (oC1 i1)), .val (.int (if (i4 &&& (1 : Int32)) = (0 : Int32) then (0 : Int32) else (1 : Int32))), .val (.int (if (i4 &&& (2 : Int32)) = (0 : Int32) then (0 : Int32) else (1 : Int32))), .val (.int (oLen i2)), .val (.int (oC0 i2)), .val (.int (oC1 i2)), .unset, .unset, .unset, .unset, .unset, .unset, .unset] [(.int (oLen i3))]) _ _ _ _
      refine o_istore K X16 at_126 (pc' := 128) rfl (L' := #[.val (.int i0), .val (.int i1), .val (.int i2), .val (.int i3), .val (.int i4), .val (.int (oLen i0)), .val (.int (oC0 i0)), .val (.int (oC1 i0)), .val (.int (oLen i1)), .val (.int (oC0 i1)), .val (.int (oC1 i1)), .val (.int (if (i4 &&& (1 : Int32)) = (0 : Int32) then (0 : Int32) else (1 : Int32))), .val (.int (if (i4 &&& (2 : Int32)) = (0 : Int32) then (0 : Int32) else (1 : Int32))), .val (.int (oLen i2)), .val (.int (oC0 i2)), .val (.int (oC1 i2)), .val (.int (oLen i3)), .unset, .unset, .unset, .unset, .unset, .unset]) rfl ?_
      refine o_iload K X16 at_128 (pc' := 130) rfl rfl ?_
      refine o_if_eq_t K X16 at_130 (by decide) (pc' := 138) (by decide) (by rw [if_pos c114_15] <;> decide) ?_
      refine o_iloadN K X16 at_138 (pc' := 139) rfl rfl ?_
      refine o_static K X16 (y := (⟨"com/example/phone_conformance_check/phoneconformancecheck/capture/PropertyEqualsPinLaw", "c0", "(I)C"⟩ : MethodName)) (w4 hw) (w5 hw) (w2 hw) (w6 hw) (by decide) (rm_c0 l Z a0 hw i3 h0) all0 (by decide) rfl (argsL := [(.int i3)]) rfl (lenOf pd_law_1 rfl) (W := 0) rfl (by decide) (by decide) (by decide) at_139 (pc' := 142) rfl ?_
      intro v17 T17 h17 FX17 U17
      obtain ⟨rfl, rfl⟩ := U17
      have X17 := FX17 [] (Or.inl rfl) all0
      show oGoes pp ee bb ss Z T17 (mkF mm 142 #[.val (.int i0), .val (.int i1), .val (.int i2), .val (.int i3), .val (.int i4), .val (.int (oLen i0)), .val (.int (oC0 i0)), .val (.int (oC1 i0)), .val (.int (oLen i1)), .val (.int (oC0 i1)), .val (.int (oC1 i1)), .val (.int (if (i4 &&& (1 : Int32)) = (0 : Int32) then (0 : Int32) else (1 : Int32))), .val (.int (if (i4 &&& (2 : Int32)) = (0 : Int32) then (0 : Int32) else (1 : Int32))), .val (.int (oLen i2)), .val (.int (oC0 i2)), .val (.int (oC1 i2)), .val (.int (oLen i3)), .unset, .unset, .unset, .unset, .unset, .unset] [(.int (oC0 i3))]) _ _ _ _
      refine o_istore K X17 at_142 (pc' := 144) rfl (L' := #[.val (.int i0), .val (.int i1), .val (.int i2), .val (.int i3), .val (.int i4), .val (.int (oLen i0)), .val (.int (oC0 i0)), .val (.int (oC1 i0)), .val (.int (oLen i1)), .val (.int (oC0 i1)), .val (.int (oC1 i1)), .val (.int (if (i4 &&& (1 : Int32)) = (0 : Int32) then (0 : Int32) else (1 : Int32))), .val (.int (if (i4 &&& (2 : Int32)) = (0 : Int32) then (0 : Int32) else (1 : Int32))), .val (.int (oLen i2)), .val (.int (oC0 i2)), .val (.int (oC1 i2)), .val (.int (oLen i3)), .val (.int (oC0 i3)), .unset, .unset, .unset, .unset, .unset]) rfl ?_
      refine o_iload K X17 at_144 (pc' := 146) rfl rfl ?_
      refine o_if_eq_t K X17 at_146 (by decide) (pc' := 154) (by decide) (by rw [if_pos c114_15] <;> decide) ?_
      refine o_iloadN K X17 at_154 (pc' := 155) rfl rfl ?_
      refine o_static K X17 (y := (⟨"com/example/phone_conformance_check/phoneconformancecheck/capture/PropertyEqualsPinLaw", "c1", "(I)C"⟩ : MethodName)) (w7 hw) (w8 hw) (w2 hw) (w9 hw) (by decide) (rm_c1 l Z a0 hw i3 h0) all0 (by decide) rfl (argsL := [(.int i3)]) rfl (lenOf pd_law_1 rfl) (W := 0) rfl (by decide) (by decide) (by decide) at_155 (pc' := 158) rfl ?_
      intro v18 T18 h18 FX18 U18
      obtain ⟨rfl, rfl⟩ := U18
      have X18 := FX18 [] (Or.inl rfl) all0
      show oGoes pp ee bb ss Z T18 (mkF mm 158 #[.val (.int i0), .val (.int i1), .val (.int i2), .val (.int i3), .val (.int i4), .val (.int (oLen i0)), .val (.int (oC0 i0)), .val (.int (oC1 i0)), .val (.int (oLen i1)), .val (.int (oC0 i1)), .val (.int (oC1 i1)), .val (.int (if (i4 &&& (1 : Int32)) = (0 : Int32) then (0 : Int32) else (1 : Int32))), .val (.int (if (i4 &&& (2 : Int32)) = (0 : Int32) then (0 : Int32) else (1 : Int32))), .val (.int (oLen i2)), .val (.int (oC0 i2)), .val (.int (oC1 i2)), .val (.int (oLen i3)), .val (.int (oC0 i3)), .unset, .unset, .unset, .unset, .unset] [(.int (oC1 i3))]) _ _ _ _
      refine o_istore K X18 at_158 (pc' := 160) rfl (L' := #[.val (.int i0), .val (.int i1), .val (.int i2), .val (.int i3), .val (.int i4), .val (.int (oLen i0)), .val (.int (oC0 i0)), .val (.int (oC1 i0)), .val (.int (oLen i1)), .val (.int (oC0 i1)), .val (.int (oC1 i1)), .val (.int (if (i4 &&& (1 : Int32)) = (0 : Int32) then (0 : Int32) else (1 : Int32))), .val (.int (if (i4 &&& (2 : Int32)) = (0 : Int32) then (0 : Int32) else (1 : Int32))), .val (.int (oLen i2)), .val (.int (oC0 i2)), .val (.int (oC1 i2)), .val (.int (oLen i3)), .val (.int (oC0 i3)), .val (.int (oC1 i3)), .unset, .unset, .unset, .unset]) rfl ?_
      refine o_iload K X18 at_160 (pc' := 162) rfl rfl ?_
      refine o_iconst K X18 at_162 (pc' := 163) rfl (z := (2 : Int32)) rfl ?_
      refine o_iushr K X18 at_163 (pc' := 164) rfl (z := ((i4.toUInt32 >>> ((2 : Int32) &&& 31).toUInt32).toInt32)) rfl ?_
      refine o_iconst K X18 at_164 (pc' := 165) rfl (z := (3 : Int32)) rfl ?_
      refine o_iand K X18 at_165 (pc' := 166) rfl (z := (((i4.toUInt32 >>> ((2 : Int32) &&& 31).toUInt32).toInt32) &&& (3 : Int32))) rfl ?_
      refine o_istore K X18 at_166 (pc' := 168) rfl (L' := #[.val (.int i0), .val (.int i1), .val (.int i2), .val (.int i3), .val (.int i4), .val (.int (oLen i0)), .val (.int (oC0 i0)), .val (.int (oC1 i0)), .val (.int (oLen i1)), .val (.int (oC0 i1)), .val (.int (oC1 i1)), .val (.int (if (i4 &&& (1 : Int32)) = (0 : Int32) then (0 : Int32) else (1 : Int32))), .val (.int (if (i4 &&& (2 : Int32)) = (0 : Int32) then (0 : Int32) else (1 : Int32))), .val (.int (oLen i2)), .val (.int (oC0 i2)), .val (.int (oC1 i2)), .val (.int (oLen i3)), .val (.int (oC0 i3)), .val (.int (oC1 i3)), .val (.int (((i4.toUInt32 >>> ((2 : Int32) &&& 31).toUInt32).toInt32) &&& (3 : Int32))), .unset, .unset, .unset]) rfl ?_
      refine o_new K X18 (w10 hw) (w11 hw) (w12 hw) at_168 (pc' := 171) rfl (by decide) (by decide) ?_
      intro T19 h19 b19 X19 g19 E19 A19 D19 G19
      have F19_name : Fld Z h19 b19 "com/example/phone_conformance_check/phoneconformancecheck/capture/Property" "name" "Ljava/lang/String;" .null := (D19 (Or.inr (w49 hw)) (ty := (.object "java/lang/String")) (by decide))
      have F19_value : Fld Z h19 b19 "com/example/phone_conformance_check/phoneconformancecheck/capture/Property" "value" "Ljava/lang/String;" .null := (D19 (Or.inr (w52 hw)) (ty := (.object "java/lang/String")) (by decide))
      refine o_dup K X19 at_171 (pc' := 172) rfl rfl ?_
      refine o_iload K X19 at_172 (pc' := 174) rfl rfl ?_
      refine o_iload K X19 at_174 (pc' := 176) rfl rfl ?_
      refine o_iload K X19 at_176 (pc' := 178) rfl rfl ?_
      refine o_static K X19 (y := (⟨"com/example/phone_conformance_check/phoneconformancecheck/capture/PropertyEqualsPinLaw", "mk", "(ICC)Ljava/lang/String;"⟩ : MethodName)) (w13 hw) (w14 hw) (w2 hw) (w15 hw) (by decide) (rm_mk l Z a0 hw (oLen i0) (oC0 i0) (oC1 i0) cs h19 q4 q5 (oChM _).2 (oChM _).2 (oNarMask _ (by decide)) (oNarMask _ (by decide))) all0 (by decide) rfl (argsL := [(.int (oLen i0)), (.int (oC0 i0)), (.int (oC1 i0))]) rfl (lenOf pd_law_2 rfl) (W := 2) rfl (by decide) (by decide) (by decide) at_178 (pc' := 181) rfl ?_
      intro v20 T20 h20 FX20 U20
      obtain ⟨r_20, vb_20, k_20, rfl, u20_0, u20_1, u20_2, u20_3, u20_4, u20_5⟩ := U20
      have G20_r : Z.heap.size ≤ r_20 := Nat.le_trans (Nat.le_trans E0.1 E19.1) u20_1
      have X20 := FX20 [] (Or.inr rfl) all0
      show oGoes pp ee bb ss Z T20 (mkF mm 181 #[.val (.int i0), .val (.int i1), .val (.int i2), .val (.int i3), .val (.int i4), .val (.int (oLen i0)), .val (.int (oC0 i0)), .val (.int (oC1 i0)), .val (.int (oLen i1)), .val (.int (oC0 i1)), .val (.int (oC1 i1)), .val (.int (if (i4 &&& (1 : Int32)) = (0 : Int32) then (0 : Int32) else (1 : Int32))), .val (.int (if (i4 &&& (2 : Int32)) = (0 : Int32) then (0 : Int32) else (1 : Int32))), .val (.int (oLen i2)), .val (.int (oC0 i2)), .val (.int (oC1 i2)), .val (.int (oLen i3)), .val (.int (oC0 i3)), .val (.int (oC1 i3)), .val (.int (((i4.toUInt32 >>> ((2 : Int32) &&& 31).toUInt32).toInt32) &&& (3 : Int32))), .unset, .unset, .unset] [(.ref r_20), (.ref b19), (.ref b19)]) _ _ _ _
      refine o_iload K X20 at_181 (pc' := 183) rfl rfl ?_
      refine o_iload K X20 at_183 (pc' := 185) rfl rfl ?_
      refine o_iload K X20 at_185 (pc' := 187) rfl rfl ?_
      refine o_static K X20 (y := (⟨"com/example/phone_conformance_check/phoneconformancecheck/capture/PropertyEqualsPinLaw", "mk", "(ICC)Ljava/lang/String;"⟩ : MethodName)) (w13 hw) (w14 hw) (w2 hw) (w15 hw) (by decide) (rm_mk l Z a0 hw (oLen i1) (oC0 i1) (oC1 i1) cs h20 q4 q5 (oChM _).2 (oChM _).2 (oNarMask _ (by decide)) (oNarMask _ (by decide))) all0 (by decide) rfl (argsL := [(.int (oLen i1)), (.int (oC0 i1)), (.int (oC1 i1))]) rfl (lenOf pd_law_2 rfl) (W := 3) rfl (by decide) (by decide) (by decide) at_187 (pc' := 190) rfl ?_
      intro v21 T21 h21 FX21 U21
      obtain ⟨r_21, vb_21, k_21, rfl, u21_0, u21_1, u21_2, u21_3, u21_4, u21_5⟩ := U21
      have G21_r : Z.heap.size ≤ r_21 := Nat.le_trans (Nat.le_trans E0.1 (Nat.le_trans E19.1 u20_0.1)) u21_1
      have X21 := FX21 [] (Or.inr rfl) all0
      show oGoes pp ee bb ss Z T21 (mkF mm 190 #[.val (.int i0), .val (.int i1), .val (.int i2), .val (.int i3), .val (.int i4), .val (.int (oLen i0)), .val (.int (oC0 i0)), .val (.int (oC1 i0)), .val (.int (oLen i1)), .val (.int (oC0 i1)), .val (.int (oC1 i1)), .val (.int (if (i4 &&& (1 : Int32)) = (0 : Int32) then (0 : Int32) else (1 : Int32))), .val (.int (if (i4 &&& (2 : Int32)) = (0 : Int32) then (0 : Int32) else (1 : Int32))), .val (.int (oLen i2)), .val (.int (oC0 i2)), .val (.int (oC1 i2)), .val (.int (oLen i3)), .val (.int (oC0 i3)), .val (.int (oC1 i3)), .val (.int (((i4.toUInt32 >>> ((2 : Int32) &&& 31).toUInt32).toInt32) &&& (3 : Int32))), .unset, .unset, .unset] [(.ref r_21), (.ref r_20), (.ref b19), (.ref b19)]) _ _ _ _
      refine o_special K X21 (y := (⟨"com/example/phone_conformance_check/phoneconformancecheck/capture/Property", "<init>", "(Ljava/lang/String;Ljava/lang/String;)V"⟩ : MethodName)) rfl (w38 hw) (w39 hw) (w12 hw) (w40 hw) (by decide) (rm_pinit l Z a0 hw b19 r_20 r_21 h21 ((A19.keep u20_0).keep u21_0) ((F19_name.keep u20_0 nin0).keep u21_0 nin0) ((F19_value.keep u20_0 nin0).keep u21_0 nin0) G19 (u20_2.keep u21_0) u21_2) (allS (List.mem_of_getElem? (i := 0) rfl) all0) (by decide) rfl (argsL := [(.ref r_20), (.ref r_21)]) rfl (lenOf pd_law_3 rfl) (W := 1) rfl (by decide) (by decide) (by decide) at_190 (pc' := 193) rfl ?_
      intro v22 T22 h22 FX22 U22
      obtain ⟨rfl, u22_0, u22_1, u22_2, u22_3⟩ := U22
      have X22 := FX22 [] (Or.inr rfl) all0
      show oGoes pp ee bb ss Z T22 (mkF mm 193 #[.val (.int i0), .val (.int i1), .val (.int i2), .val (.int i3), .val (.int i4), .val (.int (oLen i0)), .val (.int (oC0 i0)), .val (.int (oC1 i0)), .val (.int (oLen i1)), .val (.int (oC0 i1)), .val (.int (oC1 i1)), .val (.int (if (i4 &&& (1 : Int32)) = (0 : Int32) then (0 : Int32) else (1 : Int32))), .val (.int (if (i4 &&& (2 : Int32)) = (0 : Int32) then (0 : Int32) else (1 : Int32))), .val (.int (oLen i2)), .val (.int (oC0 i2)), .val (.int (oC1 i2)), .val (.int (oLen i3)), .val (.int (oC0 i3)), .val (.int (oC1 i3)), .val (.int (((i4.toUInt32 >>> ((2 : Int32) &&& 31).toUInt32).toInt32) &&& (3 : Int32))), .unset, .unset, .unset] [(.ref b19)]) _ _ _ _
      refine o_astore K X22 at_193 (pc' := 195) rfl rfl (L' := #[.val (.int i0), .val (.int i1), .val (.int i2), .val (.int i3), .val (.int i4), .val (.int (oLen i0)), .val (.int (oC0 i0)), .val (.int (oC1 i0)), .val (.int (oLen i1)), .val (.int (oC0 i1)), .val (.int (oC1 i1)), .val (.int (if (i4 &&& (1 : Int32)) = (0 : Int32) then (0 : Int32) else (1 : Int32))), .val (.int (if (i4 &&& (2 : Int32)) = (0 : Int32) then (0 : Int32) else (1 : Int32))), .val (.int (oLen i2)), .val (.int (oC0 i2)), .val (.int (oC1 i2)), .val (.int (oLen i3)), .val (.int (oC0 i3)), .val (.int (oC1 i3)), .val (.int (((i4.toUInt32 >>> ((2 : Int32) &&& 31).toUInt32).toInt32) &&& (3 : Int32))), .val (.ref b19), .unset, .unset]) rfl ?_
      refine o_iload K X22 at_195 (pc' := 197) rfl rfl ?_
      refine o_iconst K X22 at_197 (pc' := 198) rfl (z := (2 : Int32)) rfl ?_
      by_cases c198_23 : (((i4.toUInt32 >>> ((2 : Int32) &&& 31).toUInt32).toInt32) &&& (3 : Int32)) = (2 : Int32)
      · refine o_icmp_ne_f K X22 at_198 (pc' := 201) rfl c198_23 ?_
        refine o_aload K X22 at_201 (pc' := 203) rfl rfl rfl ?_
        refine o_aload K X22 at_203 (pc' := 205) rfl rfl rfl ?_
        refine o_virtual K X22 (y := (⟨"com/example/phone_conformance_check/phoneconformancecheck/capture/Property", "equals", "(Ljava/lang/Object;)Z"⟩ : MethodName)) (z := (⟨"com/example/phone_conformance_check/phoneconformancecheck/capture/Property", "equals", "(Ljava/lang/Object;)Z"⟩ : MethodName)) (w56 hw) (w57 hw) (fun _ q => notFace_of_selects (args := #[]) (mvT q (w59 hw))) (w59 hw) (w58 hw) (w12 hw) (w60 hw) (by decide) u22_1 (rm_peqself l Z a0 hw b19 r_20 r_21 h22 u22_1 u22_2 u22_3 ((u20_2.keep u21_0).keep u22_0) (u21_2.keep u22_0)) all0 (by decide) rfl (argsL := [(.ref b19)]) rfl (lenOf pd_law_4 rfl) (W := 0) rfl (by decide) (by decide) (by decide) at_205 (pc' := 208) rfl ?_
        intro v24 T24 h24 FX24 U24
        obtain ⟨rfl, rfl⟩ := U24
        have X24 := FX24 [] (Or.inl rfl) all0
        show oGoes pp ee bb ss Z T24 (mkF mm 208 #[.val (.int i0), .val (.int i1), .val (.int i2), .val (.int i3), .val (.int i4), .val (.int (oLen i0)), .val (.int (oC0 i0)), .val (.int (oC1 i0)), .val (.int (oLen i1)), .val (.int (oC0 i1)), .val (.int (oC1 i1)), .val (.int (if (i4 &&& (1 : Int32)) = (0 : Int32) then (0 : Int32) else (1 : Int32))), .val (.int (if (i4 &&& (2 : Int32)) = (0 : Int32) then (0 : Int32) else (1 : Int32))), .val (.int (oLen i2)), .val (.int (oC0 i2)), .val (.int (oC1 i2)), .val (.int (oLen i3)), .val (.int (oC0 i3)), .val (.int (oC1 i3)), .val (.int (((i4.toUInt32 >>> ((2 : Int32) &&& 31).toUInt32).toInt32) &&& (3 : Int32))), .val (.ref b19), .unset, .unset] [(.int (1 : Int32))]) _ _ _ _
        refine o_if_eq_f K X24 at_208 (pc' := 211) rfl (by decide) ?_
        refine o_aload K X24 at_211 (pc' := 213) rfl rfl rfl ?_
        refine o_aconst_null K X24 at_213 (pc' := 214) rfl ?_
        refine o_virtual K X24 (y := (⟨"com/example/phone_conformance_check/phoneconformancecheck/capture/Property", "equals", "(Ljava/lang/Object;)Z"⟩ : MethodName)) (z := (⟨"com/example/phone_conformance_check/phoneconformancecheck/capture/Property", "equals", "(Ljava/lang/Object;)Z"⟩ : MethodName)) (w56 hw) (w57 hw) (fun _ q => notFace_of_selects (args := #[]) (mvT q (w59 hw))) (w59 hw) (w58 hw) (w12 hw) (w60 hw) (by decide) u22_1 (rm_peqnull l Z a0 hw b19 h22) all0 (by decide) rfl (argsL := [.null]) rfl (lenOf pd_law_4 rfl) (W := 0) rfl (by decide) (by decide) (by decide) at_214 (pc' := 217) rfl ?_
        intro v25 T25 h25 FX25 U25
        obtain ⟨rfl, rfl⟩ := U25
        have X25 := FX25 [] (Or.inl rfl) all0
        show oGoes pp ee bb ss Z T25 (mkF mm 217 #[.val (.int i0), .val (.int i1), .val (.int i2), .val (.int i3), .val (.int i4), .val (.int (oLen i0)), .val (.int (oC0 i0)), .val (.int (oC1 i0)), .val (.int (oLen i1)), .val (.int (oC0 i1)), .val (.int (oC1 i1)), .val (.int (if (i4 &&& (1 : Int32)) = (0 : Int32) then (0 : Int32) else (1 : Int32))), .val (.int (if (i4 &&& (2 : Int32)) = (0 : Int32) then (0 : Int32) else (1 : Int32))), .val (.int (oLen i2)), .val (.int (oC0 i2)), .val (.int (oC1 i2)), .val (.int (oLen i3)), .val (.int (oC0 i3)), .val (.int (oC1 i3)), .val (.int (((i4.toUInt32 >>> ((2 : Int32) &&& 31).toUInt32).toInt32) &&& (3 : Int32))), .val (.ref b19), .unset, .unset] [(.int (0 : Int32))]) _ _ _ _
        refine o_if_ne_f K X25 at_217 (pc' := 220) rfl (by decide) ?_
        refine o_iconst K X25 at_220 (pc' := 221) rfl (z := (1 : Int32)) rfl ?_
        refine o_goto K X25 at_221 (by decide) (pc' := 225) (by decide) ?_
        refine o_ireturnN K X25 .boolean at_225 rfl (by simp) (z' := (1 : Int32)) (by decide) ?_ (by decide) (by decide) (by decide)
        exact rfl
      · refine o_icmp_ne_t K X22 at_198 (by decide) (pc' := 226) (by decide) c198_23 ?_
        refine o_iload K X22 at_226 (pc' := 228) rfl rfl ?_
        refine o_iconst K X22 at_228 (pc' := 229) rfl (z := (3 : Int32)) rfl ?_
        by_cases c229_26 : (((i4.toUInt32 >>> ((2 : Int32) &&& 31).toUInt32).toInt32) &&& (3 : Int32)) = (3 : Int32)
        · refine o_icmp_ne_f K X22 at_229 (pc' := 232) rfl c229_26 ?_
          refine o_iloadN K X22 at_232 (pc' := 233) rfl rfl ?_
          refine o_static K X22 (y := (⟨"java/lang/Integer", "valueOf", "(I)Ljava/lang/Integer;"⟩ : MethodName)) (w84 hw) (w85 hw) (w86 hw) (w87 hw) (by decide) (rm_valueof l Z a0 hw i2 ca kc vc h22 q0 q1 q2 q3) all0 (by decide) rfl (argsL := [(.int i2)]) rfl (lenOf pd_law_5 rfl) (W := 0) rfl (by decide) (by decide) (by decide) at_233 (pc' := 236) rfl ?_
          intro v27 T27 h27 FX27 U27
          obtain ⟨r_27, rfl, u27_0, u27_1⟩ := U27
          have X27 := FX27 [] (Or.inl rfl) all0
          show oGoes pp ee bb ss Z T27 (mkF mm 236 #[.val (.int i0), .val (.int i1), .val (.int i2), .val (.int i3), .val (.int i4), .val (.int (oLen i0)), .val (.int (oC0 i0)), .val (.int (oC1 i0)), .val (.int (oLen i1)), .val (.int (oC0 i1)), .val (.int (oC1 i1)), .val (.int (if (i4 &&& (1 : Int32)) = (0 : Int32) then (0 : Int32) else (1 : Int32))), .val (.int (if (i4 &&& (2 : Int32)) = (0 : Int32) then (0 : Int32) else (1 : Int32))), .val (.int (oLen i2)), .val (.int (oC0 i2)), .val (.int (oC1 i2)), .val (.int (oLen i3)), .val (.int (oC0 i3)), .val (.int (oC1 i3)), .val (.int (((i4.toUInt32 >>> ((2 : Int32) &&& 31).toUInt32).toInt32) &&& (3 : Int32))), .val (.ref b19), .unset, .unset] [(.ref r_27)]) _ _ _ _
          refine o_astore K X27 at_236 (pc' := 238) rfl rfl (L' := #[.val (.int i0), .val (.int i1), .val (.int i2), .val (.int i3), .val (.int i4), .val (.int (oLen i0)), .val (.int (oC0 i0)), .val (.int (oC1 i0)), .val (.int (oLen i1)), .val (.int (oC0 i1)), .val (.int (oC1 i1)), .val (.int (if (i4 &&& (1 : Int32)) = (0 : Int32) then (0 : Int32) else (1 : Int32))), .val (.int (if (i4 &&& (2 : Int32)) = (0 : Int32) then (0 : Int32) else (1 : Int32))), .val (.int (oLen i2)), .val (.int (oC0 i2)), .val (.int (oC1 i2)), .val (.int (oLen i3)), .val (.int (oC0 i3)), .val (.int (oC1 i3)), .val (.int (((i4.toUInt32 >>> ((2 : Int32) &&& 31).toUInt32).toInt32) &&& (3 : Int32))), .val (.ref b19), .val (.ref r_27), .unset]) rfl ?_
          refine o_iload K X27 at_238 (pc' := 240) rfl rfl ?_
          refine o_iload K X27 at_240 (pc' := 242) rfl rfl ?_
          refine o_iload K X27 at_242 (pc' := 244) rfl rfl ?_
          refine o_static K X27 (y := (⟨"com/example/phone_conformance_check/phoneconformancecheck/capture/PropertyEqualsPinLaw", "mk", "(ICC)Ljava/lang/String;"⟩ : MethodName)) (w13 hw) (w14 hw) (w2 hw) (w15 hw) (by decide) (rm_mk l Z a0 hw (oLen i0) (oC0 i0) (oC1 i0) cs h27 q4 q5 (oChM _).2 (oChM _).2 (oNarMask _ (by decide)) (oNarMask _ (by decide))) all0 (by decide) rfl (argsL := [(.int (oLen i0)), (.int (oC0 i0)), (.int (oC1 i0))]) rfl (lenOf pd_law_2 rfl) (W := 0) rfl (by decide) (by decide) (by decide) at_244 (pc' := 247) rfl ?_
          intro v28 T28 h28 FX28 U28
          obtain ⟨r_28, vb_28, k_28, rfl, u28_0, u28_1, u28_2, u28_3, u28_4, u28_5⟩ := U28
          have G28_r : Z.heap.size ≤ r_28 := Nat.le_trans (Nat.le_trans E0.1 (Nat.le_trans (Nat.le_trans (Nat.le_trans (Nat.le_trans E19.1 u20_0.1) u21_0.1) u22_0.1) u27_0.1)) u28_1
          have X28 := FX28 [] (Or.inr rfl) all0
          show oGoes pp ee bb ss Z T28 (mkF mm 247 #[.val (.int i0), .val (.int i1), .val (.int i2), .val (.int i3), .val (.int i4), .val (.int (oLen i0)), .val (.int (oC0 i0)), .val (.int (oC1 i0)), .val (.int (oLen i1)), .val (.int (oC0 i1)), .val (.int (oC1 i1)), .val (.int (if (i4 &&& (1 : Int32)) = (0 : Int32) then (0 : Int32) else (1 : Int32))), .val (.int (if (i4 &&& (2 : Int32)) = (0 : Int32) then (0 : Int32) else (1 : Int32))), .val (.int (oLen i2)), .val (.int (oC0 i2)), .val (.int (oC1 i2)), .val (.int (oLen i3)), .val (.int (oC0 i3)), .val (.int (oC1 i3)), .val (.int (((i4.toUInt32 >>> ((2 : Int32) &&& 31).toUInt32).toInt32) &&& (3 : Int32))), .val (.ref b19), .val (.ref r_27), .unset] [(.ref r_28)]) _ _ _ _
          refine o_astore K X28 at_247 (pc' := 249) rfl rfl (L' := #[.val (.int i0), .val (.int i1), .val (.int i2), .val (.int i3), .val (.int i4), .val (.int (oLen i0)), .val (.int (oC0 i0)), .val (.int (oC1 i0)), .val (.int (oLen i1)), .val (.int (oC0 i1)), .val (.int (oC1 i1)), .val (.int (if (i4 &&& (1 : Int32)) = (0 : Int32) then (0 : Int32) else (1 : Int32))), .val (.int (if (i4 &&& (2 : Int32)) = (0 : Int32) then (0 : Int32) else (1 : Int32))), .val (.int (oLen i2)), .val (.int (oC0 i2)), .val (.int (oC1 i2)), .val (.int (oLen i3)), .val (.int (oC0 i3)), .val (.int (oC1 i3)), .val (.int (((i4.toUInt32 >>> ((2 : Int32) &&& 31).toUInt32).toInt32) &&& (3 : Int32))), .val (.ref b19), .val (.ref r_27), .val (.ref r_28)]) rfl ?_
          refine o_aload K X28 at_249 (pc' := 251) rfl rfl rfl ?_
          refine o_aload K X28 at_251 (pc' := 253) rfl rfl rfl ?_
          refine o_virtual K X28 (y := (⟨"com/example/phone_conformance_check/phoneconformancecheck/capture/Property", "equals", "(Ljava/lang/Object;)Z"⟩ : MethodName)) (z := (⟨"com/example/phone_conformance_check/phoneconformancecheck/capture/Property", "equals", "(Ljava/lang/Object;)Z"⟩ : MethodName)) (w56 hw) (w57 hw) (fun _ q => notFace_of_selects (args := #[]) (mvT q (w59 hw))) (w59 hw) (w58 hw) (w12 hw) (w60 hw) (by decide) ((u22_1.keep u27_0).keep u28_0) (rm_peqint l Z a0 hw b19 r_27 h28 (u27_1.keep u28_0)) all0 (by decide) rfl (argsL := [(.ref r_27)]) rfl (lenOf pd_law_4 rfl) (W := 0) rfl (by decide) (by decide) (by decide) at_253 (pc' := 256) rfl ?_
          intro v29 T29 h29 FX29 U29
          obtain ⟨rfl, rfl⟩ := U29
          have X29 := FX29 [] (Or.inl rfl) all0
          show oGoes pp ee bb ss Z T29 (mkF mm 256 #[.val (.int i0), .val (.int i1), .val (.int i2), .val (.int i3), .val (.int i4), .val (.int (oLen i0)), .val (.int (oC0 i0)), .val (.int (oC1 i0)), .val (.int (oLen i1)), .val (.int (oC0 i1)), .val (.int (oC1 i1)), .val (.int (if (i4 &&& (1 : Int32)) = (0 : Int32) then (0 : Int32) else (1 : Int32))), .val (.int (if (i4 &&& (2 : Int32)) = (0 : Int32) then (0 : Int32) else (1 : Int32))), .val (.int (oLen i2)), .val (.int (oC0 i2)), .val (.int (oC1 i2)), .val (.int (oLen i3)), .val (.int (oC0 i3)), .val (.int (oC1 i3)), .val (.int (((i4.toUInt32 >>> ((2 : Int32) &&& 31).toUInt32).toInt32) &&& (3 : Int32))), .val (.ref b19), .val (.ref r_27), .val (.ref r_28)] [(.int (0 : Int32))]) _ _ _ _
          refine o_if_ne_f K X29 at_256 (pc' := 259) rfl (by decide) ?_
          refine o_aload K X29 at_259 (pc' := 261) rfl rfl rfl ?_
          refine o_aload K X29 at_261 (pc' := 263) rfl rfl rfl ?_
          refine o_virtual K X29 (y := (⟨"com/example/phone_conformance_check/phoneconformancecheck/capture/Property", "equals", "(Ljava/lang/Object;)Z"⟩ : MethodName)) (z := (⟨"com/example/phone_conformance_check/phoneconformancecheck/capture/Property", "equals", "(Ljava/lang/Object;)Z"⟩ : MethodName)) (w56 hw) (w57 hw) (fun _ q => notFace_of_selects (args := #[]) (mvT q (w59 hw))) (w59 hw) (w58 hw) (w12 hw) (w60 hw) (by decide) ((u22_1.keep u27_0).keep u28_0) (rm_peqstr l Z a0 hw b19 r_28 h28 u28_2) all0 (by decide) rfl (argsL := [(.ref r_28)]) rfl (lenOf pd_law_4 rfl) (W := 0) rfl (by decide) (by decide) (by decide) at_263 (pc' := 266) rfl ?_
          intro v30 T30 h30 FX30 U30
          obtain ⟨rfl, rfl⟩ := U30
          have X30 := FX30 [] (Or.inl rfl) all0
          show oGoes pp ee bb ss Z T30 (mkF mm 266 #[.val (.int i0), .val (.int i1), .val (.int i2), .val (.int i3), .val (.int i4), .val (.int (oLen i0)), .val (.int (oC0 i0)), .val (.int (oC1 i0)), .val (.int (oLen i1)), .val (.int (oC0 i1)), .val (.int (oC1 i1)), .val (.int (if (i4 &&& (1 : Int32)) = (0 : Int32) then (0 : Int32) else (1 : Int32))), .val (.int (if (i4 &&& (2 : Int32)) = (0 : Int32) then (0 : Int32) else (1 : Int32))), .val (.int (oLen i2)), .val (.int (oC0 i2)), .val (.int (oC1 i2)), .val (.int (oLen i3)), .val (.int (oC0 i3)), .val (.int (oC1 i3)), .val (.int (((i4.toUInt32 >>> ((2 : Int32) &&& 31).toUInt32).toInt32) &&& (3 : Int32))), .val (.ref b19), .val (.ref r_27), .val (.ref r_28)] [(.int (0 : Int32))]) _ _ _ _
          refine o_if_ne_f K X30 at_266 (pc' := 269) rfl (by decide) ?_
          refine o_iconst K X30 at_269 (pc' := 270) rfl (z := (1 : Int32)) rfl ?_
          refine o_goto K X30 at_270 (by decide) (pc' := 274) (by decide) ?_
          refine o_ireturnN K X30 .boolean at_274 rfl (by simp) (z' := (1 : Int32)) (by decide) ?_ (by decide) (by decide) (by decide)
          exact rfl
        · refine o_icmp_ne_t K X22 at_229 (by decide) (pc' := 275) (by decide) c229_26 ?_
          refine o_new K X22 (w10 hw) (w11 hw) (w12 hw) at_275 (pc' := 278) rfl (by decide) (by decide) ?_
          intro T31 h31 b31 X31 g31 E31 A31 D31 G31
          have F31_name : Fld Z h31 b31 "com/example/phone_conformance_check/phoneconformancecheck/capture/Property" "name" "Ljava/lang/String;" .null := (D31 (Or.inr (w49 hw)) (ty := (.object "java/lang/String")) (by decide))
          have F31_value : Fld Z h31 b31 "com/example/phone_conformance_check/phoneconformancecheck/capture/Property" "value" "Ljava/lang/String;" .null := (D31 (Or.inr (w52 hw)) (ty := (.object "java/lang/String")) (by decide))
          refine o_dup K X31 at_278 (pc' := 279) rfl rfl ?_
          refine o_iload K X31 at_279 (pc' := 281) rfl rfl ?_
          refine o_iload K X31 at_281 (pc' := 283) rfl rfl ?_
          refine o_iload K X31 at_283 (pc' := 285) rfl rfl ?_
          refine o_static K X31 (y := (⟨"com/example/phone_conformance_check/phoneconformancecheck/capture/PropertyEqualsPinLaw", "mk", "(ICC)Ljava/lang/String;"⟩ : MethodName)) (w13 hw) (w14 hw) (w2 hw) (w15 hw) (by decide) (rm_mk l Z a0 hw (oLen i2) (oC0 i2) (oC1 i2) cs h31 q4 q5 (oChM _).2 (oChM _).2 (oNarMask _ (by decide)) (oNarMask _ (by decide))) all0 (by decide) rfl (argsL := [(.int (oLen i2)), (.int (oC0 i2)), (.int (oC1 i2))]) rfl (lenOf pd_law_2 rfl) (W := 2) rfl (by decide) (by decide) (by decide) at_285 (pc' := 288) rfl ?_
          intro v32 T32 h32 FX32 U32
          obtain ⟨r_32, vb_32, k_32, rfl, u32_0, u32_1, u32_2, u32_3, u32_4, u32_5⟩ := U32
          have G32_r : Z.heap.size ≤ r_32 := Nat.le_trans (Nat.le_trans E0.1 (Nat.le_trans (Nat.le_trans (Nat.le_trans (Nat.le_trans E19.1 u20_0.1) u21_0.1) u22_0.1) E31.1)) u32_1
          have X32 := FX32 [] (Or.inr rfl) all0
          show oGoes pp ee bb ss Z T32 (mkF mm 288 #[.val (.int i0), .val (.int i1), .val (.int i2), .val (.int i3), .val (.int i4), .val (.int (oLen i0)), .val (.int (oC0 i0)), .val (.int (oC1 i0)), .val (.int (oLen i1)), .val (.int (oC0 i1)), .val (.int (oC1 i1)), .val (.int (if (i4 &&& (1 : Int32)) = (0 : Int32) then (0 : Int32) else (1 : Int32))), .val (.int (if (i4 &&& (2 : Int32)) = (0 : Int32) then (0 : Int32) else (1 : Int32))), .val (.int (oLen i2)), .val (.int (oC0 i2)), .val (.int (oC1 i2)), .val (.int (oLen i3)), .val (.int (oC0 i3)), .val (.int (oC1 i3)), .val (.int (((i4.toUInt32 >>> ((2 : Int32) &&& 31).toUInt32).toInt32) &&& (3 : Int32))), .val (.ref b19), .unset, .unset] [(.ref r_32), (.ref b31), (.ref b31)]) _ _ _ _
          refine o_iload K X32 at_288 (pc' := 290) rfl rfl ?_
          refine o_iload K X32 at_290 (pc' := 292) rfl rfl ?_
          refine o_iload K X32 at_292 (pc' := 294) rfl rfl ?_
          refine o_static K X32 (y := (⟨"com/example/phone_conformance_check/phoneconformancecheck/capture/PropertyEqualsPinLaw", "mk", "(ICC)Ljava/lang/String;"⟩ : MethodName)) (w13 hw) (w14 hw) (w2 hw) (w15 hw) (by decide) (rm_mk l Z a0 hw (oLen i3) (oC0 i3) (oC1 i3) cs h32 q4 q5 (oChM _).2 (oChM _).2 (oNarMask _ (by decide)) (oNarMask _ (by decide))) all0 (by decide) rfl (argsL := [(.int (oLen i3)), (.int (oC0 i3)), (.int (oC1 i3))]) rfl (lenOf pd_law_2 rfl) (W := 3) rfl (by decide) (by decide) (by decide) at_294 (pc' := 297) rfl ?_
          intro v33 T33 h33 FX33 U33
          obtain ⟨r_33, vb_33, k_33, rfl, u33_0, u33_1, u33_2, u33_3, u33_4, u33_5⟩ := U33
          have G33_r : Z.heap.size ≤ r_33 := Nat.le_trans (Nat.le_trans E0.1 (Nat.le_trans (Nat.le_trans (Nat.le_trans (Nat.le_trans (Nat.le_trans E19.1 u20_0.1) u21_0.1) u22_0.1) E31.1) u32_0.1)) u33_1
          have X33 := FX33 [] (Or.inr rfl) all0
          show oGoes pp ee bb ss Z T33 (mkF mm 297 #[.val (.int i0), .val (.int i1), .val (.int i2), .val (.int i3), .val (.int i4), .val (.int (oLen i0)), .val (.int (oC0 i0)), .val (.int (oC1 i0)), .val (.int (oLen i1)), .val (.int (oC0 i1)), .val (.int (oC1 i1)), .val (.int (if (i4 &&& (1 : Int32)) = (0 : Int32) then (0 : Int32) else (1 : Int32))), .val (.int (if (i4 &&& (2 : Int32)) = (0 : Int32) then (0 : Int32) else (1 : Int32))), .val (.int (oLen i2)), .val (.int (oC0 i2)), .val (.int (oC1 i2)), .val (.int (oLen i3)), .val (.int (oC0 i3)), .val (.int (oC1 i3)), .val (.int (((i4.toUInt32 >>> ((2 : Int32) &&& 31).toUInt32).toInt32) &&& (3 : Int32))), .val (.ref b19), .unset, .unset] [(.ref r_33), (.ref r_32), (.ref b31), (.ref b31)]) _ _ _ _
          refine o_special K X33 (y := (⟨"com/example/phone_conformance_check/phoneconformancecheck/capture/Property", "<init>", "(Ljava/lang/String;Ljava/lang/String;)V"⟩ : MethodName)) rfl (w38 hw) (w39 hw) (w12 hw) (w40 hw) (by decide) (rm_pinit l Z a0 hw b31 r_32 r_33 h33 ((A31.keep u32_0).keep u33_0) ((F31_name.keep u32_0 nin0).keep u33_0 nin0) ((F31_value.keep u32_0 nin0).keep u33_0 nin0) G31 (u32_2.keep u33_0) u33_2) (allS (List.mem_of_getElem? (i := 0) rfl) all0) (by decide) rfl (argsL := [(.ref r_32), (.ref r_33)]) rfl (lenOf pd_law_3 rfl) (W := 1) rfl (by decide) (by decide) (by decide) at_297 (pc' := 300) rfl ?_
          intro v34 T34 h34 FX34 U34
          obtain ⟨rfl, u34_0, u34_1, u34_2, u34_3⟩ := U34
          have X34 := FX34 [] (Or.inr rfl) all0
          show oGoes pp ee bb ss Z T34 (mkF mm 300 #[.val (.int i0), .val (.int i1), .val (.int i2), .val (.int i3), .val (.int i4), .val (.int (oLen i0)), .val (.int (oC0 i0)), .val (.int (oC1 i0)), .val (.int (oLen i1)), .val (.int (oC0 i1)), .val (.int (oC1 i1)), .val (.int (if (i4 &&& (1 : Int32)) = (0 : Int32) then (0 : Int32) else (1 : Int32))), .val (.int (if (i4 &&& (2 : Int32)) = (0 : Int32) then (0 : Int32) else (1 : Int32))), .val (.int (oLen i2)), .val (.int (oC0 i2)), .val (.int (oC1 i2)), .val (.int (oLen i3)), .val (.int (oC0 i3)), .val (.int (oC1 i3)), .val (.int (((i4.toUInt32 >>> ((2 : Int32) &&& 31).toUInt32).toInt32) &&& (3 : Int32))), .val (.ref b19), .unset, .unset] [(.ref b31)]) _ _ _ _
          refine o_astore K X34 at_300 (pc' := 302) rfl rfl (L' := #[.val (.int i0), .val (.int i1), .val (.int i2), .val (.int i3), .val (.int i4), .val (.int (oLen i0)), .val (.int (oC0 i0)), .val (.int (oC1 i0)), .val (.int (oLen i1)), .val (.int (oC0 i1)), .val (.int (oC1 i1)), .val (.int (if (i4 &&& (1 : Int32)) = (0 : Int32) then (0 : Int32) else (1 : Int32))), .val (.int (if (i4 &&& (2 : Int32)) = (0 : Int32) then (0 : Int32) else (1 : Int32))), .val (.int (oLen i2)), .val (.int (oC0 i2)), .val (.int (oC1 i2)), .val (.int (oLen i3)), .val (.int (oC0 i3)), .val (.int (oC1 i3)), .val (.int (((i4.toUInt32 >>> ((2 : Int32) &&& 31).toUInt32).toInt32) &&& (3 : Int32))), .val (.ref b19), .val (.ref b31), .unset]) rfl ?_
          refine o_iload K X34 at_302 (pc' := 304) rfl rfl ?_
          refine o_iload K X34 at_304 (pc' := 306) rfl rfl ?_
          refine o_iload K X34 at_306 (pc' := 308) rfl rfl ?_
          refine o_iload K X34 at_308 (pc' := 310) rfl rfl ?_
          refine o_iload K X34 at_310 (pc' := 312) rfl rfl ?_
          refine o_iload K X34 at_312 (pc' := 314) rfl rfl ?_
          refine o_static K X34 (y := (⟨"com/example/phone_conformance_check/phoneconformancecheck/capture/PropertyEqualsPinLaw", "same", "(ICCICC)Z"⟩ : MethodName)) (w53 hw) (w54 hw) (w2 hw) (w55 hw) (by decide) (rm_same l Z a0 hw (oLen i0) (oC0 i0) (oC1 i0) (oLen i2) (oC0 i2) (oC1 i2) h34) all0 (by decide) rfl (argsL := [(.int (oLen i0)), (.int (oC0 i0)), (.int (oC1 i0)), (.int (oLen i2)), (.int (oC0 i2)), (.int (oC1 i2))]) rfl (lenOf pd_law_6 rfl) (W := 0) rfl (by decide) (by decide) (by decide) at_314 (pc' := 317) rfl ?_
          intro v35 T35 h35 FX35 U35
          obtain ⟨rfl, rfl⟩ := U35
          have X35 := FX35 [] (Or.inl rfl) all0
          show oGoes pp ee bb ss Z T35 (mkF mm 317 #[.val (.int i0), .val (.int i1), .val (.int i2), .val (.int i3), .val (.int i4), .val (.int (oLen i0)), .val (.int (oC0 i0)), .val (.int (oC1 i0)), .val (.int (oLen i1)), .val (.int (oC0 i1)), .val (.int (oC1 i1)), .val (.int (if (i4 &&& (1 : Int32)) = (0 : Int32) then (0 : Int32) else (1 : Int32))), .val (.int (if (i4 &&& (2 : Int32)) = (0 : Int32) then (0 : Int32) else (1 : Int32))), .val (.int (oLen i2)), .val (.int (oC0 i2)), .val (.int (oC1 i2)), .val (.int (oLen i3)), .val (.int (oC0 i3)), .val (.int (oC1 i3)), .val (.int (((i4.toUInt32 >>> ((2 : Int32) &&& 31).toUInt32).toInt32) &&& (3 : Int32))), .val (.ref b19), .val (.ref b31), .unset] [(.int (oSm (oLen i0) (oC0 i0) (oC1 i0) (oLen i2) (oC0 i2) (oC1 i2)))]) _ _ _ _
          by_cases c317_36 : (oSm (oLen i0) (oC0 i0) (oC1 i0) (oLen i2) (oC0 i2) (oC1 i2)) = (0 : Int32)
          · refine o_if_eq_t K X35 at_317 (by decide) (pc' := 342) (by decide) c317_36 ?_
            refine o_iconst K X35 at_342 (pc' := 343) rfl (z := (0 : Int32)) rfl ?_
            refine o_istore K X35 at_343 (pc' := 345) rfl (L' := #[.val (.int i0), .val (.int i1), .val (.int i2), .val (.int i3), .val (.int i4), .val (.int (oLen i0)), .val (.int (oC0 i0)), .val (.int (oC1 i0)), .val (.int (oLen i1)), .val (.int (oC0 i1)), .val (.int (oC1 i1)), .val (.int (if (i4 &&& (1 : Int32)) = (0 : Int32) then (0 : Int32) else (1 : Int32))), .val (.int (if (i4 &&& (2 : Int32)) = (0 : Int32) then (0 : Int32) else (1 : Int32))), .val (.int (oLen i2)), .val (.int (oC0 i2)), .val (.int (oC1 i2)), .val (.int (oLen i3)), .val (.int (oC0 i3)), .val (.int (oC1 i3)), .val (.int (((i4.toUInt32 >>> ((2 : Int32) &&& 31).toUInt32).toInt32) &&& (3 : Int32))), .val (.ref b19), .val (.ref b31), .val (.int (0 : Int32))]) rfl ?_
            refine o_aload K X35 at_345 (pc' := 347) rfl rfl rfl ?_
            refine o_aload K X35 at_347 (pc' := 349) rfl rfl rfl ?_
            refine o_virtual K X35 (y := (⟨"com/example/phone_conformance_check/phoneconformancecheck/capture/Property", "equals", "(Ljava/lang/Object;)Z"⟩ : MethodName)) (z := (⟨"com/example/phone_conformance_check/phoneconformancecheck/capture/Property", "equals", "(Ljava/lang/Object;)Z"⟩ : MethodName)) (w56 hw) (w57 hw) (fun _ q => notFace_of_selects (args := #[]) (mvT q (w59 hw))) (w59 hw) (w58 hw) (w12 hw) (w60 hw) (by decide) ((((u22_1.ext E31).keep u32_0).keep u33_0).keep u34_0) (rm_peq l Z a0 hw b19 b31 r_20 vb_20 r_21 vb_21 r_32 vb_32 r_33 vb_33 k_20 k_21 k_32 k_33 (oLen i0) (oC0 i0) (oC1 i0) (oLen i2) (oC0 i2) (oC1 i2) (oLen i1) (oC0 i1) (oC1 i1) (oLen i3) (oC0 i3) (oC1 i3) cs h34 ((((u22_1.ext E31).keep u32_0).keep u33_0).keep u34_0) ((((u22_2.ext E31).keep u32_0 nin0).keep u33_0 nin0).keep u34_0 (ninS (Nat.ne_of_lt (Nat.lt_of_lt_of_le (Nat.lt_of_lt_of_le A19.lt (Nat.le_trans (Nat.le_trans u20_0.1 u21_0.1) u22_0.1)) (Nat.le_of_eq g31.symm))) nin0)) ((((u22_3.ext E31).keep u32_0 nin0).keep u33_0 nin0).keep u34_0 (ninS (Nat.ne_of_lt (Nat.lt_of_lt_of_le (Nat.lt_of_lt_of_le A19.lt (Nat.le_trans (Nat.le_trans u20_0.1 u21_0.1) u22_0.1)) (Nat.le_of_eq g31.symm))) nin0)) u34_1 u34_2 u34_3 ((((((u20_2.keep u21_0).keep u22_0).ext E31).keep u32_0).keep u33_0).keep u34_0) ((((((u20_3.keep u21_0 nin0).keep u22_0 (ninS (Ne.symm (Nat.ne_of_lt (Nat.lt_of_lt_of_le A19.lt u20_1))) nin0)).ext E31).keep u32_0 nin0).keep u33_0 nin0).keep u34_0 (ninS (Nat.ne_of_lt (Nat.lt_of_lt_of_le (Nat.lt_of_lt_of_le u20_2.lt (Nat.le_trans u21_0.1 u22_0.1)) (Nat.le_of_eq g31.symm))) nin0)) ((((((u20_4.keep u21_0 nin0).keep u22_0 (ninS (Ne.symm (Nat.ne_of_lt (Nat.lt_of_lt_of_le A19.lt u20_1))) nin0)).ext E31).keep u32_0 nin0).keep u33_0 nin0).keep u34_0 (ninS (Nat.ne_of_lt (Nat.lt_of_lt_of_le (Nat.lt_of_lt_of_le u20_2.lt (Nat.le_trans u21_0.1 u22_0.1)) (Nat.le_of_eq g31.symm))) nin0)) ((((((u20_5.keep u21_0 nin0).keep u22_0 (ninS (oNeArr (A19.keep u20_0) (w11 hw) u20_5) nin0)).ext E31).keep u32_0 nin0).keep u33_0 nin0).keep u34_0 (ninS (Nat.ne_of_lt (Nat.lt_of_lt_of_le (Nat.lt_of_lt_of_le u20_5.lt (Nat.le_trans u21_0.1 u22_0.1)) (Nat.le_of_eq g31.symm))) nin0)) (((((u21_2.keep u22_0).ext E31).keep u32_0).keep u33_0).keep u34_0) (((((u21_3.keep u22_0 (ninS (Ne.symm (Nat.ne_of_lt (Nat.lt_of_lt_of_le (Nat.lt_of_lt_of_le A19.lt u20_0.1) u21_1))) nin0)).ext E31).keep u32_0 nin0).keep u33_0 nin0).keep u34_0 (ninS (Nat.ne_of_lt (Nat.lt_of_lt_of_le (Nat.lt_of_lt_of_le u21_2.lt u22_0.1) (Nat.le_of_eq g31.symm))) nin0)) (((((u21_4.keep u22_0 (ninS (Ne.symm (Nat.ne_of_lt (Nat.lt_of_lt_of_le (Nat.lt_of_lt_of_le A19.lt u20_0.1) u21_1))) nin0)).ext E31).keep u32_0 nin0).keep u33_0 nin0).keep u34_0 (ninS (Nat.ne_of_lt (Nat.lt_of_lt_of_le (Nat.lt_of_lt_of_le u21_2.lt u22_0.1) (Nat.le_of_eq g31.symm))) nin0)) (((((u21_5.keep u22_0 (ninS (oNeArr ((A19.keep u20_0).keep u21_0) (w11 hw) u21_5) nin0)).ext E31).keep u32_0 nin0).keep u33_0 nin0).keep u34_0 (ninS (Nat.ne_of_lt (Nat.lt_of_lt_of_le (Nat.lt_of_lt_of_le u21_5.lt u22_0.1) (Nat.le_of_eq g31.symm))) nin0)) ((u32_2.keep u33_0).keep u34_0) ((u32_3.keep u33_0 nin0).keep u34_0 (ninS (Ne.symm (Nat.ne_of_lt (Nat.lt_of_lt_of_le A31.lt u32_1))) nin0)) ((u32_4.keep u33_0 nin0).keep u34_0 (ninS (Ne.symm (Nat.ne_of_lt (Nat.lt_of_lt_of_le A31.lt u32_1))) nin0)) ((u32_5.keep u33_0 nin0).keep u34_0 (ninS (oNeArr (A31.keep u32_0) (w11 hw) u32_5) nin0)) (u33_2.keep u34_0) (u33_3.keep u34_0 (ninS (Ne.symm (Nat.ne_of_lt (Nat.lt_of_lt_of_le (Nat.lt_of_lt_of_le A31.lt u32_0.1) u33_1))) nin0)) (u33_4.keep u34_0 (ninS (Ne.symm (Nat.ne_of_lt (Nat.lt_of_lt_of_le (Nat.lt_of_lt_of_le A31.lt u32_0.1) u33_1))) nin0)) (u33_5.keep u34_0 (ninS (oNeArr ((A31.keep u32_0).keep u33_0) (w11 hw) u33_5) nin0)) (Nat.ne_of_lt (Nat.lt_of_lt_of_le (Nat.lt_of_lt_of_le u20_2.lt (Nat.le_trans (Nat.le_trans u21_0.1 u22_0.1) E31.1)) u32_1)) (Nat.ne_of_lt (Nat.lt_of_lt_of_le (Nat.lt_of_lt_of_le u21_2.lt (Nat.le_trans (Nat.le_trans u22_0.1 E31.1) u32_0.1)) u33_1)) (oChM _) (oChM _) (oChM _) (oChM _) (oLenL _) (oLenL _) (oChM _) (oChM _) (oChM _) (oChM _) (oLenL _) (oLenL _) q4 q5) all0 (by decide) rfl (argsL := [(.ref b31)]) rfl (lenOf pd_law_4 rfl) (W := 0) rfl (by decide) (by decide) (by decide) at_349 (pc' := 352) rfl ?_
            intro v37 T37 h37 FX37 U37
            obtain ⟨rfl, rfl⟩ := U37
            have X37 := FX37 [] (Or.inl rfl) all0
            show oGoes pp ee bb ss Z T37 (mkF mm 352 #[.val (.int i0), .val (.int i1), .val (.int i2), .val (.int i3), .val (.int i4), .val (.int (oLen i0)), .val (.int (oC0 i0)), .val (.int (oC1 i0)), .val (.int (oLen i1)), .val (.int (oC0 i1)), .val (.int (oC1 i1)), .val (.int (if (i4 &&& (1 : Int32)) = (0 : Int32) then (0 : Int32) else (1 : Int32))), .val (.int (if (i4 &&& (2 : Int32)) = (0 : Int32) then (0 : Int32) else (1 : Int32))), .val (.int (oLen i2)), .val (.int (oC0 i2)), .val (.int (oC1 i2)), .val (.int (oLen i3)), .val (.int (oC0 i3)), .val (.int (oC1 i3)), .val (.int (((i4.toUInt32 >>> ((2 : Int32) &&& 31).toUInt32).toInt32) &&& (3 : Int32))), .val (.ref b19), .val (.ref b31), .val (.int (0 : Int32))] [(.int (oSm2 (oSm (oLen i0) (oC0 i0) (oC1 i0) (oLen i2) (oC0 i2) (oC1 i2)) (oSm (oLen i1) (oC0 i1) (oC1 i1) (oLen i3) (oC0 i3) (oC1 i3))))]) _ _ _ _
            refine o_iload K X37 at_352 (pc' := 354) rfl rfl ?_
            refine o_icmp_ne_f K X37 at_354 (pc' := 357) rfl (by have e0 := oSmFp c317_36; simp [oSm2, c317_36, e0]) ?_
            refine o_aload K X37 at_357 (pc' := 359) rfl rfl rfl ?_
            refine o_aload K X37 at_359 (pc' := 361) rfl rfl rfl ?_
            refine o_virtual K X37 (y := (⟨"com/example/phone_conformance_check/phoneconformancecheck/capture/Property", "equals", "(Ljava/lang/Object;)Z"⟩ : MethodName)) (z := (⟨"com/example/phone_conformance_check/phoneconformancecheck/capture/Property", "equals", "(Ljava/lang/Object;)Z"⟩ : MethodName)) (w56 hw) (w57 hw) (fun _ q => notFace_of_selects (args := #[]) (mvT q (w59 hw))) (w59 hw) (w58 hw) (w12 hw) (w60 hw) (by decide) u34_1 (rm_peq l Z a0 hw b31 b19 r_32 vb_32 r_33 vb_33 r_20 vb_20 r_21 vb_21 k_32 k_33 k_20 k_21 (oLen i2) (oC0 i2) (oC1 i2) (oLen i0) (oC0 i0) (oC1 i0) (oLen i3) (oC0 i3) (oC1 i3) (oLen i1) (oC0 i1) (oC1 i1) cs h34 u34_1 u34_2 u34_3 ((((u22_1.ext E31).keep u32_0).keep u33_0).keep u34_0) ((((u22_2.ext E31).keep u32_0 nin0).keep u33_0 nin0).keep u34_0 (ninS (Nat.ne_of_lt (Nat.lt_of_lt_of_le (Nat.lt_of_lt_of_le A19.lt (Nat.le_trans (Nat.le_trans u20_0.1 u21_0.1) u22_0.1)) (Nat.le_of_eq g31.symm))) nin0)) ((((u22_3.ext E31).keep u32_0 nin0).keep u33_0 nin0).keep u34_0 (ninS (Nat.ne_of_lt (Nat.lt_of_lt_of_le (Nat.lt_of_lt_of_le A19.lt (Nat.le_trans (Nat.le_trans u20_0.1 u21_0.1) u22_0.1)) (Nat.le_of_eq g31.symm))) nin0)) ((u32_2.keep u33_0).keep u34_0) ((u32_3.keep u33_0 nin0).keep u34_0 (ninS (Ne.symm (Nat.ne_of_lt (Nat.lt_of_lt_of_le A31.lt u32_1))) nin0)) ((u32_4.keep u33_0 nin0).keep u34_0 (ninS (Ne.symm (Nat.ne_of_lt (Nat.lt_of_lt_of_le A31.lt u32_1))) nin0)) ((u32_5.keep u33_0 nin0).keep u34_0 (ninS (oNeArr (A31.keep u32_0) (w11 hw) u32_5) nin0)) (u33_2.keep u34_0) (u33_3.keep u34_0 (ninS (Ne.symm (Nat.ne_of_lt (Nat.lt_of_lt_of_le (Nat.lt_of_lt_of_le A31.lt u32_0.1) u33_1))) nin0)) (u33_4.keep u34_0 (ninS (Ne.symm (Nat.ne_of_lt (Nat.lt_of_lt_of_le (Nat.lt_of_lt_of_le A31.lt u32_0.1) u33_1))) nin0)) (u33_5.keep u34_0 (ninS (oNeArr ((A31.keep u32_0).keep u33_0) (w11 hw) u33_5) nin0)) ((((((u20_2.keep u21_0).keep u22_0).ext E31).keep u32_0).keep u33_0).keep u34_0) ((((((u20_3.keep u21_0 nin0).keep u22_0 (ninS (Ne.symm (Nat.ne_of_lt (Nat.lt_of_lt_of_le A19.lt u20_1))) nin0)).ext E31).keep u32_0 nin0).keep u33_0 nin0).keep u34_0 (ninS (Nat.ne_of_lt (Nat.lt_of_lt_of_le (Nat.lt_of_lt_of_le u20_2.lt (Nat.le_trans u21_0.1 u22_0.1)) (Nat.le_of_eq g31.symm))) nin0)) ((((((u20_4.keep u21_0 nin0).keep u22_0 (ninS (Ne.symm (Nat.ne_of_lt (Nat.lt_of_lt_of_le A19.lt u20_1))) nin0)).ext E31).keep u32_0 nin0).keep u33_0 nin0).keep u34_0 (ninS (Nat.ne_of_lt (Nat.lt_of_lt_of_le (Nat.lt_of_lt_of_le u20_2.lt (Nat.le_trans u21_0.1 u22_0.1)) (Nat.le_of_eq g31.symm))) nin0)) ((((((u20_5.keep u21_0 nin0).keep u22_0 (ninS (oNeArr (A19.keep u20_0) (w11 hw) u20_5) nin0)).ext E31).keep u32_0 nin0).keep u33_0 nin0).keep u34_0 (ninS (Nat.ne_of_lt (Nat.lt_of_lt_of_le (Nat.lt_of_lt_of_le u20_5.lt (Nat.le_trans u21_0.1 u22_0.1)) (Nat.le_of_eq g31.symm))) nin0)) (((((u21_2.keep u22_0).ext E31).keep u32_0).keep u33_0).keep u34_0) (((((u21_3.keep u22_0 (ninS (Ne.symm (Nat.ne_of_lt (Nat.lt_of_lt_of_le (Nat.lt_of_lt_of_le A19.lt u20_0.1) u21_1))) nin0)).ext E31).keep u32_0 nin0).keep u33_0 nin0).keep u34_0 (ninS (Nat.ne_of_lt (Nat.lt_of_lt_of_le (Nat.lt_of_lt_of_le u21_2.lt u22_0.1) (Nat.le_of_eq g31.symm))) nin0)) (((((u21_4.keep u22_0 (ninS (Ne.symm (Nat.ne_of_lt (Nat.lt_of_lt_of_le (Nat.lt_of_lt_of_le A19.lt u20_0.1) u21_1))) nin0)).ext E31).keep u32_0 nin0).keep u33_0 nin0).keep u34_0 (ninS (Nat.ne_of_lt (Nat.lt_of_lt_of_le (Nat.lt_of_lt_of_le u21_2.lt u22_0.1) (Nat.le_of_eq g31.symm))) nin0)) (((((u21_5.keep u22_0 (ninS (oNeArr ((A19.keep u20_0).keep u21_0) (w11 hw) u21_5) nin0)).ext E31).keep u32_0 nin0).keep u33_0 nin0).keep u34_0 (ninS (Nat.ne_of_lt (Nat.lt_of_lt_of_le (Nat.lt_of_lt_of_le u21_5.lt u22_0.1) (Nat.le_of_eq g31.symm))) nin0)) (Ne.symm (Nat.ne_of_lt (Nat.lt_of_lt_of_le (Nat.lt_of_lt_of_le u20_2.lt (Nat.le_trans (Nat.le_trans u21_0.1 u22_0.1) E31.1)) u32_1))) (Ne.symm (Nat.ne_of_lt (Nat.lt_of_lt_of_le (Nat.lt_of_lt_of_le u21_2.lt (Nat.le_trans (Nat.le_trans u22_0.1 E31.1) u32_0.1)) u33_1))) (oChM _) (oChM _) (oChM _) (oChM _) (oLenL _) (oLenL _) (oChM _) (oChM _) (oChM _) (oChM _) (oLenL _) (oLenL _) q4 q5) all0 (by decide) rfl (argsL := [(.ref b19)]) rfl (lenOf pd_law_4 rfl) (W := 0) rfl (by decide) (by decide) (by decide) at_361 (pc' := 364) rfl ?_
            intro v38 T38 h38 FX38 U38
            obtain ⟨rfl, rfl⟩ := U38
            have X38 := FX38 [] (Or.inl rfl) all0
            show oGoes pp ee bb ss Z T38 (mkF mm 364 #[.val (.int i0), .val (.int i1), .val (.int i2), .val (.int i3), .val (.int i4), .val (.int (oLen i0)), .val (.int (oC0 i0)), .val (.int (oC1 i0)), .val (.int (oLen i1)), .val (.int (oC0 i1)), .val (.int (oC1 i1)), .val (.int (if (i4 &&& (1 : Int32)) = (0 : Int32) then (0 : Int32) else (1 : Int32))), .val (.int (if (i4 &&& (2 : Int32)) = (0 : Int32) then (0 : Int32) else (1 : Int32))), .val (.int (oLen i2)), .val (.int (oC0 i2)), .val (.int (oC1 i2)), .val (.int (oLen i3)), .val (.int (oC0 i3)), .val (.int (oC1 i3)), .val (.int (((i4.toUInt32 >>> ((2 : Int32) &&& 31).toUInt32).toInt32) &&& (3 : Int32))), .val (.ref b19), .val (.ref b31), .val (.int (0 : Int32))] [(.int (oSm2 (oSm (oLen i2) (oC0 i2) (oC1 i2) (oLen i0) (oC0 i0) (oC1 i0)) (oSm (oLen i3) (oC0 i3) (oC1 i3) (oLen i1) (oC0 i1) (oC1 i1))))]) _ _ _ _
            refine o_iload K X38 at_364 (pc' := 366) rfl rfl ?_
            refine o_icmp_ne_f K X38 at_366 (pc' := 369) rfl (by have e0 := oSmFp c317_36; simp [oSm2, c317_36, e0]) ?_
            refine o_iconst K X38 at_369 (pc' := 370) rfl (z := (1 : Int32)) rfl ?_
            refine o_goto K X38 at_370 (by decide) (pc' := 374) (by decide) ?_
            refine o_ireturnN K X38 .boolean at_374 rfl (by simp) (z' := (1 : Int32)) (by decide) ?_ (by decide) (by decide) (by decide)
            exact rfl
          · refine o_if_eq_f K X35 at_317 (pc' := 320) rfl c317_36 ?_
            refine o_iload K X35 at_320 (pc' := 322) rfl rfl ?_
            refine o_iload K X35 at_322 (pc' := 324) rfl rfl ?_
            refine o_iload K X35 at_324 (pc' := 326) rfl rfl ?_
            refine o_iload K X35 at_326 (pc' := 328) rfl rfl ?_
            refine o_iload K X35 at_328 (pc' := 330) rfl rfl ?_
            refine o_iload K X35 at_330 (pc' := 332) rfl rfl ?_
            refine o_static K X35 (y := (⟨"com/example/phone_conformance_check/phoneconformancecheck/capture/PropertyEqualsPinLaw", "same", "(ICCICC)Z"⟩ : MethodName)) (w53 hw) (w54 hw) (w2 hw) (w55 hw) (by decide) (rm_same l Z a0 hw (oLen i1) (oC0 i1) (oC1 i1) (oLen i3) (oC0 i3) (oC1 i3) h34) all0 (by decide) rfl (argsL := [(.int (oLen i1)), (.int (oC0 i1)), (.int (oC1 i1)), (.int (oLen i3)), (.int (oC0 i3)), (.int (oC1 i3))]) rfl (lenOf pd_law_6 rfl) (W := 0) rfl (by decide) (by decide) (by decide) at_332 (pc' := 335) rfl ?_
            intro v39 T39 h39 FX39 U39
            obtain ⟨rfl, rfl⟩ := U39
            have X39 := FX39 [] (Or.inl rfl) all0
            show oGoes pp ee bb ss Z T39 (mkF mm 335 #[.val (.int i0), .val (.int i1), .val (.int i2), .val (.int i3), .val (.int i4), .val (.int (oLen i0)), .val (.int (oC0 i0)), .val (.int (oC1 i0)), .val (.int (oLen i1)), .val (.int (oC0 i1)), .val (.int (oC1 i1)), .val (.int (if (i4 &&& (1 : Int32)) = (0 : Int32) then (0 : Int32) else (1 : Int32))), .val (.int (if (i4 &&& (2 : Int32)) = (0 : Int32) then (0 : Int32) else (1 : Int32))), .val (.int (oLen i2)), .val (.int (oC0 i2)), .val (.int (oC1 i2)), .val (.int (oLen i3)), .val (.int (oC0 i3)), .val (.int (oC1 i3)), .val (.int (((i4.toUInt32 >>> ((2 : Int32) &&& 31).toUInt32).toInt32) &&& (3 : Int32))), .val (.ref b19), .val (.ref b31), .unset] [(.int (oSm (oLen i1) (oC0 i1) (oC1 i1) (oLen i3) (oC0 i3) (oC1 i3)))]) _ _ _ _
            by_cases c335_40 : (oSm (oLen i1) (oC0 i1) (oC1 i1) (oLen i3) (oC0 i3) (oC1 i3)) = (0 : Int32)
            · refine o_if_eq_t K X39 at_335 (by decide) (pc' := 342) (by decide) c335_40 ?_
              refine o_iconst K X39 at_342 (pc' := 343) rfl (z := (0 : Int32)) rfl ?_
              refine o_istore K X39 at_343 (pc' := 345) rfl (L' := #[.val (.int i0), .val (.int i1), .val (.int i2), .val (.int i3), .val (.int i4), .val (.int (oLen i0)), .val (.int (oC0 i0)), .val (.int (oC1 i0)), .val (.int (oLen i1)), .val (.int (oC0 i1)), .val (.int (oC1 i1)), .val (.int (if (i4 &&& (1 : Int32)) = (0 : Int32) then (0 : Int32) else (1 : Int32))), .val (.int (if (i4 &&& (2 : Int32)) = (0 : Int32) then (0 : Int32) else (1 : Int32))), .val (.int (oLen i2)), .val (.int (oC0 i2)), .val (.int (oC1 i2)), .val (.int (oLen i3)), .val (.int (oC0 i3)), .val (.int (oC1 i3)), .val (.int (((i4.toUInt32 >>> ((2 : Int32) &&& 31).toUInt32).toInt32) &&& (3 : Int32))), .val (.ref b19), .val (.ref b31), .val (.int (0 : Int32))]) rfl ?_
              refine o_aload K X39 at_345 (pc' := 347) rfl rfl rfl ?_
              refine o_aload K X39 at_347 (pc' := 349) rfl rfl rfl ?_
              refine o_virtual K X39 (y := (⟨"com/example/phone_conformance_check/phoneconformancecheck/capture/Property", "equals", "(Ljava/lang/Object;)Z"⟩ : MethodName)) (z := (⟨"com/example/phone_conformance_check/phoneconformancecheck/capture/Property", "equals", "(Ljava/lang/Object;)Z"⟩ : MethodName)) (w56 hw) (w57 hw) (fun _ q => notFace_of_selects (args := #[]) (mvT q (w59 hw))) (w59 hw) (w58 hw) (w12 hw) (w60 hw) (by decide) ((((u22_1.ext E31).keep u32_0).keep u33_0).keep u34_0) (rm_peq l Z a0 hw b19 b31 r_20 vb_20 r_21 vb_21 r_32 vb_32 r_33 vb_33 k_20 k_21 k_32 k_33 (oLen i0) (oC0 i0) (oC1 i0) (oLen i2) (oC0 i2) (oC1 i2) (oLen i1) (oC0 i1) (oC1 i1) (oLen i3) (oC0 i3) (oC1 i3) cs h34 ((((u22_1.ext E31).keep u32_0).keep u33_0).keep u34_0) ((((u22_2.ext E31).keep u32_0 nin0).keep u33_0 nin0).keep u34_0 (ninS (Nat.ne_of_lt (Nat.lt_of_lt_of_le (Nat.lt_of_lt_of_le A19.lt (Nat.le_trans (Nat.le_trans u20_0.1 u21_0.1) u22_0.1)) (Nat.le_of_eq g31.symm))) nin0)) ((((u22_3.ext E31).keep u32_0 nin0).keep u33_0 nin0).keep u34_0 (ninS (Nat.ne_of_lt (Nat.lt_of_lt_of_le (Nat.lt_of_lt_of_le A19.lt (Nat.le_trans (Nat.le_trans u20_0.1 u21_0.1) u22_0.1)) (Nat.le_of_eq g31.symm))) nin0)) u34_1 u34_2 u34_3 ((((((u20_2.keep u21_0).keep u22_0).ext E31).keep u32_0).keep u33_0).keep u34_0) ((((((u20_3.keep u21_0 nin0).keep u22_0 (ninS (Ne.symm (Nat.ne_of_lt (Nat.lt_of_lt_of_le A19.lt u20_1))) nin0)).ext E31).keep u32_0 nin0).keep u33_0 nin0).keep u34_0 (ninS (Nat.ne_of_lt (Nat.lt_of_lt_of_le (Nat.lt_of_lt_of_le u20_2.lt (Nat.le_trans u21_0.1 u22_0.1)) (Nat.le_of_eq g31.symm))) nin0)) ((((((u20_4.keep u21_0 nin0).keep u22_0 (ninS (Ne.symm (Nat.ne_of_lt (Nat.lt_of_lt_of_le A19.lt u20_1))) nin0)).ext E31).keep u32_0 nin0).keep u33_0 nin0).keep u34_0 (ninS (Nat.ne_of_lt (Nat.lt_of_lt_of_le (Nat.lt_of_lt_of_le u20_2.lt (Nat.le_trans u21_0.1 u22_0.1)) (Nat.le_of_eq g31.symm))) nin0)) ((((((u20_5.keep u21_0 nin0).keep u22_0 (ninS (oNeArr (A19.keep u20_0) (w11 hw) u20_5) nin0)).ext E31).keep u32_0 nin0).keep u33_0 nin0).keep u34_0 (ninS (Nat.ne_of_lt (Nat.lt_of_lt_of_le (Nat.lt_of_lt_of_le u20_5.lt (Nat.le_trans u21_0.1 u22_0.1)) (Nat.le_of_eq g31.symm))) nin0)) (((((u21_2.keep u22_0).ext E31).keep u32_0).keep u33_0).keep u34_0) (((((u21_3.keep u22_0 (ninS (Ne.symm (Nat.ne_of_lt (Nat.lt_of_lt_of_le (Nat.lt_of_lt_of_le A19.lt u20_0.1) u21_1))) nin0)).ext E31).keep u32_0 nin0).keep u33_0 nin0).keep u34_0 (ninS (Nat.ne_of_lt (Nat.lt_of_lt_of_le (Nat.lt_of_lt_of_le u21_2.lt u22_0.1) (Nat.le_of_eq g31.symm))) nin0)) (((((u21_4.keep u22_0 (ninS (Ne.symm (Nat.ne_of_lt (Nat.lt_of_lt_of_le (Nat.lt_of_lt_of_le A19.lt u20_0.1) u21_1))) nin0)).ext E31).keep u32_0 nin0).keep u33_0 nin0).keep u34_0 (ninS (Nat.ne_of_lt (Nat.lt_of_lt_of_le (Nat.lt_of_lt_of_le u21_2.lt u22_0.1) (Nat.le_of_eq g31.symm))) nin0)) (((((u21_5.keep u22_0 (ninS (oNeArr ((A19.keep u20_0).keep u21_0) (w11 hw) u21_5) nin0)).ext E31).keep u32_0 nin0).keep u33_0 nin0).keep u34_0 (ninS (Nat.ne_of_lt (Nat.lt_of_lt_of_le (Nat.lt_of_lt_of_le u21_5.lt u22_0.1) (Nat.le_of_eq g31.symm))) nin0)) ((u32_2.keep u33_0).keep u34_0) ((u32_3.keep u33_0 nin0).keep u34_0 (ninS (Ne.symm (Nat.ne_of_lt (Nat.lt_of_lt_of_le A31.lt u32_1))) nin0)) ((u32_4.keep u33_0 nin0).keep u34_0 (ninS (Ne.symm (Nat.ne_of_lt (Nat.lt_of_lt_of_le A31.lt u32_1))) nin0)) ((u32_5.keep u33_0 nin0).keep u34_0 (ninS (oNeArr (A31.keep u32_0) (w11 hw) u32_5) nin0)) (u33_2.keep u34_0) (u33_3.keep u34_0 (ninS (Ne.symm (Nat.ne_of_lt (Nat.lt_of_lt_of_le (Nat.lt_of_lt_of_le A31.lt u32_0.1) u33_1))) nin0)) (u33_4.keep u34_0 (ninS (Ne.symm (Nat.ne_of_lt (Nat.lt_of_lt_of_le (Nat.lt_of_lt_of_le A31.lt u32_0.1) u33_1))) nin0)) (u33_5.keep u34_0 (ninS (oNeArr ((A31.keep u32_0).keep u33_0) (w11 hw) u33_5) nin0)) (Nat.ne_of_lt (Nat.lt_of_lt_of_le (Nat.lt_of_lt_of_le u20_2.lt (Nat.le_trans (Nat.le_trans u21_0.1 u22_0.1) E31.1)) u32_1)) (Nat.ne_of_lt (Nat.lt_of_lt_of_le (Nat.lt_of_lt_of_le u21_2.lt (Nat.le_trans (Nat.le_trans u22_0.1 E31.1) u32_0.1)) u33_1)) (oChM _) (oChM _) (oChM _) (oChM _) (oLenL _) (oLenL _) (oChM _) (oChM _) (oChM _) (oChM _) (oLenL _) (oLenL _) q4 q5) all0 (by decide) rfl (argsL := [(.ref b31)]) rfl (lenOf pd_law_4 rfl) (W := 0) rfl (by decide) (by decide) (by decide) at_349 (pc' := 352) rfl ?_
              intro v41 T41 h41 FX41 U41
              obtain ⟨rfl, rfl⟩ := U41
              have X41 := FX41 [] (Or.inl rfl) all0
              show oGoes pp ee bb ss Z T41 (mkF mm 352 #[.val (.int i0), .val (.int i1), .val (.int i2), .val (.int i3), .val (.int i4), .val (.int (oLen i0)), .val (.int (oC0 i0)), .val (.int (oC1 i0)), .val (.int (oLen i1)), .val (.int (oC0 i1)), .val (.int (oC1 i1)), .val (.int (if (i4 &&& (1 : Int32)) = (0 : Int32) then (0 : Int32) else (1 : Int32))), .val (.int (if (i4 &&& (2 : Int32)) = (0 : Int32) then (0 : Int32) else (1 : Int32))), .val (.int (oLen i2)), .val (.int (oC0 i2)), .val (.int (oC1 i2)), .val (.int (oLen i3)), .val (.int (oC0 i3)), .val (.int (oC1 i3)), .val (.int (((i4.toUInt32 >>> ((2 : Int32) &&& 31).toUInt32).toInt32) &&& (3 : Int32))), .val (.ref b19), .val (.ref b31), .val (.int (0 : Int32))] [(.int (oSm2 (oSm (oLen i0) (oC0 i0) (oC1 i0) (oLen i2) (oC0 i2) (oC1 i2)) (oSm (oLen i1) (oC0 i1) (oC1 i1) (oLen i3) (oC0 i3) (oC1 i3))))]) _ _ _ _
              refine o_iload K X41 at_352 (pc' := 354) rfl rfl ?_
              refine o_icmp_ne_f K X41 at_354 (pc' := 357) rfl (by have e0 := oSmFn c317_36; have e1 := oSmFp c335_40; simp [oSm2, c317_36, c335_40, e0, e1]) ?_
              refine o_aload K X41 at_357 (pc' := 359) rfl rfl rfl ?_
              refine o_aload K X41 at_359 (pc' := 361) rfl rfl rfl ?_
              refine o_virtual K X41 (y := (⟨"com/example/phone_conformance_check/phoneconformancecheck/capture/Property", "equals", "(Ljava/lang/Object;)Z"⟩ : MethodName)) (z := (⟨"com/example/phone_conformance_check/phoneconformancecheck/capture/Property", "equals", "(Ljava/lang/Object;)Z"⟩ : MethodName)) (w56 hw) (w57 hw) (fun _ q => notFace_of_selects (args := #[]) (mvT q (w59 hw))) (w59 hw) (w58 hw) (w12 hw) (w60 hw) (by decide) u34_1 (rm_peq l Z a0 hw b31 b19 r_32 vb_32 r_33 vb_33 r_20 vb_20 r_21 vb_21 k_32 k_33 k_20 k_21 (oLen i2) (oC0 i2) (oC1 i2) (oLen i0) (oC0 i0) (oC1 i0) (oLen i3) (oC0 i3) (oC1 i3) (oLen i1) (oC0 i1) (oC1 i1) cs h34 u34_1 u34_2 u34_3 ((((u22_1.ext E31).keep u32_0).keep u33_0).keep u34_0) ((((u22_2.ext E31).keep u32_0 nin0).keep u33_0 nin0).keep u34_0 (ninS (Nat.ne_of_lt (Nat.lt_of_lt_of_le (Nat.lt_of_lt_of_le A19.lt (Nat.le_trans (Nat.le_trans u20_0.1 u21_0.1) u22_0.1)) (Nat.le_of_eq g31.symm))) nin0)) ((((u22_3.ext E31).keep u32_0 nin0).keep u33_0 nin0).keep u34_0 (ninS (Nat.ne_of_lt (Nat.lt_of_lt_of_le (Nat.lt_of_lt_of_le A19.lt (Nat.le_trans (Nat.le_trans u20_0.1 u21_0.1) u22_0.1)) (Nat.le_of_eq g31.symm))) nin0)) ((u32_2.keep u33_0).keep u34_0) ((u32_3.keep u33_0 nin0).keep u34_0 (ninS (Ne.symm (Nat.ne_of_lt (Nat.lt_of_lt_of_le A31.lt u32_1))) nin0)) ((u32_4.keep u33_0 nin0).keep u34_0 (ninS (Ne.symm (Nat.ne_of_lt (Nat.lt_of_lt_of_le A31.lt u32_1))) nin0)) ((u32_5.keep u33_0 nin0).keep u34_0 (ninS (oNeArr (A31.keep u32_0) (w11 hw) u32_5) nin0)) (u33_2.keep u34_0) (u33_3.keep u34_0 (ninS (Ne.symm (Nat.ne_of_lt (Nat.lt_of_lt_of_le (Nat.lt_of_lt_of_le A31.lt u32_0.1) u33_1))) nin0)) (u33_4.keep u34_0 (ninS (Ne.symm (Nat.ne_of_lt (Nat.lt_of_lt_of_le (Nat.lt_of_lt_of_le A31.lt u32_0.1) u33_1))) nin0)) (u33_5.keep u34_0 (ninS (oNeArr ((A31.keep u32_0).keep u33_0) (w11 hw) u33_5) nin0)) ((((((u20_2.keep u21_0).keep u22_0).ext E31).keep u32_0).keep u33_0).keep u34_0) ((((((u20_3.keep u21_0 nin0).keep u22_0 (ninS (Ne.symm (Nat.ne_of_lt (Nat.lt_of_lt_of_le A19.lt u20_1))) nin0)).ext E31).keep u32_0 nin0).keep u33_0 nin0).keep u34_0 (ninS (Nat.ne_of_lt (Nat.lt_of_lt_of_le (Nat.lt_of_lt_of_le u20_2.lt (Nat.le_trans u21_0.1 u22_0.1)) (Nat.le_of_eq g31.symm))) nin0)) ((((((u20_4.keep u21_0 nin0).keep u22_0 (ninS (Ne.symm (Nat.ne_of_lt (Nat.lt_of_lt_of_le A19.lt u20_1))) nin0)).ext E31).keep u32_0 nin0).keep u33_0 nin0).keep u34_0 (ninS (Nat.ne_of_lt (Nat.lt_of_lt_of_le (Nat.lt_of_lt_of_le u20_2.lt (Nat.le_trans u21_0.1 u22_0.1)) (Nat.le_of_eq g31.symm))) nin0)) ((((((u20_5.keep u21_0 nin0).keep u22_0 (ninS (oNeArr (A19.keep u20_0) (w11 hw) u20_5) nin0)).ext E31).keep u32_0 nin0).keep u33_0 nin0).keep u34_0 (ninS (Nat.ne_of_lt (Nat.lt_of_lt_of_le (Nat.lt_of_lt_of_le u20_5.lt (Nat.le_trans u21_0.1 u22_0.1)) (Nat.le_of_eq g31.symm))) nin0)) (((((u21_2.keep u22_0).ext E31).keep u32_0).keep u33_0).keep u34_0) (((((u21_3.keep u22_0 (ninS (Ne.symm (Nat.ne_of_lt (Nat.lt_of_lt_of_le (Nat.lt_of_lt_of_le A19.lt u20_0.1) u21_1))) nin0)).ext E31).keep u32_0 nin0).keep u33_0 nin0).keep u34_0 (ninS (Nat.ne_of_lt (Nat.lt_of_lt_of_le (Nat.lt_of_lt_of_le u21_2.lt u22_0.1) (Nat.le_of_eq g31.symm))) nin0)) (((((u21_4.keep u22_0 (ninS (Ne.symm (Nat.ne_of_lt (Nat.lt_of_lt_of_le (Nat.lt_of_lt_of_le A19.lt u20_0.1) u21_1))) nin0)).ext E31).keep u32_0 nin0).keep u33_0 nin0).keep u34_0 (ninS (Nat.ne_of_lt (Nat.lt_of_lt_of_le (Nat.lt_of_lt_of_le u21_2.lt u22_0.1) (Nat.le_of_eq g31.symm))) nin0)) (((((u21_5.keep u22_0 (ninS (oNeArr ((A19.keep u20_0).keep u21_0) (w11 hw) u21_5) nin0)).ext E31).keep u32_0 nin0).keep u33_0 nin0).keep u34_0 (ninS (Nat.ne_of_lt (Nat.lt_of_lt_of_le (Nat.lt_of_lt_of_le u21_5.lt u22_0.1) (Nat.le_of_eq g31.symm))) nin0)) (Ne.symm (Nat.ne_of_lt (Nat.lt_of_lt_of_le (Nat.lt_of_lt_of_le u20_2.lt (Nat.le_trans (Nat.le_trans u21_0.1 u22_0.1) E31.1)) u32_1))) (Ne.symm (Nat.ne_of_lt (Nat.lt_of_lt_of_le (Nat.lt_of_lt_of_le u21_2.lt (Nat.le_trans (Nat.le_trans u22_0.1 E31.1) u32_0.1)) u33_1))) (oChM _) (oChM _) (oChM _) (oChM _) (oLenL _) (oLenL _) (oChM _) (oChM _) (oChM _) (oChM _) (oLenL _) (oLenL _) q4 q5) all0 (by decide) rfl (argsL := [(.ref b19)]) rfl (lenOf pd_law_4 rfl) (W := 0) rfl (by decide) (by decide) (by decide) at_361 (pc' := 364) rfl ?_
              intro v42 T42 h42 FX42 U42
              obtain ⟨rfl, rfl⟩ := U42
              have X42 := FX42 [] (Or.inl rfl) all0
              show oGoes pp ee bb ss Z T42 (mkF mm 364 #[.val (.int i0), .val (.int i1), .val (.int i2), .val (.int i3), .val (.int i4), .val (.int (oLen i0)), .val (.int (oC0 i0)), .val (.int (oC1 i0)), .val (.int (oLen i1)), .val (.int (oC0 i1)), .val (.int (oC1 i1)), .val (.int (if (i4 &&& (1 : Int32)) = (0 : Int32) then (0 : Int32) else (1 : Int32))), .val (.int (if (i4 &&& (2 : Int32)) = (0 : Int32) then (0 : Int32) else (1 : Int32))), .val (.int (oLen i2)), .val (.int (oC0 i2)), .val (.int (oC1 i2)), .val (.int (oLen i3)), .val (.int (oC0 i3)), .val (.int (oC1 i3)), .val (.int (((i4.toUInt32 >>> ((2 : Int32) &&& 31).toUInt32).toInt32) &&& (3 : Int32))), .val (.ref b19), .val (.ref b31), .val (.int (0 : Int32))] [(.int (oSm2 (oSm (oLen i2) (oC0 i2) (oC1 i2) (oLen i0) (oC0 i0) (oC1 i0)) (oSm (oLen i3) (oC0 i3) (oC1 i3) (oLen i1) (oC0 i1) (oC1 i1))))]) _ _ _ _
              refine o_iload K X42 at_364 (pc' := 366) rfl rfl ?_
              refine o_icmp_ne_f K X42 at_366 (pc' := 369) rfl (by have e0 := oSmFn c317_36; have e1 := oSmFp c335_40; simp [oSm2, c317_36, c335_40, e0, e1]) ?_
              refine o_iconst K X42 at_369 (pc' := 370) rfl (z := (1 : Int32)) rfl ?_
              refine o_goto K X42 at_370 (by decide) (pc' := 374) (by decide) ?_
              refine o_ireturnN K X42 .boolean at_374 rfl (by simp) (z' := (1 : Int32)) (by decide) ?_ (by decide) (by decide) (by decide)
              exact rfl
            · refine o_if_eq_f K X39 at_335 (pc' := 338) rfl c335_40 ?_
              refine o_iconst K X39 at_338 (pc' := 339) rfl (z := (1 : Int32)) rfl ?_
              refine o_goto K X39 at_339 (by decide) (pc' := 343) (by decide) ?_
              refine o_istore K X39 at_343 (pc' := 345) rfl (L' := #[.val (.int i0), .val (.int i1), .val (.int i2), .val (.int i3), .val (.int i4), .val (.int (oLen i0)), .val (.int (oC0 i0)), .val (.int (oC1 i0)), .val (.int (oLen i1)), .val (.int (oC0 i1)), .val (.int (oC1 i1)), .val (.int (if (i4 &&& (1 : Int32)) = (0 : Int32) then (0 : Int32) else (1 : Int32))), .val (.int (if (i4 &&& (2 : Int32)) = (0 : Int32) then (0 : Int32) else (1 : Int32))), .val (.int (oLen i2)), .val (.int (oC0 i2)), .val (.int (oC1 i2)), .val (.int (oLen i3)), .val (.int (oC0 i3)), .val (.int (oC1 i3)), .val (.int (((i4.toUInt32 >>> ((2 : Int32) &&& 31).toUInt32).toInt32) &&& (3 : Int32))), .val (.ref b19), .val (.ref b31), .val (.int (1 : Int32))]) rfl ?_
              refine o_aload K X39 at_345 (pc' := 347) rfl rfl rfl ?_
              refine o_aload K X39 at_347 (pc' := 349) rfl rfl rfl ?_
              refine o_virtual K X39 (y := (⟨"com/example/phone_conformance_check/phoneconformancecheck/capture/Property", "equals", "(Ljava/lang/Object;)Z"⟩ : MethodName)) (z := (⟨"com/example/phone_conformance_check/phoneconformancecheck/capture/Property", "equals", "(Ljava/lang/Object;)Z"⟩ : MethodName)) (w56 hw) (w57 hw) (fun _ q => notFace_of_selects (args := #[]) (mvT q (w59 hw))) (w59 hw) (w58 hw) (w12 hw) (w60 hw) (by decide) ((((u22_1.ext E31).keep u32_0).keep u33_0).keep u34_0) (rm_peq l Z a0 hw b19 b31 r_20 vb_20 r_21 vb_21 r_32 vb_32 r_33 vb_33 k_20 k_21 k_32 k_33 (oLen i0) (oC0 i0) (oC1 i0) (oLen i2) (oC0 i2) (oC1 i2) (oLen i1) (oC0 i1) (oC1 i1) (oLen i3) (oC0 i3) (oC1 i3) cs h34 ((((u22_1.ext E31).keep u32_0).keep u33_0).keep u34_0) ((((u22_2.ext E31).keep u32_0 nin0).keep u33_0 nin0).keep u34_0 (ninS (Nat.ne_of_lt (Nat.lt_of_lt_of_le (Nat.lt_of_lt_of_le A19.lt (Nat.le_trans (Nat.le_trans u20_0.1 u21_0.1) u22_0.1)) (Nat.le_of_eq g31.symm))) nin0)) ((((u22_3.ext E31).keep u32_0 nin0).keep u33_0 nin0).keep u34_0 (ninS (Nat.ne_of_lt (Nat.lt_of_lt_of_le (Nat.lt_of_lt_of_le A19.lt (Nat.le_trans (Nat.le_trans u20_0.1 u21_0.1) u22_0.1)) (Nat.le_of_eq g31.symm))) nin0)) u34_1 u34_2 u34_3 ((((((u20_2.keep u21_0).keep u22_0).ext E31).keep u32_0).keep u33_0).keep u34_0) ((((((u20_3.keep u21_0 nin0).keep u22_0 (ninS (Ne.symm (Nat.ne_of_lt (Nat.lt_of_lt_of_le A19.lt u20_1))) nin0)).ext E31).keep u32_0 nin0).keep u33_0 nin0).keep u34_0 (ninS (Nat.ne_of_lt (Nat.lt_of_lt_of_le (Nat.lt_of_lt_of_le u20_2.lt (Nat.le_trans u21_0.1 u22_0.1)) (Nat.le_of_eq g31.symm))) nin0)) ((((((u20_4.keep u21_0 nin0).keep u22_0 (ninS (Ne.symm (Nat.ne_of_lt (Nat.lt_of_lt_of_le A19.lt u20_1))) nin0)).ext E31).keep u32_0 nin0).keep u33_0 nin0).keep u34_0 (ninS (Nat.ne_of_lt (Nat.lt_of_lt_of_le (Nat.lt_of_lt_of_le u20_2.lt (Nat.le_trans u21_0.1 u22_0.1)) (Nat.le_of_eq g31.symm))) nin0)) ((((((u20_5.keep u21_0 nin0).keep u22_0 (ninS (oNeArr (A19.keep u20_0) (w11 hw) u20_5) nin0)).ext E31).keep u32_0 nin0).keep u33_0 nin0).keep u34_0 (ninS (Nat.ne_of_lt (Nat.lt_of_lt_of_le (Nat.lt_of_lt_of_le u20_5.lt (Nat.le_trans u21_0.1 u22_0.1)) (Nat.le_of_eq g31.symm))) nin0)) (((((u21_2.keep u22_0).ext E31).keep u32_0).keep u33_0).keep u34_0) (((((u21_3.keep u22_0 (ninS (Ne.symm (Nat.ne_of_lt (Nat.lt_of_lt_of_le (Nat.lt_of_lt_of_le A19.lt u20_0.1) u21_1))) nin0)).ext E31).keep u32_0 nin0).keep u33_0 nin0).keep u34_0 (ninS (Nat.ne_of_lt (Nat.lt_of_lt_of_le (Nat.lt_of_lt_of_le u21_2.lt u22_0.1) (Nat.le_of_eq g31.symm))) nin0)) (((((u21_4.keep u22_0 (ninS (Ne.symm (Nat.ne_of_lt (Nat.lt_of_lt_of_le (Nat.lt_of_lt_of_le A19.lt u20_0.1) u21_1))) nin0)).ext E31).keep u32_0 nin0).keep u33_0 nin0).keep u34_0 (ninS (Nat.ne_of_lt (Nat.lt_of_lt_of_le (Nat.lt_of_lt_of_le u21_2.lt u22_0.1) (Nat.le_of_eq g31.symm))) nin0)) (((((u21_5.keep u22_0 (ninS (oNeArr ((A19.keep u20_0).keep u21_0) (w11 hw) u21_5) nin0)).ext E31).keep u32_0 nin0).keep u33_0 nin0).keep u34_0 (ninS (Nat.ne_of_lt (Nat.lt_of_lt_of_le (Nat.lt_of_lt_of_le u21_5.lt u22_0.1) (Nat.le_of_eq g31.symm))) nin0)) ((u32_2.keep u33_0).keep u34_0) ((u32_3.keep u33_0 nin0).keep u34_0 (ninS (Ne.symm (Nat.ne_of_lt (Nat.lt_of_lt_of_le A31.lt u32_1))) nin0)) ((u32_4.keep u33_0 nin0).keep u34_0 (ninS (Ne.symm (Nat.ne_of_lt (Nat.lt_of_lt_of_le A31.lt u32_1))) nin0)) ((u32_5.keep u33_0 nin0).keep u34_0 (ninS (oNeArr (A31.keep u32_0) (w11 hw) u32_5) nin0)) (u33_2.keep u34_0) (u33_3.keep u34_0 (ninS (Ne.symm (Nat.ne_of_lt (Nat.lt_of_lt_of_le (Nat.lt_of_lt_of_le A31.lt u32_0.1) u33_1))) nin0)) (u33_4.keep u34_0 (ninS (Ne.symm (Nat.ne_of_lt (Nat.lt_of_lt_of_le (Nat.lt_of_lt_of_le A31.lt u32_0.1) u33_1))) nin0)) (u33_5.keep u34_0 (ninS (oNeArr ((A31.keep u32_0).keep u33_0) (w11 hw) u33_5) nin0)) (Nat.ne_of_lt (Nat.lt_of_lt_of_le (Nat.lt_of_lt_of_le u20_2.lt (Nat.le_trans (Nat.le_trans u21_0.1 u22_0.1) E31.1)) u32_1)) (Nat.ne_of_lt (Nat.lt_of_lt_of_le (Nat.lt_of_lt_of_le u21_2.lt (Nat.le_trans (Nat.le_trans u22_0.1 E31.1) u32_0.1)) u33_1)) (oChM _) (oChM _) (oChM _) (oChM _) (oLenL _) (oLenL _) (oChM _) (oChM _) (oChM _) (oChM _) (oLenL _) (oLenL _) q4 q5) all0 (by decide) rfl (argsL := [(.ref b31)]) rfl (lenOf pd_law_4 rfl) (W := 0) rfl (by decide) (by decide) (by decide) at_349 (pc' := 352) rfl ?_
              intro v43 T43 h43 FX43 U43
              obtain ⟨rfl, rfl⟩ := U43
              have X43 := FX43 [] (Or.inl rfl) all0
              show oGoes pp ee bb ss Z T43 (mkF mm 352 #[.val (.int i0), .val (.int i1), .val (.int i2), .val (.int i3), .val (.int i4), .val (.int (oLen i0)), .val (.int (oC0 i0)), .val (.int (oC1 i0)), .val (.int (oLen i1)), .val (.int (oC0 i1)), .val (.int (oC1 i1)), .val (.int (if (i4 &&& (1 : Int32)) = (0 : Int32) then (0 : Int32) else (1 : Int32))), .val (.int (if (i4 &&& (2 : Int32)) = (0 : Int32) then (0 : Int32) else (1 : Int32))), .val (.int (oLen i2)), .val (.int (oC0 i2)), .val (.int (oC1 i2)), .val (.int (oLen i3)), .val (.int (oC0 i3)), .val (.int (oC1 i3)), .val (.int (((i4.toUInt32 >>> ((2 : Int32) &&& 31).toUInt32).toInt32) &&& (3 : Int32))), .val (.ref b19), .val (.ref b31), .val (.int (1 : Int32))] [(.int (oSm2 (oSm (oLen i0) (oC0 i0) (oC1 i0) (oLen i2) (oC0 i2) (oC1 i2)) (oSm (oLen i1) (oC0 i1) (oC1 i1) (oLen i3) (oC0 i3) (oC1 i3))))]) _ _ _ _
              refine o_iload K X43 at_352 (pc' := 354) rfl rfl ?_
              refine o_icmp_ne_f K X43 at_354 (pc' := 357) rfl (by have e0 := oSmFn c317_36; have e1 := oSmFn c335_40; simp [oSm2, c317_36, c335_40, e0, e1]) ?_
              refine o_aload K X43 at_357 (pc' := 359) rfl rfl rfl ?_
              refine o_aload K X43 at_359 (pc' := 361) rfl rfl rfl ?_
              refine o_virtual K X43 (y := (⟨"com/example/phone_conformance_check/phoneconformancecheck/capture/Property", "equals", "(Ljava/lang/Object;)Z"⟩ : MethodName)) (z := (⟨"com/example/phone_conformance_check/phoneconformancecheck/capture/Property", "equals", "(Ljava/lang/Object;)Z"⟩ : MethodName)) (w56 hw) (w57 hw) (fun _ q => notFace_of_selects (args := #[]) (mvT q (w59 hw))) (w59 hw) (w58 hw) (w12 hw) (w60 hw) (by decide) u34_1 (rm_peq l Z a0 hw b31 b19 r_32 vb_32 r_33 vb_33 r_20 vb_20 r_21 vb_21 k_32 k_33 k_20 k_21 (oLen i2) (oC0 i2) (oC1 i2) (oLen i0) (oC0 i0) (oC1 i0) (oLen i3) (oC0 i3) (oC1 i3) (oLen i1) (oC0 i1) (oC1 i1) cs h34 u34_1 u34_2 u34_3 ((((u22_1.ext E31).keep u32_0).keep u33_0).keep u34_0) ((((u22_2.ext E31).keep u32_0 nin0).keep u33_0 nin0).keep u34_0 (ninS (Nat.ne_of_lt (Nat.lt_of_lt_of_le (Nat.lt_of_lt_of_le A19.lt (Nat.le_trans (Nat.le_trans u20_0.1 u21_0.1) u22_0.1)) (Nat.le_of_eq g31.symm))) nin0)) ((((u22_3.ext E31).keep u32_0 nin0).keep u33_0 nin0).keep u34_0 (ninS (Nat.ne_of_lt (Nat.lt_of_lt_of_le (Nat.lt_of_lt_of_le A19.lt (Nat.le_trans (Nat.le_trans u20_0.1 u21_0.1) u22_0.1)) (Nat.le_of_eq g31.symm))) nin0)) ((u32_2.keep u33_0).keep u34_0) ((u32_3.keep u33_0 nin0).keep u34_0 (ninS (Ne.symm (Nat.ne_of_lt (Nat.lt_of_lt_of_le A31.lt u32_1))) nin0)) ((u32_4.keep u33_0 nin0).keep u34_0 (ninS (Ne.symm (Nat.ne_of_lt (Nat.lt_of_lt_of_le A31.lt u32_1))) nin0)) ((u32_5.keep u33_0 nin0).keep u34_0 (ninS (oNeArr (A31.keep u32_0) (w11 hw) u32_5) nin0)) (u33_2.keep u34_0) (u33_3.keep u34_0 (ninS (Ne.symm (Nat.ne_of_lt (Nat.lt_of_lt_of_le (Nat.lt_of_lt_of_le A31.lt u32_0.1) u33_1))) nin0)) (u33_4.keep u34_0 (ninS (Ne.symm (Nat.ne_of_lt (Nat.lt_of_lt_of_le (Nat.lt_of_lt_of_le A31.lt u32_0.1) u33_1))) nin0)) (u33_5.keep u34_0 (ninS (oNeArr ((A31.keep u32_0).keep u33_0) (w11 hw) u33_5) nin0)) ((((((u20_2.keep u21_0).keep u22_0).ext E31).keep u32_0).keep u33_0).keep u34_0) ((((((u20_3.keep u21_0 nin0).keep u22_0 (ninS (Ne.symm (Nat.ne_of_lt (Nat.lt_of_lt_of_le A19.lt u20_1))) nin0)).ext E31).keep u32_0 nin0).keep u33_0 nin0).keep u34_0 (ninS (Nat.ne_of_lt (Nat.lt_of_lt_of_le (Nat.lt_of_lt_of_le u20_2.lt (Nat.le_trans u21_0.1 u22_0.1)) (Nat.le_of_eq g31.symm))) nin0)) ((((((u20_4.keep u21_0 nin0).keep u22_0 (ninS (Ne.symm (Nat.ne_of_lt (Nat.lt_of_lt_of_le A19.lt u20_1))) nin0)).ext E31).keep u32_0 nin0).keep u33_0 nin0).keep u34_0 (ninS (Nat.ne_of_lt (Nat.lt_of_lt_of_le (Nat.lt_of_lt_of_le u20_2.lt (Nat.le_trans u21_0.1 u22_0.1)) (Nat.le_of_eq g31.symm))) nin0)) ((((((u20_5.keep u21_0 nin0).keep u22_0 (ninS (oNeArr (A19.keep u20_0) (w11 hw) u20_5) nin0)).ext E31).keep u32_0 nin0).keep u33_0 nin0).keep u34_0 (ninS (Nat.ne_of_lt (Nat.lt_of_lt_of_le (Nat.lt_of_lt_of_le u20_5.lt (Nat.le_trans u21_0.1 u22_0.1)) (Nat.le_of_eq g31.symm))) nin0)) (((((u21_2.keep u22_0).ext E31).keep u32_0).keep u33_0).keep u34_0) (((((u21_3.keep u22_0 (ninS (Ne.symm (Nat.ne_of_lt (Nat.lt_of_lt_of_le (Nat.lt_of_lt_of_le A19.lt u20_0.1) u21_1))) nin0)).ext E31).keep u32_0 nin0).keep u33_0 nin0).keep u34_0 (ninS (Nat.ne_of_lt (Nat.lt_of_lt_of_le (Nat.lt_of_lt_of_le u21_2.lt u22_0.1) (Nat.le_of_eq g31.symm))) nin0)) (((((u21_4.keep u22_0 (ninS (Ne.symm (Nat.ne_of_lt (Nat.lt_of_lt_of_le (Nat.lt_of_lt_of_le A19.lt u20_0.1) u21_1))) nin0)).ext E31).keep u32_0 nin0).keep u33_0 nin0).keep u34_0 (ninS (Nat.ne_of_lt (Nat.lt_of_lt_of_le (Nat.lt_of_lt_of_le u21_2.lt u22_0.1) (Nat.le_of_eq g31.symm))) nin0)) (((((u21_5.keep u22_0 (ninS (oNeArr ((A19.keep u20_0).keep u21_0) (w11 hw) u21_5) nin0)).ext E31).keep u32_0 nin0).keep u33_0 nin0).keep u34_0 (ninS (Nat.ne_of_lt (Nat.lt_of_lt_of_le (Nat.lt_of_lt_of_le u21_5.lt u22_0.1) (Nat.le_of_eq g31.symm))) nin0)) (Ne.symm (Nat.ne_of_lt (Nat.lt_of_lt_of_le (Nat.lt_of_lt_of_le u20_2.lt (Nat.le_trans (Nat.le_trans u21_0.1 u22_0.1) E31.1)) u32_1))) (Ne.symm (Nat.ne_of_lt (Nat.lt_of_lt_of_le (Nat.lt_of_lt_of_le u21_2.lt (Nat.le_trans (Nat.le_trans u22_0.1 E31.1) u32_0.1)) u33_1))) (oChM _) (oChM _) (oChM _) (oChM _) (oLenL _) (oLenL _) (oChM _) (oChM _) (oChM _) (oChM _) (oLenL _) (oLenL _) q4 q5) all0 (by decide) rfl (argsL := [(.ref b19)]) rfl (lenOf pd_law_4 rfl) (W := 0) rfl (by decide) (by decide) (by decide) at_361 (pc' := 364) rfl ?_
              intro v44 T44 h44 FX44 U44
              obtain ⟨rfl, rfl⟩ := U44
              have X44 := FX44 [] (Or.inl rfl) all0
              show oGoes pp ee bb ss Z T44 (mkF mm 364 #[.val (.int i0), .val (.int i1), .val (.int i2), .val (.int i3), .val (.int i4), .val (.int (oLen i0)), .val (.int (oC0 i0)), .val (.int (oC1 i0)), .val (.int (oLen i1)), .val (.int (oC0 i1)), .val (.int (oC1 i1)), .val (.int (if (i4 &&& (1 : Int32)) = (0 : Int32) then (0 : Int32) else (1 : Int32))), .val (.int (if (i4 &&& (2 : Int32)) = (0 : Int32) then (0 : Int32) else (1 : Int32))), .val (.int (oLen i2)), .val (.int (oC0 i2)), .val (.int (oC1 i2)), .val (.int (oLen i3)), .val (.int (oC0 i3)), .val (.int (oC1 i3)), .val (.int (((i4.toUInt32 >>> ((2 : Int32) &&& 31).toUInt32).toInt32) &&& (3 : Int32))), .val (.ref b19), .val (.ref b31), .val (.int (1 : Int32))] [(.int (oSm2 (oSm (oLen i2) (oC0 i2) (oC1 i2) (oLen i0) (oC0 i0) (oC1 i0)) (oSm (oLen i3) (oC0 i3) (oC1 i3) (oLen i1) (oC0 i1) (oC1 i1))))]) _ _ _ _
              refine o_iload K X44 at_364 (pc' := 366) rfl rfl ?_
              refine o_icmp_ne_f K X44 at_366 (pc' := 369) rfl (by have e0 := oSmFn c317_36; have e1 := oSmFn c335_40; simp [oSm2, c317_36, c335_40, e0, e1]) ?_
              refine o_iconst K X44 at_369 (pc' := 370) rfl (z := (1 : Int32)) rfl ?_
              refine o_goto K X44 at_370 (by decide) (pc' := 374) (by decide) ?_
              refine o_ireturnN K X44 .boolean at_374 rfl (by simp) (z' := (1 : Int32)) (by decide) ?_ (by decide) (by decide) (by decide)
              exact rfl
    · refine o_if_eq_f K X14 at_114 (pc' := 117) rfl (by rw [if_neg c114_15] <;> decide) ?_
      refine o_iload K X14 at_117 (pc' := 119) rfl rfl ?_
      refine o_goto K X14 at_119 (by decide) (pc' := 126) (by decide) ?_
      refine o_istore K X14 at_126 (pc' := 128) rfl (L' := #[.val (.int i0), .val (.int i1), .val (.int i2), .val (.int i3), .val (.int i4), .val (.int (oLen i0)), .val (.int (oC0 i0)), .val (.int (oC1 i0)), .val (.int (oLen i1)), .val (.int (oC0 i1)), .val (.int (oC1 i1)), .val (.int (if (i4 &&& (1 : Int32)) = (0 : Int32) then (0 : Int32) else (1 : Int32))), .val (.int (if (i4 &&& (2 : Int32)) = (0 : Int32) then (0 : Int32) else (1 : Int32))), .val (.int (oLen i2)), .val (.int (oC0 i2)), .val (.int (oC1 i2)), .val (.int (oLen i1)), .unset, .unset, .unset, .unset, .unset, .unset]) rfl ?_
      refine o_iload K X14 at_128 (pc' := 130) rfl rfl ?_
      refine o_if_eq_f K X14 at_130 (pc' := 133) rfl (by rw [if_neg c114_15] <;> decide) ?_
      refine o_iload K X14 at_133 (pc' := 135) rfl rfl ?_
      refine o_goto K X14 at_135 (by decide) (pc' := 142) (by decide) ?_
      refine o_istore K X14 at_142 (pc' := 144) rfl (L' := #[.val (.int i0), .val (.int i1), .val (.int i2), .val (.int i3), .val (.int i4), .val (.int (oLen i0)), .val (.int (oC0 i0)), .val (.int (oC1 i0)), .val (.int (oLen i1)), .val (.int (oC0 i1)), .val (.int (oC1 i1)), .val (.int (if (i4 &&& (1 : Int32)) = (0 : Int32) then (0 : Int32) else (1 : Int32))), .val (.int (if (i4 &&& (2 : Int32)) = (0 : Int32) then (0 : Int32) else (1 : Int32))), .val (.int (oLen i2)), .val (.int (oC0 i2)), .val (.int (oC1 i2)), .val (.int (oLen i1)), .val (.int (oC0 i1)), .unset, .unset, .unset, .unset, .unset]) rfl ?_
      refine o_iload K X14 at_144 (pc' := 146) rfl rfl ?_
      refine o_if_eq_f K X14 at_146 (pc' := 149) rfl (by rw [if_neg c114_15] <;> decide) ?_
      refine o_iload K X14 at_149 (pc' := 151) rfl rfl ?_
      refine o_goto K X14 at_151 (by decide) (pc' := 158) (by decide) ?_
      refine o_istore K X14 at_158 (pc' := 160) rfl (L' := #[.val (.int i0), .val (.int i1), .val (.int i2), .val (.int i3), .val (.int i4), .val (.int (oLen i0)), .val (.int (oC0 i0)), .val (.int (oC1 i0)), .val (.int (oLen i1)), .val (.int (oC0 i1)), .val (.int (oC1 i1)), .val (.int (if (i4 &&& (1 : Int32)) = (0 : Int32) then (0 : Int32) else (1 : Int32))), .val (.int (if (i4 &&& (2 : Int32)) = (0 : Int32) then (0 : Int32) else (1 : Int32))), .val (.int (oLen i2)), .val (.int (oC0 i2)), .val (.int (oC1 i2)), .val (.int (oLen i1)), .val (.int (oC0 i1)), .val (.int (oC1 i1)), .unset, .unset, .unset, .unset]) rfl ?_
      refine o_iload K X14 at_160 (pc' := 162) rfl rfl ?_
      refine o_iconst K X14 at_162 (pc' := 163) rfl (z := (2 : Int32)) rfl ?_
      refine o_iushr K X14 at_163 (pc' := 164) rfl (z := ((i4.toUInt32 >>> ((2 : Int32) &&& 31).toUInt32).toInt32)) rfl ?_
      refine o_iconst K X14 at_164 (pc' := 165) rfl (z := (3 : Int32)) rfl ?_
      refine o_iand K X14 at_165 (pc' := 166) rfl (z := (((i4.toUInt32 >>> ((2 : Int32) &&& 31).toUInt32).toInt32) &&& (3 : Int32))) rfl ?_
      refine o_istore K X14 at_166 (pc' := 168) rfl (L' := #[.val (.int i0), .val (.int i1), .val (.int i2), .val (.int i3), .val (.int i4), .val (.int (oLen i0)), .val (.int (oC0 i0)), .val (.int (oC1 i0)), .val (.int (oLen i1)), .val (.int (oC0 i1)), .val (.int (oC1 i1)), .val (.int (if (i4 &&& (1 : Int32)) = (0 : Int32) then (0 : Int32) else (1 : Int32))), .val (.int (if (i4 &&& (2 : Int32)) = (0 : Int32) then (0 : Int32) else (1 : Int32))), .val (.int (oLen i2)), .val (.int (oC0 i2)), .val (.int (oC1 i2)), .val (.int (oLen i1)), .val (.int (oC0 i1)), .val (.int (oC1 i1)), .val (.int (((i4.toUInt32 >>> ((2 : Int32) &&& 31).toUInt32).toInt32) &&& (3 : Int32))), .unset, .unset, .unset]) rfl ?_
      refine o_new K X14 (w10 hw) (w11 hw) (w12 hw) at_168 (pc' := 171) rfl (by decide) (by decide) ?_
      intro T45 h45 b45 X45 g45 E45 A45 D45 G45
      have F45_name : Fld Z h45 b45 "com/example/phone_conformance_check/phoneconformancecheck/capture/Property" "name" "Ljava/lang/String;" .null := (D45 (Or.inr (w49 hw)) (ty := (.object "java/lang/String")) (by decide))
      have F45_value : Fld Z h45 b45 "com/example/phone_conformance_check/phoneconformancecheck/capture/Property" "value" "Ljava/lang/String;" .null := (D45 (Or.inr (w52 hw)) (ty := (.object "java/lang/String")) (by decide))
      refine o_dup K X45 at_171 (pc' := 172) rfl rfl ?_
      refine o_iload K X45 at_172 (pc' := 174) rfl rfl ?_
      refine o_iload K X45 at_174 (pc' := 176) rfl rfl ?_
      refine o_iload K X45 at_176 (pc' := 178) rfl rfl ?_
      refine o_static K X45 (y := (⟨"com/example/phone_conformance_check/phoneconformancecheck/capture/PropertyEqualsPinLaw", "mk", "(ICC)Ljava/lang/String;"⟩ : MethodName)) (w13 hw) (w14 hw) (w2 hw) (w15 hw) (by decide) (rm_mk l Z a0 hw (oLen i0) (oC0 i0) (oC1 i0) cs h45 q4 q5 (oChM _).2 (oChM _).2 (oNarMask _ (by decide)) (oNarMask _ (by decide))) all0 (by decide) rfl (argsL := [(.int (oLen i0)), (.int (oC0 i0)), (.int (oC1 i0))]) rfl (lenOf pd_law_2 rfl) (W := 2) rfl (by decide) (by decide) (by decide) at_178 (pc' := 181) rfl ?_
      intro v46 T46 h46 FX46 U46
      obtain ⟨r_46, vb_46, k_46, rfl, u46_0, u46_1, u46_2, u46_3, u46_4, u46_5⟩ := U46
      have G46_r : Z.heap.size ≤ r_46 := Nat.le_trans (Nat.le_trans E0.1 E45.1) u46_1
      have X46 := FX46 [] (Or.inr rfl) all0
      show oGoes pp ee bb ss Z T46 (mkF mm 181 #[.val (.int i0), .val (.int i1), .val (.int i2), .val (.int i3), .val (.int i4), .val (.int (oLen i0)), .val (.int (oC0 i0)), .val (.int (oC1 i0)), .val (.int (oLen i1)), .val (.int (oC0 i1)), .val (.int (oC1 i1)), .val (.int (if (i4 &&& (1 : Int32)) = (0 : Int32) then (0 : Int32) else (1 : Int32))), .val (.int (if (i4 &&& (2 : Int32)) = (0 : Int32) then (0 : Int32) else (1 : Int32))), .val (.int (oLen i2)), .val (.int (oC0 i2)), .val (.int (oC1 i2)), .val (.int (oLen i1)), .val (.int (oC0 i1)), .val (.int (oC1 i1)), .val (.int (((i4.toUInt32 >>> ((2 : Int32) &&& 31).toUInt32).toInt32) &&& (3 : Int32))), .unset, .unset, .unset] [(.ref r_46), (.ref b45), (.ref b45)]) _ _ _ _
      refine o_iload K X46 at_181 (pc' := 183) rfl rfl ?_
      refine o_iload K X46 at_183 (pc' := 185) rfl rfl ?_
      refine o_iload K X46 at_185 (pc' := 187) rfl rfl ?_
      refine o_static K X46 (y := (⟨"com/example/phone_conformance_check/phoneconformancecheck/capture/PropertyEqualsPinLaw", "mk", "(ICC)Ljava/lang/String;"⟩ : MethodName)) (w13 hw) (w14 hw) (w2 hw) (w15 hw) (by decide) (rm_mk l Z a0 hw (oLen i1) (oC0 i1) (oC1 i1) cs h46 q4 q5 (oChM _).2 (oChM _).2 (oNarMask _ (by decide)) (oNarMask _ (by decide))) all0 (by decide) rfl (argsL := [(.int (oLen i1)), (.int (oC0 i1)), (.int (oC1 i1))]) rfl (lenOf pd_law_2 rfl) (W := 3) rfl (by decide) (by decide) (by decide) at_187 (pc' := 190) rfl ?_
      intro v47 T47 h47 FX47 U47
      obtain ⟨r_47, vb_47, k_47, rfl, u47_0, u47_1, u47_2, u47_3, u47_4, u47_5⟩ := U47
      have G47_r : Z.heap.size ≤ r_47 := Nat.le_trans (Nat.le_trans E0.1 (Nat.le_trans E45.1 u46_0.1)) u47_1
      have X47 := FX47 [] (Or.inr rfl) all0
      show oGoes pp ee bb ss Z T47 (mkF mm 190 #[.val (.int i0), .val (.int i1), .val (.int i2), .val (.int i3), .val (.int i4), .val (.int (oLen i0)), .val (.int (oC0 i0)), .val (.int (oC1 i0)), .val (.int (oLen i1)), .val (.int (oC0 i1)), .val (.int (oC1 i1)), .val (.int (if (i4 &&& (1 : Int32)) = (0 : Int32) then (0 : Int32) else (1 : Int32))), .val (.int (if (i4 &&& (2 : Int32)) = (0 : Int32) then (0 : Int32) else (1 : Int32))), .val (.int (oLen i2)), .val (.int (oC0 i2)), .val (.int (oC1 i2)), .val (.int (oLen i1)), .val (.int (oC0 i1)), .val (.int (oC1 i1)), .val (.int (((i4.toUInt32 >>> ((2 : Int32) &&& 31).toUInt32).toInt32) &&& (3 : Int32))), .unset, .unset, .unset] [(.ref r_47), (.ref r_46), (.ref b45), (.ref b45)]) _ _ _ _
      refine o_special K X47 (y := (⟨"com/example/phone_conformance_check/phoneconformancecheck/capture/Property", "<init>", "(Ljava/lang/String;Ljava/lang/String;)V"⟩ : MethodName)) rfl (w38 hw) (w39 hw) (w12 hw) (w40 hw) (by decide) (rm_pinit l Z a0 hw b45 r_46 r_47 h47 ((A45.keep u46_0).keep u47_0) ((F45_name.keep u46_0 nin0).keep u47_0 nin0) ((F45_value.keep u46_0 nin0).keep u47_0 nin0) G45 (u46_2.keep u47_0) u47_2) (allS (List.mem_of_getElem? (i := 0) rfl) all0) (by decide) rfl (argsL := [(.ref r_46), (.ref r_47)]) rfl (lenOf pd_law_3 rfl) (W := 1) rfl (by decide) (by decide) (by decide) at_190 (pc' := 193) rfl ?_
      intro v48 T48 h48 FX48 U48
      obtain ⟨rfl, u48_0, u48_1, u48_2, u48_3⟩ := U48
      have X48 := FX48 [] (Or.inr rfl) all0
      show oGoes pp ee bb ss Z T48 (mkF mm 193 #[.val (.int i0), .val (.int i1), .val (.int i2), .val (.int i3), .val (.int i4), .val (.int (oLen i0)), .val (.int (oC0 i0)), .val (.int (oC1 i0)), .val (.int (oLen i1)), .val (.int (oC0 i1)), .val (.int (oC1 i1)), .val (.int (if (i4 &&& (1 : Int32)) = (0 : Int32) then (0 : Int32) else (1 : Int32))), .val (.int (if (i4 &&& (2 : Int32)) = (0 : Int32) then (0 : Int32) else (1 : Int32))), .val (.int (oLen i2)), .val (.int (oC0 i2)), .val (.int (oC1 i2)), .val (.int (oLen i1)), .val (.int (oC0 i1)), .val (.int (oC1 i1)), .val (.int (((i4.toUInt32 >>> ((2 : Int32) &&& 31).toUInt32).toInt32) &&& (3 : Int32))), .unset, .unset, .unset] [(.ref b45)]) _ _ _ _
      refine o_astore K X48 at_193 (pc' := 195) rfl rfl (L' := #[.val (.int i0), .val (.int i1), .val (.int i2), .val (.int i3), .val (.int i4), .val (.int (oLen i0)), .val (.int (oC0 i0)), .val (.int (oC1 i0)), .val (.int (oLen i1)), .val (.int (oC0 i1)), .val (.int (oC1 i1)), .val (.int (if (i4 &&& (1 : Int32)) = (0 : Int32) then (0 : Int32) else (1 : Int32))), .val (.int (if (i4 &&& (2 : Int32)) = (0 : Int32) then (0 : Int32) else (1 : Int32))), .val (.int (oLen i2)), .val (.int (oC0 i2)), .val (.int (oC1 i2)), .val (.int (oLen i1)), .val (.int (oC0 i1)), .val (.int (oC1 i1)), .val (.int (((i4.toUInt32 >>> ((2 : Int32) &&& 31).toUInt32).toInt32) &&& (3 : Int32))), .val (.ref b45), .unset, .unset]) rfl ?_
      refine o_iload K X48 at_195 (pc' := 197) rfl rfl ?_
      refine o_iconst K X48 at_197 (pc' := 198) rfl (z := (2 : Int32)) rfl ?_
      by_cases c198_49 : (((i4.toUInt32 >>> ((2 : Int32) &&& 31).toUInt32).toInt32) &&& (3 : Int32)) = (2 : Int32)
      · refine o_icmp_ne_f K X48 at_198 (pc' := 201) rfl c198_49 ?_
        refine o_aload K X48 at_201 (pc' := 203) rfl rfl rfl ?_
        refine o_aload K X48 at_203 (pc' := 205) rfl rfl rfl ?_
        refine o_virtual K X48 (y := (⟨"com/example/phone_conformance_check/phoneconformancecheck/capture/Property", "equals", "(Ljava/lang/Object;)Z"⟩ : MethodName)) (z := (⟨"com/example/phone_conformance_check/phoneconformancecheck/capture/Property", "equals", "(Ljava/lang/Object;)Z"⟩ : MethodName)) (w56 hw) (w57 hw) (fun _ q => notFace_of_selects (args := #[]) (mvT q (w59 hw))) (w59 hw) (w58 hw) (w12 hw) (w60 hw) (by decide) u48_1 (rm_peqself l Z a0 hw b45 r_46 r_47 h48 u48_1 u48_2 u48_3 ((u46_2.keep u47_0).keep u48_0) (u47_2.keep u48_0)) all0 (by decide) rfl (argsL := [(.ref b45)]) rfl (lenOf pd_law_4 rfl) (W := 0) rfl (by decide) (by decide) (by decide) at_205 (pc' := 208) rfl ?_
        intro v50 T50 h50 FX50 U50
        obtain ⟨rfl, rfl⟩ := U50
        have X50 := FX50 [] (Or.inl rfl) all0
        show oGoes pp ee bb ss Z T50 (mkF mm 208 #[.val (.int i0), .val (.int i1), .val (.int i2), .val (.int i3), .val (.int i4), .val (.int (oLen i0)), .val (.int (oC0 i0)), .val (.int (oC1 i0)), .val (.int (oLen i1)), .val (.int (oC0 i1)), .val (.int (oC1 i1)), .val (.int (if (i4 &&& (1 : Int32)) = (0 : Int32) then (0 : Int32) else (1 : Int32))), .val (.int (if (i4 &&& (2 : Int32)) = (0 : Int32) then (0 : Int32) else (1 : Int32))), .val (.int (oLen i2)), .val (.int (oC0 i2)), .val (.int (oC1 i2)), .val (.int (oLen i1)), .val (.int (oC0 i1)), .val (.int (oC1 i1)), .val (.int (((i4.toUInt32 >>> ((2 : Int32) &&& 31).toUInt32).toInt32) &&& (3 : Int32))), .val (.ref b45), .unset, .unset] [(.int (1 : Int32))]) _ _ _ _
        refine o_if_eq_f K X50 at_208 (pc' := 211) rfl (by decide) ?_
        refine o_aload K X50 at_211 (pc' := 213) rfl rfl rfl ?_
        refine o_aconst_null K X50 at_213 (pc' := 214) rfl ?_
        refine o_virtual K X50 (y := (⟨"com/example/phone_conformance_check/phoneconformancecheck/capture/Property", "equals", "(Ljava/lang/Object;)Z"⟩ : MethodName)) (z := (⟨"com/example/phone_conformance_check/phoneconformancecheck/capture/Property", "equals", "(Ljava/lang/Object;)Z"⟩ : MethodName)) (w56 hw) (w57 hw) (fun _ q => notFace_of_selects (args := #[]) (mvT q (w59 hw))) (w59 hw) (w58 hw) (w12 hw) (w60 hw) (by decide) u48_1 (rm_peqnull l Z a0 hw b45 h48) all0 (by decide) rfl (argsL := [.null]) rfl (lenOf pd_law_4 rfl) (W := 0) rfl (by decide) (by decide) (by decide) at_214 (pc' := 217) rfl ?_
        intro v51 T51 h51 FX51 U51
        obtain ⟨rfl, rfl⟩ := U51
        have X51 := FX51 [] (Or.inl rfl) all0
        show oGoes pp ee bb ss Z T51 (mkF mm 217 #[.val (.int i0), .val (.int i1), .val (.int i2), .val (.int i3), .val (.int i4), .val (.int (oLen i0)), .val (.int (oC0 i0)), .val (.int (oC1 i0)), .val (.int (oLen i1)), .val (.int (oC0 i1)), .val (.int (oC1 i1)), .val (.int (if (i4 &&& (1 : Int32)) = (0 : Int32) then (0 : Int32) else (1 : Int32))), .val (.int (if (i4 &&& (2 : Int32)) = (0 : Int32) then (0 : Int32) else (1 : Int32))), .val (.int (oLen i2)), .val (.int (oC0 i2)), .val (.int (oC1 i2)), .val (.int (oLen i1)), .val (.int (oC0 i1)), .val (.int (oC1 i1)), .val (.int (((i4.toUInt32 >>> ((2 : Int32) &&& 31).toUInt32).toInt32) &&& (3 : Int32))), .val (.ref b45), .unset, .unset] [(.int (0 : Int32))]) _ _ _ _
        refine o_if_ne_f K X51 at_217 (pc' := 220) rfl (by decide) ?_
        refine o_iconst K X51 at_220 (pc' := 221) rfl (z := (1 : Int32)) rfl ?_
        refine o_goto K X51 at_221 (by decide) (pc' := 225) (by decide) ?_
        refine o_ireturnN K X51 .boolean at_225 rfl (by simp) (z' := (1 : Int32)) (by decide) ?_ (by decide) (by decide) (by decide)
        exact rfl
      · refine o_icmp_ne_t K X48 at_198 (by decide) (pc' := 226) (by decide) c198_49 ?_
        refine o_iload K X48 at_226 (pc' := 228) rfl rfl ?_
        refine o_iconst K X48 at_228 (pc' := 229) rfl (z := (3 : Int32)) rfl ?_
        by_cases c229_52 : (((i4.toUInt32 >>> ((2 : Int32) &&& 31).toUInt32).toInt32) &&& (3 : Int32)) = (3 : Int32)
        · refine o_icmp_ne_f K X48 at_229 (pc' := 232) rfl c229_52 ?_
          refine o_iloadN K X48 at_232 (pc' := 233) rfl rfl ?_
          refine o_static K X48 (y := (⟨"java/lang/Integer", "valueOf", "(I)Ljava/lang/Integer;"⟩ : MethodName)) (w84 hw) (w85 hw) (w86 hw) (w87 hw) (by decide) (rm_valueof l Z a0 hw i2 ca kc vc h48 q0 q1 q2 q3) all0 (by decide) rfl (argsL := [(.int i2)]) rfl (lenOf pd_law_5 rfl) (W := 0) rfl (by decide) (by decide) (by decide) at_233 (pc' := 236) rfl ?_
          intro v53 T53 h53 FX53 U53
          obtain ⟨r_53, rfl, u53_0, u53_1⟩ := U53
          have X53 := FX53 [] (Or.inl rfl) all0
          show oGoes pp ee bb ss Z T53 (mkF mm 236 #[.val (.int i0), .val (.int i1), .val (.int i2), .val (.int i3), .val (.int i4), .val (.int (oLen i0)), .val (.int (oC0 i0)), .val (.int (oC1 i0)), .val (.int (oLen i1)), .val (.int (oC0 i1)), .val (.int (oC1 i1)), .val (.int (if (i4 &&& (1 : Int32)) = (0 : Int32) then (0 : Int32) else (1 : Int32))), .val (.int (if (i4 &&& (2 : Int32)) = (0 : Int32) then (0 : Int32) else (1 : Int32))), .val (.int (oLen i2)), .val (.int (oC0 i2)), .val (.int (oC1 i2)), .val (.int (oLen i1)), .val (.int (oC0 i1)), .val (.int (oC1 i1)), .val (.int (((i4.toUInt32 >>> ((2 : Int32) &&& 31).toUInt32).toInt32) &&& (3 : Int32))), .val (.ref b45), .unset, .unset] [(.ref r_53)]) _ _ _ _
          refine o_astore K X53 at_236 (pc' := 238) rfl rfl (L' := #[.val (.int i0), .val (.int i1), .val (.int i2), .val (.int i3), .val (.int i4), .val (.int (oLen i0)), .val (.int (oC0 i0)), .val (.int (oC1 i0)), .val (.int (oLen i1)), .val (.int (oC0 i1)), .val (.int (oC1 i1)), .val (.int (if (i4 &&& (1 : Int32)) = (0 : Int32) then (0 : Int32) else (1 : Int32))), .val (.int (if (i4 &&& (2 : Int32)) = (0 : Int32) then (0 : Int32) else (1 : Int32))), .val (.int (oLen i2)), .val (.int (oC0 i2)), .val (.int (oC1 i2)), .val (.int (oLen i1)), .val (.int (oC0 i1)), .val (.int (oC1 i1)), .val (.int (((i4.toUInt32 >>> ((2 : Int32) &&& 31).toUInt32).toInt32) &&& (3 : Int32))), .val (.ref b45), .val (.ref r_53), .unset]) rfl ?_
          refine o_iload K X53 at_238 (pc' := 240) rfl rfl ?_
          refine o_iload K X53 at_240 (pc' := 242) rfl rfl ?_
          refine o_iload K X53 at_242 (pc' := 244) rfl rfl ?_
          refine o_static K X53 (y := (⟨"com/example/phone_conformance_check/phoneconformancecheck/capture/PropertyEqualsPinLaw", "mk", "(ICC)Ljava/lang/String;"⟩ : MethodName)) (w13 hw) (w14 hw) (w2 hw) (w15 hw) (by decide) (rm_mk l Z a0 hw (oLen i0) (oC0 i0) (oC1 i0) cs h53 q4 q5 (oChM _).2 (oChM _).2 (oNarMask _ (by decide)) (oNarMask _ (by decide))) all0 (by decide) rfl (argsL := [(.int (oLen i0)), (.int (oC0 i0)), (.int (oC1 i0))]) rfl (lenOf pd_law_2 rfl) (W := 0) rfl (by decide) (by decide) (by decide) at_244 (pc' := 247) rfl ?_
          intro v54 T54 h54 FX54 U54
          obtain ⟨r_54, vb_54, k_54, rfl, u54_0, u54_1, u54_2, u54_3, u54_4, u54_5⟩ := U54
          have G54_r : Z.heap.size ≤ r_54 := Nat.le_trans (Nat.le_trans E0.1 (Nat.le_trans (Nat.le_trans (Nat.le_trans (Nat.le_trans E45.1 u46_0.1) u47_0.1) u48_0.1) u53_0.1)) u54_1
          have X54 := FX54 [] (Or.inr rfl) all0
          show oGoes pp ee bb ss Z T54 (mkF mm 247 #[.val (.int i0), .val (.int i1), .val (.int i2), .val (.int i3), .val (.int i4), .val (.int (oLen i0)), .val (.int (oC0 i0)), .val (.int (oC1 i0)), .val (.int (oLen i1)), .val (.int (oC0 i1)), .val (.int (oC1 i1)), .val (.int (if (i4 &&& (1 : Int32)) = (0 : Int32) then (0 : Int32) else (1 : Int32))), .val (.int (if (i4 &&& (2 : Int32)) = (0 : Int32) then (0 : Int32) else (1 : Int32))), .val (.int (oLen i2)), .val (.int (oC0 i2)), .val (.int (oC1 i2)), .val (.int (oLen i1)), .val (.int (oC0 i1)), .val (.int (oC1 i1)), .val (.int (((i4.toUInt32 >>> ((2 : Int32) &&& 31).toUInt32).toInt32) &&& (3 : Int32))), .val (.ref b45), .val (.ref r_53), .unset] [(.ref r_54)]) _ _ _ _
          refine o_astore K X54 at_247 (pc' := 249) rfl rfl (L' := #[.val (.int i0), .val (.int i1), .val (.int i2), .val (.int i3), .val (.int i4), .val (.int (oLen i0)), .val (.int (oC0 i0)), .val (.int (oC1 i0)), .val (.int (oLen i1)), .val (.int (oC0 i1)), .val (.int (oC1 i1)), .val (.int (if (i4 &&& (1 : Int32)) = (0 : Int32) then (0 : Int32) else (1 : Int32))), .val (.int (if (i4 &&& (2 : Int32)) = (0 : Int32) then (0 : Int32) else (1 : Int32))), .val (.int (oLen i2)), .val (.int (oC0 i2)), .val (.int (oC1 i2)), .val (.int (oLen i1)), .val (.int (oC0 i1)), .val (.int (oC1 i1)), .val (.int (((i4.toUInt32 >>> ((2 : Int32) &&& 31).toUInt32).toInt32) &&& (3 : Int32))), .val (.ref b45), .val (.ref r_53), .val (.ref r_54)]) rfl ?_
          refine o_aload K X54 at_249 (pc' := 251) rfl rfl rfl ?_
          refine o_aload K X54 at_251 (pc' := 253) rfl rfl rfl ?_
          refine o_virtual K X54 (y := (⟨"com/example/phone_conformance_check/phoneconformancecheck/capture/Property", "equals", "(Ljava/lang/Object;)Z"⟩ : MethodName)) (z := (⟨"com/example/phone_conformance_check/phoneconformancecheck/capture/Property", "equals", "(Ljava/lang/Object;)Z"⟩ : MethodName)) (w56 hw) (w57 hw) (fun _ q => notFace_of_selects (args := #[]) (mvT q (w59 hw))) (w59 hw) (w58 hw) (w12 hw) (w60 hw) (by decide) ((u48_1.keep u53_0).keep u54_0) (rm_peqint l Z a0 hw b45 r_53 h54 (u53_1.keep u54_0)) all0 (by decide) rfl (argsL := [(.ref r_53)]) rfl (lenOf pd_law_4 rfl) (W := 0) rfl (by decide) (by decide) (by decide) at_253 (pc' := 256) rfl ?_
          intro v55 T55 h55 FX55 U55
          obtain ⟨rfl, rfl⟩ := U55
          have X55 := FX55 [] (Or.inl rfl) all0
          show oGoes pp ee bb ss Z T55 (mkF mm 256 #[.val (.int i0), .val (.int i1), .val (.int i2), .val (.int i3), .val (.int i4), .val (.int (oLen i0)), .val (.int (oC0 i0)), .val (.int (oC1 i0)), .val (.int (oLen i1)), .val (.int (oC0 i1)), .val (.int (oC1 i1)), .val (.int (if (i4 &&& (1 : Int32)) = (0 : Int32) then (0 : Int32) else (1 : Int32))), .val (.int (if (i4 &&& (2 : Int32)) = (0 : Int32) then (0 : Int32) else (1 : Int32))), .val (.int (oLen i2)), .val (.int (oC0 i2)), .val (.int (oC1 i2)), .val (.int (oLen i1)), .val (.int (oC0 i1)), .val (.int (oC1 i1)), .val (.int (((i4.toUInt32 >>> ((2 : Int32) &&& 31).toUInt32).toInt32) &&& (3 : Int32))), .val (.ref b45), .val (.ref r_53), .val (.ref r_54)] [(.int (0 : Int32))]) _ _ _ _
          refine o_if_ne_f K X55 at_256 (pc' := 259) rfl (by decide) ?_
          refine o_aload K X55 at_259 (pc' := 261) rfl rfl rfl ?_
          refine o_aload K X55 at_261 (pc' := 263) rfl rfl rfl ?_
          refine o_virtual K X55 (y := (⟨"com/example/phone_conformance_check/phoneconformancecheck/capture/Property", "equals", "(Ljava/lang/Object;)Z"⟩ : MethodName)) (z := (⟨"com/example/phone_conformance_check/phoneconformancecheck/capture/Property", "equals", "(Ljava/lang/Object;)Z"⟩ : MethodName)) (w56 hw) (w57 hw) (fun _ q => notFace_of_selects (args := #[]) (mvT q (w59 hw))) (w59 hw) (w58 hw) (w12 hw) (w60 hw) (by decide) ((u48_1.keep u53_0).keep u54_0) (rm_peqstr l Z a0 hw b45 r_54 h54 u54_2) all0 (by decide) rfl (argsL := [(.ref r_54)]) rfl (lenOf pd_law_4 rfl) (W := 0) rfl (by decide) (by decide) (by decide) at_263 (pc' := 266) rfl ?_
          intro v56 T56 h56 FX56 U56
          obtain ⟨rfl, rfl⟩ := U56
          have X56 := FX56 [] (Or.inl rfl) all0
          show oGoes pp ee bb ss Z T56 (mkF mm 266 #[.val (.int i0), .val (.int i1), .val (.int i2), .val (.int i3), .val (.int i4), .val (.int (oLen i0)), .val (.int (oC0 i0)), .val (.int (oC1 i0)), .val (.int (oLen i1)), .val (.int (oC0 i1)), .val (.int (oC1 i1)), .val (.int (if (i4 &&& (1 : Int32)) = (0 : Int32) then (0 : Int32) else (1 : Int32))), .val (.int (if (i4 &&& (2 : Int32)) = (0 : Int32) then (0 : Int32) else (1 : Int32))), .val (.int (oLen i2)), .val (.int (oC0 i2)), .val (.int (oC1 i2)), .val (.int (oLen i1)), .val (.int (oC0 i1)), .val (.int (oC1 i1)), .val (.int (((i4.toUInt32 >>> ((2 : Int32) &&& 31).toUInt32).toInt32) &&& (3 : Int32))), .val (.ref b45), .val (.ref r_53), .val (.ref r_54)] [(.int (0 : Int32))]) _ _ _ _
          refine o_if_ne_f K X56 at_266 (pc' := 269) rfl (by decide) ?_
          refine o_iconst K X56 at_269 (pc' := 270) rfl (z := (1 : Int32)) rfl ?_
          refine o_goto K X56 at_270 (by decide) (pc' := 274) (by decide) ?_
          refine o_ireturnN K X56 .boolean at_274 rfl (by simp) (z' := (1 : Int32)) (by decide) ?_ (by decide) (by decide) (by decide)
          exact rfl
        · refine o_icmp_ne_t K X48 at_229 (by decide) (pc' := 275) (by decide) c229_52 ?_
          refine o_new K X48 (w10 hw) (w11 hw) (w12 hw) at_275 (pc' := 278) rfl (by decide) (by decide) ?_
          intro T57 h57 b57 X57 g57 E57 A57 D57 G57
          have F57_name : Fld Z h57 b57 "com/example/phone_conformance_check/phoneconformancecheck/capture/Property" "name" "Ljava/lang/String;" .null := (D57 (Or.inr (w49 hw)) (ty := (.object "java/lang/String")) (by decide))
          have F57_value : Fld Z h57 b57 "com/example/phone_conformance_check/phoneconformancecheck/capture/Property" "value" "Ljava/lang/String;" .null := (D57 (Or.inr (w52 hw)) (ty := (.object "java/lang/String")) (by decide))
          refine o_dup K X57 at_278 (pc' := 279) rfl rfl ?_
          refine o_iload K X57 at_279 (pc' := 281) rfl rfl ?_
          refine o_iload K X57 at_281 (pc' := 283) rfl rfl ?_
          refine o_iload K X57 at_283 (pc' := 285) rfl rfl ?_
          refine o_static K X57 (y := (⟨"com/example/phone_conformance_check/phoneconformancecheck/capture/PropertyEqualsPinLaw", "mk", "(ICC)Ljava/lang/String;"⟩ : MethodName)) (w13 hw) (w14 hw) (w2 hw) (w15 hw) (by decide) (rm_mk l Z a0 hw (oLen i2) (oC0 i2) (oC1 i2) cs h57 q4 q5 (oChM _).2 (oChM _).2 (oNarMask _ (by decide)) (oNarMask _ (by decide))) all0 (by decide) rfl (argsL := [(.int (oLen i2)), (.int (oC0 i2)), (.int (oC1 i2))]) rfl (lenOf pd_law_2 rfl) (W := 2) rfl (by decide) (by decide) (by decide) at_285 (pc' := 288) rfl ?_
          intro v58 T58 h58 FX58 U58
          obtain ⟨r_58, vb_58, k_58, rfl, u58_0, u58_1, u58_2, u58_3, u58_4, u58_5⟩ := U58
          have G58_r : Z.heap.size ≤ r_58 := Nat.le_trans (Nat.le_trans E0.1 (Nat.le_trans (Nat.le_trans (Nat.le_trans (Nat.le_trans E45.1 u46_0.1) u47_0.1) u48_0.1) E57.1)) u58_1
          have X58 := FX58 [] (Or.inr rfl) all0
          show oGoes pp ee bb ss Z T58 (mkF mm 288 #[.val (.int i0), .val (.int i1), .val (.int i2), .val (.int i3), .val (.int i4), .val (.int (oLen i0)), .val (.int (oC0 i0)), .val (.int (oC1 i0)), .val (.int (oLen i1)), .val (.int (oC0 i1)), .val (.int (oC1 i1)), .val (.int (if (i4 &&& (1 : Int32)) = (0 : Int32) then (0 : Int32) else (1 : Int32))), .val (.int (if (i4 &&& (2 : Int32)) = (0 : Int32) then (0 : Int32) else (1 : Int32))), .val (.int (oLen i2)), .val (.int (oC0 i2)), .val (.int (oC1 i2)), .val (.int (oLen i1)), .val (.int (oC0 i1)), .val (.int (oC1 i1)), .val (.int (((i4.toUInt32 >>> ((2 : Int32) &&& 31).toUInt32).toInt32) &&& (3 : Int32))), .val (.ref b45), .unset, .unset] [(.ref r_58), (.ref b57), (.ref b57)]) _ _ _ _
          refine o_iload K X58 at_288 (pc' := 290) rfl rfl ?_
          refine o_iload K X58 at_290 (pc' := 292) rfl rfl ?_
          refine o_iload K X58 at_292 (pc' := 294) rfl rfl ?_
          refine o_static K X58 (y := (⟨"com/example/phone_conformance_check/phoneconformancecheck/capture/PropertyEqualsPinLaw", "mk", "(ICC)Ljava/lang/String;"⟩ : MethodName)) (w13 hw) (w14 hw) (w2 hw) (w15 hw) (by decide) (rm_mk l Z a0 hw (oLen i1) (oC0 i1) (oC1 i1) cs h58 q4 q5 (oChM _).2 (oChM _).2 (oNarMask _ (by decide)) (oNarMask _ (by decide))) all0 (by decide) rfl (argsL := [(.int (oLen i1)), (.int (oC0 i1)), (.int (oC1 i1))]) rfl (lenOf pd_law_2 rfl) (W := 3) rfl (by decide) (by decide) (by decide) at_294 (pc' := 297) rfl ?_
          intro v59 T59 h59 FX59 U59
          obtain ⟨r_59, vb_59, k_59, rfl, u59_0, u59_1, u59_2, u59_3, u59_4, u59_5⟩ := U59
          have G59_r : Z.heap.size ≤ r_59 := Nat.le_trans (Nat.le_trans E0.1 (Nat.le_trans (Nat.le_trans (Nat.le_trans (Nat.le_trans (Nat.le_trans E45.1 u46_0.1) u47_0.1) u48_0.1) E57.1) u58_0.1)) u59_1
          have X59 := FX59 [] (Or.inr rfl) all0
          show oGoes pp ee bb ss Z T59 (mkF mm 297 #[.val (.int i0), .val (.int i1), .val (.int i2), .val (.int i3), .val (.int i4), .val (.int (oLen i0)), .val (.int (oC0 i0)), .val (.int (oC1 i0)), .val (.int (oLen i1)), .val (.int (oC0 i1)), .val (.int (oC1 i1)), .val (.int (if (i4 &&& (1 : Int32)) = (0 : Int32) then (0 : Int32) else (1 : Int32))), .val (.int (if (i4 &&& (2 : Int32)) = (0 : Int32) then (0 : Int32) else (1 : Int32))), .val (.int (oLen i2)), .val (.int (oC0 i2)), .val (.int (oC1 i2)), .val (.int (oLen i1)), .val (.int (oC0 i1)), .val (.int (oC1 i1)), .val (.int (((i4.toUInt32 >>> ((2 : Int32) &&& 31).toUInt32).toInt32) &&& (3 : Int32))), .val (.ref b45), .unset, .unset] [(.ref r_59), (.ref r_58), (.ref b57), (.ref b57)]) _ _ _ _
          refine o_special K X59 (y := (⟨"com/example/phone_conformance_check/phoneconformancecheck/capture/Property", "<init>", "(Ljava/lang/String;Ljava/lang/String;)V"⟩ : MethodName)) rfl (w38 hw) (w39 hw) (w12 hw) (w40 hw) (by decide) (rm_pinit l Z a0 hw b57 r_58 r_59 h59 ((A57.keep u58_0).keep u59_0) ((F57_name.keep u58_0 nin0).keep u59_0 nin0) ((F57_value.keep u58_0 nin0).keep u59_0 nin0) G57 (u58_2.keep u59_0) u59_2) (allS (List.mem_of_getElem? (i := 0) rfl) all0) (by decide) rfl (argsL := [(.ref r_58), (.ref r_59)]) rfl (lenOf pd_law_3 rfl) (W := 1) rfl (by decide) (by decide) (by decide) at_297 (pc' := 300) rfl ?_
          intro v60 T60 h60 FX60 U60
          obtain ⟨rfl, u60_0, u60_1, u60_2, u60_3⟩ := U60
          have X60 := FX60 [] (Or.inr rfl) all0
          show oGoes pp ee bb ss Z T60 (mkF mm 300 #[.val (.int i0), .val (.int i1), .val (.int i2), .val (.int i3), .val (.int i4), .val (.int (oLen i0)), .val (.int (oC0 i0)), .val (.int (oC1 i0)), .val (.int (oLen i1)), .val (.int (oC0 i1)), .val (.int (oC1 i1)), .val (.int (if (i4 &&& (1 : Int32)) = (0 : Int32) then (0 : Int32) else (1 : Int32))), .val (.int (if (i4 &&& (2 : Int32)) = (0 : Int32) then (0 : Int32) else (1 : Int32))), .val (.int (oLen i2)), .val (.int (oC0 i2)), .val (.int (oC1 i2)), .val (.int (oLen i1)), .val (.int (oC0 i1)), .val (.int (oC1 i1)), .val (.int (((i4.toUInt32 >>> ((2 : Int32) &&& 31).toUInt32).toInt32) &&& (3 : Int32))), .val (.ref b45), .unset, .unset] [(.ref b57)]) _ _ _ _
          refine o_astore K X60 at_300 (pc' := 302) rfl rfl (L' := #[.val (.int i0), .val (.int i1), .val (.int i2), .val (.int i3), .val (.int i4), .val (.int (oLen i0)), .val (.int (oC0 i0)), .val (.int (oC1 i0)), .val (.int (oLen i1)), .val (.int (oC0 i1)), .val (.int (oC1 i1)), .val (.int (if (i4 &&& (1 : Int32)) = (0 : Int32) then (0 : Int32) else (1 : Int32))), .val (.int (if (i4 &&& (2 : Int32)) = (0 : Int32) then (0 : Int32) else (1 : Int32))), .val (.int (oLen i2)), .val (.int (oC0 i2)), .val (.int (oC1 i2)), .val (.int (oLen i1)), .val (.int (oC0 i1)), .val (.int (oC1 i1)), .val (.int (((i4.toUInt32 >>> ((2 : Int32) &&& 31).toUInt32).toInt32) &&& (3 : Int32))), .val (.ref b45), .val (.ref b57), .unset]) rfl ?_
          refine o_iload K X60 at_302 (pc' := 304) rfl rfl ?_
          refine o_iload K X60 at_304 (pc' := 306) rfl rfl ?_
          refine o_iload K X60 at_306 (pc' := 308) rfl rfl ?_
          refine o_iload K X60 at_308 (pc' := 310) rfl rfl ?_
          refine o_iload K X60 at_310 (pc' := 312) rfl rfl ?_
          refine o_iload K X60 at_312 (pc' := 314) rfl rfl ?_
          refine o_static K X60 (y := (⟨"com/example/phone_conformance_check/phoneconformancecheck/capture/PropertyEqualsPinLaw", "same", "(ICCICC)Z"⟩ : MethodName)) (w53 hw) (w54 hw) (w2 hw) (w55 hw) (by decide) (rm_same l Z a0 hw (oLen i0) (oC0 i0) (oC1 i0) (oLen i2) (oC0 i2) (oC1 i2) h60) all0 (by decide) rfl (argsL := [(.int (oLen i0)), (.int (oC0 i0)), (.int (oC1 i0)), (.int (oLen i2)), (.int (oC0 i2)), (.int (oC1 i2))]) rfl (lenOf pd_law_6 rfl) (W := 0) rfl (by decide) (by decide) (by decide) at_314 (pc' := 317) rfl ?_
          intro v61 T61 h61 FX61 U61
          obtain ⟨rfl, rfl⟩ := U61
          have X61 := FX61 [] (Or.inl rfl) all0
          show oGoes pp ee bb ss Z T61 (mkF mm 317 #[.val (.int i0), .val (.int i1), .val (.int i2), .val (.int i3), .val (.int i4), .val (.int (oLen i0)), .val (.int (oC0 i0)), .val (.int (oC1 i0)), .val (.int (oLen i1)), .val (.int (oC0 i1)), .val (.int (oC1 i1)), .val (.int (if (i4 &&& (1 : Int32)) = (0 : Int32) then (0 : Int32) else (1 : Int32))), .val (.int (if (i4 &&& (2 : Int32)) = (0 : Int32) then (0 : Int32) else (1 : Int32))), .val (.int (oLen i2)), .val (.int (oC0 i2)), .val (.int (oC1 i2)), .val (.int (oLen i1)), .val (.int (oC0 i1)), .val (.int (oC1 i1)), .val (.int (((i4.toUInt32 >>> ((2 : Int32) &&& 31).toUInt32).toInt32) &&& (3 : Int32))), .val (.ref b45), .val (.ref b57), .unset] [(.int (oSm (oLen i0) (oC0 i0) (oC1 i0) (oLen i2) (oC0 i2) (oC1 i2)))]) _ _ _ _
          by_cases c317_62 : (oSm (oLen i0) (oC0 i0) (oC1 i0) (oLen i2) (oC0 i2) (oC1 i2)) = (0 : Int32)
          · refine o_if_eq_t K X61 at_317 (by decide) (pc' := 342) (by decide) c317_62 ?_
            refine o_iconst K X61 at_342 (pc' := 343) rfl (z := (0 : Int32)) rfl ?_
            refine o_istore K X61 at_343 (pc' := 345) rfl (L' := #[.val (.int i0), .val (.int i1), .val (.int i2), .val (.int i3), .val (.int i4), .val (.int (oLen i0)), .val (.int (oC0 i0)), .val (.int (oC1 i0)), .val (.int (oLen i1)), .val (.int (oC0 i1)), .val (.int (oC1 i1)), .val (.int (if (i4 &&& (1 : Int32)) = (0 : Int32) then (0 : Int32) else (1 : Int32))), .val (.int (if (i4 &&& (2 : Int32)) = (0 : Int32) then (0 : Int32) else (1 : Int32))), .val (.int (oLen i2)), .val (.int (oC0 i2)), .val (.int (oC1 i2)), .val (.int (oLen i1)), .val (.int (oC0 i1)), .val (.int (oC1 i1)), .val (.int (((i4.toUInt32 >>> ((2 : Int32) &&& 31).toUInt32).toInt32) &&& (3 : Int32))), .val (.ref b45), .val (.ref b57), .val (.int (0 : Int32))]) rfl ?_
            refine o_aload K X61 at_345 (pc' := 347) rfl rfl rfl ?_
            refine o_aload K X61 at_347 (pc' := 349) rfl rfl rfl ?_
            refine o_virtual K X61 (y := (⟨"com/example/phone_conformance_check/phoneconformancecheck/capture/Property", "equals", "(Ljava/lang/Object;)Z"⟩ : MethodName)) (z := (⟨"com/example/phone_conformance_check/phoneconformancecheck/capture/Property", "equals", "(Ljava/lang/Object;)Z"⟩ : MethodName)) (w56 hw) (w57 hw) (fun _ q => notFace_of_selects (args := #[]) (mvT q (w59 hw))) (w59 hw) (w58 hw) (w12 hw) (w60 hw) (by decide) ((((u48_1.ext E57).keep u58_0).keep u59_0).keep u60_0) (rm_peq l Z a0 hw b45 b57 r_46 vb_46 r_47 vb_47 r_58 vb_58 r_59 vb_59 k_46 k_47 k_58 k_59 (oLen i0) (oC0 i0) (oC1 i0) (oLen i2) (oC0 i2) (oC1 i2) (oLen i1) (oC0 i1) (oC1 i1) (oLen i1) (oC0 i1) (oC1 i1) cs h60 ((((u48_1.ext E57).keep u58_0).keep u59_0).keep u60_0) ((((u48_2.ext E57).keep u58_0 nin0).keep u59_0 nin0).keep u60_0 (ninS (Nat.ne_of_lt (Nat.lt_of_lt_of_le (Nat.lt_of_lt_of_le A45.lt (Nat.le_trans (Nat.le_trans u46_0.1 u47_0.1) u48_0.1)) (Nat.le_of_eq g57.symm))) nin0)) ((((u48_3.ext E57).keep u58_0 nin0).keep u59_0 nin0).keep u60_0 (ninS (Nat.ne_of_lt (Nat.lt_of_lt_of_le (Nat.lt_of_lt_of_le A45.lt (Nat.le_trans (Nat.le_trans u46_0.1 u47_0.1) u48_0.1)) (Nat.le_of_eq g57.symm))) nin0)) u60_1 u60_2 u60_3 ((((((u46_2.keep u47_0).keep u48_0).ext E57).keep u58_0).keep u59_0).keep u60_0) ((((((u46_3.keep u47_0 nin0).keep u48_0 (ninS (Ne.symm (Nat.ne_of_lt (Nat.lt_of_lt_of_le A45.lt u46_1))) nin0)).ext E57).keep u58_0 nin0).keep u59_0 nin0).keep u60_0 (ninS (Nat.ne_of_lt (Nat.lt_of_lt_of_le (Nat.lt_of_lt_of_le u46_2.lt (Nat.le_trans u47_0.1 u48_0.1)) (Nat.le_of_eq g57.symm))) nin0)) ((((((u46_4.keep u47_0 nin0).keep u48_0 (ninS (Ne.symm (Nat.ne_of_lt (Nat.lt_of_lt_of_le A45.lt u46_1))) nin0)).ext E57).keep u58_0 nin0).keep u59_0 nin0).keep u60_0 (ninS (Nat.ne_of_lt (Nat.lt_of_lt_of_le (Nat.lt_of_lt_of_le u46_2.lt (Nat.le_trans u47_0.1 u48_0.1)) (Nat.le_of_eq g57.symm))) nin0)) ((((((u46_5.keep u47_0 nin0).keep u48_0 (ninS (oNeArr (A45.keep u46_0) (w11 hw) u46_5) nin0)).ext E57).keep u58_0 nin0).keep u59_0 nin0).keep u60_0 (ninS (Nat.ne_of_lt (Nat.lt_of_lt_of_le (Nat.lt_of_lt_of_le u46_5.lt (Nat.le_trans u47_0.1 u48_0.1)) (Nat.le_of_eq g57.symm))) nin0)) (((((u47_2.keep u48_0).ext E57).keep u58_0).keep u59_0).keep u60_0) (((((u47_3.keep u48_0 (ninS (Ne.symm (Nat.ne_of_lt (Nat.lt_of_lt_of_le (Nat.lt_of_lt_of_le A45.lt u46_0.1) u47_1))) nin0)).ext E57).keep u58_0 nin0).keep u59_0 nin0).keep u60_0 (ninS (Nat.ne_of_lt (Nat.lt_of_lt_of_le (Nat.lt_of_lt_of_le u47_2.lt u48_0.1) (Nat.le_of_eq g57.symm))) nin0)) (((((u47_4.keep u48_0 (ninS (Ne.symm (Nat.ne_of_lt (Nat.lt_of_lt_of_le (Nat.lt_of_lt_of_le A45.lt u46_0.1) u47_1))) nin0)).ext E57).keep u58_0 nin0).keep u59_0 nin0).keep u60_0 (ninS (Nat.ne_of_lt (Nat.lt_of_lt_of_le (Nat.lt_of_lt_of_le u47_2.lt u48_0.1) (Nat.le_of_eq g57.symm))) nin0)) (((((u47_5.keep u48_0 (ninS (oNeArr ((A45.keep u46_0).keep u47_0) (w11 hw) u47_5) nin0)).ext E57).keep u58_0 nin0).keep u59_0 nin0).keep u60_0 (ninS (Nat.ne_of_lt (Nat.lt_of_lt_of_le (Nat.lt_of_lt_of_le u47_5.lt u48_0.1) (Nat.le_of_eq g57.symm))) nin0)) ((u58_2.keep u59_0).keep u60_0) ((u58_3.keep u59_0 nin0).keep u60_0 (ninS (Ne.symm (Nat.ne_of_lt (Nat.lt_of_lt_of_le A57.lt u58_1))) nin0)) ((u58_4.keep u59_0 nin0).keep u60_0 (ninS (Ne.symm (Nat.ne_of_lt (Nat.lt_of_lt_of_le A57.lt u58_1))) nin0)) ((u58_5.keep u59_0 nin0).keep u60_0 (ninS (oNeArr (A57.keep u58_0) (w11 hw) u58_5) nin0)) (u59_2.keep u60_0) (u59_3.keep u60_0 (ninS (Ne.symm (Nat.ne_of_lt (Nat.lt_of_lt_of_le (Nat.lt_of_lt_of_le A57.lt u58_0.1) u59_1))) nin0)) (u59_4.keep u60_0 (ninS (Ne.symm (Nat.ne_of_lt (Nat.lt_of_lt_of_le (Nat.lt_of_lt_of_le A57.lt u58_0.1) u59_1))) nin0)) (u59_5.keep u60_0 (ninS (oNeArr ((A57.keep u58_0).keep u59_0) (w11 hw) u59_5) nin0)) (Nat.ne_of_lt (Nat.lt_of_lt_of_le (Nat.lt_of_lt_of_le u46_2.lt (Nat.le_trans (Nat.le_trans u47_0.1 u48_0.1) E57.1)) u58_1)) (Nat.ne_of_lt (Nat.lt_of_lt_of_le (Nat.lt_of_lt_of_le u47_2.lt (Nat.le_trans (Nat.le_trans u48_0.1 E57.1) u58_0.1)) u59_1)) (oChM _) (oChM _) (oChM _) (oChM _) (oLenL _) (oLenL _) (oChM _) (oChM _) (oChM _) (oChM _) (oLenL _) (oLenL _) q4 q5) all0 (by decide) rfl (argsL := [(.ref b57)]) rfl (lenOf pd_law_4 rfl) (W := 0) rfl (by decide) (by decide) (by decide) at_349 (pc' := 352) rfl ?_
            intro v63 T63 h63 FX63 U63
            obtain ⟨rfl, rfl⟩ := U63
            have X63 := FX63 [] (Or.inl rfl) all0
            show oGoes pp ee bb ss Z T63 (mkF mm 352 #[.val (.int i0), .val (.int i1), .val (.int i2), .val (.int i3), .val (.int i4), .val (.int (oLen i0)), .val (.int (oC0 i0)), .val (.int (oC1 i0)), .val (.int (oLen i1)), .val (.int (oC0 i1)), .val (.int (oC1 i1)), .val (.int (if (i4 &&& (1 : Int32)) = (0 : Int32) then (0 : Int32) else (1 : Int32))), .val (.int (if (i4 &&& (2 : Int32)) = (0 : Int32) then (0 : Int32) else (1 : Int32))), .val (.int (oLen i2)), .val (.int (oC0 i2)), .val (.int (oC1 i2)), .val (.int (oLen i1)), .val (.int (oC0 i1)), .val (.int (oC1 i1)), .val (.int (((i4.toUInt32 >>> ((2 : Int32) &&& 31).toUInt32).toInt32) &&& (3 : Int32))), .val (.ref b45), .val (.ref b57), .val (.int (0 : Int32))] [(.int (oSm2 (oSm (oLen i0) (oC0 i0) (oC1 i0) (oLen i2) (oC0 i2) (oC1 i2)) (oSm (oLen i1) (oC0 i1) (oC1 i1) (oLen i1) (oC0 i1) (oC1 i1))))]) _ _ _ _
            refine o_iload K X63 at_352 (pc' := 354) rfl rfl ?_
            refine o_icmp_ne_f K X63 at_354 (pc' := 357) rfl (by have e0 := oSmFp c317_62; simp [oSm2, c317_62, e0]) ?_
            refine o_aload K X63 at_357 (pc' := 359) rfl rfl rfl ?_
            refine o_aload K X63 at_359 (pc' := 361) rfl rfl rfl ?_
            refine o_virtual K X63 (y := (⟨"com/example/phone_conformance_check/phoneconformancecheck/capture/Property", "equals", "(Ljava/lang/Object;)Z"⟩ : MethodName)) (z := (⟨"com/example/phone_conformance_check/phoneconformancecheck/capture/Property", "equals", "(Ljava/lang/Object;)Z"⟩ : MethodName)) (w56 hw) (w57 hw) (fun _ q => notFace_of_selects (args := #[]) (mvT q (w59 hw))) (w59 hw) (w58 hw) (w12 hw) (w60 hw) (by decide) u60_1 (rm_peq l Z a0 hw b57 b45 r_58 vb_58 r_59 vb_59 r_46 vb_46 r_47 vb_47 k_58 k_59 k_46 k_47 (oLen i2) (oC0 i2) (oC1 i2) (oLen i0) (oC0 i0) (oC1 i0) (oLen i1) (oC0 i1) (oC1 i1) (oLen i1) (oC0 i1) (oC1 i1) cs h60 u60_1 u60_2 u60_3 ((((u48_1.ext E57).keep u58_0).keep u59_0).keep u60_0) ((((u48_2.ext E57).keep u58_0 nin0).keep u59_0 nin0).keep u60_0 (ninS (Nat.ne_of_lt (Nat.lt_of_lt_of_le (Nat.lt_of_lt_of_le A45.lt (Nat.le_trans (Nat.le_trans u46_0.1 u47_0.1) u48_0.1)) (Nat.le_of_eq g57.symm))) nin0)) ((((u48_3.ext E57).keep u58_0 nin0).keep u59_0 nin0).keep u60_0 (ninS (Nat.ne_of_lt (Nat.lt_of_lt_of_le (Nat.lt_of_lt_of_le A45.lt (Nat.le_trans (Nat.le_trans u46_0.1 u47_0.1) u48_0.1)) (Nat.le_of_eq g57.symm))) nin0)) ((u58_2.keep u59_0).keep u60_0) ((u58_3.keep u59_0 nin0).keep u60_0 (ninS (Ne.symm (Nat.ne_of_lt (Nat.lt_of_lt_of_le A57.lt u58_1))) nin0)) ((u58_4.keep u59_0 nin0).keep u60_0 (ninS (Ne.symm (Nat.ne_of_lt (Nat.lt_of_lt_of_le A57.lt u58_1))) nin0)) ((u58_5.keep u59_0 nin0).keep u60_0 (ninS (oNeArr (A57.keep u58_0) (w11 hw) u58_5) nin0)) (u59_2.keep u60_0) (u59_3.keep u60_0 (ninS (Ne.symm (Nat.ne_of_lt (Nat.lt_of_lt_of_le (Nat.lt_of_lt_of_le A57.lt u58_0.1) u59_1))) nin0)) (u59_4.keep u60_0 (ninS (Ne.symm (Nat.ne_of_lt (Nat.lt_of_lt_of_le (Nat.lt_of_lt_of_le A57.lt u58_0.1) u59_1))) nin0)) (u59_5.keep u60_0 (ninS (oNeArr ((A57.keep u58_0).keep u59_0) (w11 hw) u59_5) nin0)) ((((((u46_2.keep u47_0).keep u48_0).ext E57).keep u58_0).keep u59_0).keep u60_0) ((((((u46_3.keep u47_0 nin0).keep u48_0 (ninS (Ne.symm (Nat.ne_of_lt (Nat.lt_of_lt_of_le A45.lt u46_1))) nin0)).ext E57).keep u58_0 nin0).keep u59_0 nin0).keep u60_0 (ninS (Nat.ne_of_lt (Nat.lt_of_lt_of_le (Nat.lt_of_lt_of_le u46_2.lt (Nat.le_trans u47_0.1 u48_0.1)) (Nat.le_of_eq g57.symm))) nin0)) ((((((u46_4.keep u47_0 nin0).keep u48_0 (ninS (Ne.symm (Nat.ne_of_lt (Nat.lt_of_lt_of_le A45.lt u46_1))) nin0)).ext E57).keep u58_0 nin0).keep u59_0 nin0).keep u60_0 (ninS (Nat.ne_of_lt (Nat.lt_of_lt_of_le (Nat.lt_of_lt_of_le u46_2.lt (Nat.le_trans u47_0.1 u48_0.1)) (Nat.le_of_eq g57.symm))) nin0)) ((((((u46_5.keep u47_0 nin0).keep u48_0 (ninS (oNeArr (A45.keep u46_0) (w11 hw) u46_5) nin0)).ext E57).keep u58_0 nin0).keep u59_0 nin0).keep u60_0 (ninS (Nat.ne_of_lt (Nat.lt_of_lt_of_le (Nat.lt_of_lt_of_le u46_5.lt (Nat.le_trans u47_0.1 u48_0.1)) (Nat.le_of_eq g57.symm))) nin0)) (((((u47_2.keep u48_0).ext E57).keep u58_0).keep u59_0).keep u60_0) (((((u47_3.keep u48_0 (ninS (Ne.symm (Nat.ne_of_lt (Nat.lt_of_lt_of_le (Nat.lt_of_lt_of_le A45.lt u46_0.1) u47_1))) nin0)).ext E57).keep u58_0 nin0).keep u59_0 nin0).keep u60_0 (ninS (Nat.ne_of_lt (Nat.lt_of_lt_of_le (Nat.lt_of_lt_of_le u47_2.lt u48_0.1) (Nat.le_of_eq g57.symm))) nin0)) (((((u47_4.keep u48_0 (ninS (Ne.symm (Nat.ne_of_lt (Nat.lt_of_lt_of_le (Nat.lt_of_lt_of_le A45.lt u46_0.1) u47_1))) nin0)).ext E57).keep u58_0 nin0).keep u59_0 nin0).keep u60_0 (ninS (Nat.ne_of_lt (Nat.lt_of_lt_of_le (Nat.lt_of_lt_of_le u47_2.lt u48_0.1) (Nat.le_of_eq g57.symm))) nin0)) (((((u47_5.keep u48_0 (ninS (oNeArr ((A45.keep u46_0).keep u47_0) (w11 hw) u47_5) nin0)).ext E57).keep u58_0 nin0).keep u59_0 nin0).keep u60_0 (ninS (Nat.ne_of_lt (Nat.lt_of_lt_of_le (Nat.lt_of_lt_of_le u47_5.lt u48_0.1) (Nat.le_of_eq g57.symm))) nin0)) (Ne.symm (Nat.ne_of_lt (Nat.lt_of_lt_of_le (Nat.lt_of_lt_of_le u46_2.lt (Nat.le_trans (Nat.le_trans u47_0.1 u48_0.1) E57.1)) u58_1))) (Ne.symm (Nat.ne_of_lt (Nat.lt_of_lt_of_le (Nat.lt_of_lt_of_le u47_2.lt (Nat.le_trans (Nat.le_trans u48_0.1 E57.1) u58_0.1)) u59_1))) (oChM _) (oChM _) (oChM _) (oChM _) (oLenL _) (oLenL _) (oChM _) (oChM _) (oChM _) (oChM _) (oLenL _) (oLenL _) q4 q5) all0 (by decide) rfl (argsL := [(.ref b45)]) rfl (lenOf pd_law_4 rfl) (W := 0) rfl (by decide) (by decide) (by decide) at_361 (pc' := 364) rfl ?_
            intro v64 T64 h64 FX64 U64
            obtain ⟨rfl, rfl⟩ := U64
            have X64 := FX64 [] (Or.inl rfl) all0
            show oGoes pp ee bb ss Z T64 (mkF mm 364 #[.val (.int i0), .val (.int i1), .val (.int i2), .val (.int i3), .val (.int i4), .val (.int (oLen i0)), .val (.int (oC0 i0)), .val (.int (oC1 i0)), .val (.int (oLen i1)), .val (.int (oC0 i1)), .val (.int (oC1 i1)), .val (.int (if (i4 &&& (1 : Int32)) = (0 : Int32) then (0 : Int32) else (1 : Int32))), .val (.int (if (i4 &&& (2 : Int32)) = (0 : Int32) then (0 : Int32) else (1 : Int32))), .val (.int (oLen i2)), .val (.int (oC0 i2)), .val (.int (oC1 i2)), .val (.int (oLen i1)), .val (.int (oC0 i1)), .val (.int (oC1 i1)), .val (.int (((i4.toUInt32 >>> ((2 : Int32) &&& 31).toUInt32).toInt32) &&& (3 : Int32))), .val (.ref b45), .val (.ref b57), .val (.int (0 : Int32))] [(.int (oSm2 (oSm (oLen i2) (oC0 i2) (oC1 i2) (oLen i0) (oC0 i0) (oC1 i0)) (oSm (oLen i1) (oC0 i1) (oC1 i1) (oLen i1) (oC0 i1) (oC1 i1))))]) _ _ _ _
            refine o_iload K X64 at_364 (pc' := 366) rfl rfl ?_
            refine o_icmp_ne_f K X64 at_366 (pc' := 369) rfl (by have e0 := oSmFp c317_62; simp [oSm2, c317_62, e0]) ?_
            refine o_iconst K X64 at_369 (pc' := 370) rfl (z := (1 : Int32)) rfl ?_
            refine o_goto K X64 at_370 (by decide) (pc' := 374) (by decide) ?_
            refine o_ireturnN K X64 .boolean at_374 rfl (by simp) (z' := (1 : Int32)) (by decide) ?_ (by decide) (by decide) (by decide)
            exact rfl
          · refine o_if_eq_f K X61 at_317 (pc' := 320) rfl c317_62 ?_
            refine o_iload K X61 at_320 (pc' := 322) rfl rfl ?_
            refine o_iload K X61 at_322 (pc' := 324) rfl rfl ?_
            refine o_iload K X61 at_324 (pc' := 326) rfl rfl ?_
            refine o_iload K X61 at_326 (pc' := 328) rfl rfl ?_
            refine o_iload K X61 at_328 (pc' := 330) rfl rfl ?_
            refine o_iload K X61 at_330 (pc' := 332) rfl rfl ?_
            refine o_static K X61 (y := (⟨"com/example/phone_conformance_check/phoneconformancecheck/capture/PropertyEqualsPinLaw", "same", "(ICCICC)Z"⟩ : MethodName)) (w53 hw) (w54 hw) (w2 hw) (w55 hw) (by decide) (rm_same l Z a0 hw (oLen i1) (oC0 i1) (oC1 i1) (oLen i1) (oC0 i1) (oC1 i1) h60) all0 (by decide) rfl (argsL := [(.int (oLen i1)), (.int (oC0 i1)), (.int (oC1 i1)), (.int (oLen i1)), (.int (oC0 i1)), (.int (oC1 i1))]) rfl (lenOf pd_law_6 rfl) (W := 0) rfl (by decide) (by decide) (by decide) at_332 (pc' := 335) rfl ?_
            intro v65 T65 h65 FX65 U65
            obtain ⟨rfl, rfl⟩ := U65
            have X65 := FX65 [] (Or.inl rfl) all0
            show oGoes pp ee bb ss Z T65 (mkF mm 335 #[.val (.int i0), .val (.int i1), .val (.int i2), .val (.int i3), .val (.int i4), .val (.int (oLen i0)), .val (.int (oC0 i0)), .val (.int (oC1 i0)), .val (.int (oLen i1)), .val (.int (oC0 i1)), .val (.int (oC1 i1)), .val (.int (if (i4 &&& (1 : Int32)) = (0 : Int32) then (0 : Int32) else (1 : Int32))), .val (.int (if (i4 &&& (2 : Int32)) = (0 : Int32) then (0 : Int32) else (1 : Int32))), .val (.int (oLen i2)), .val (.int (oC0 i2)), .val (.int (oC1 i2)), .val (.int (oLen i1)), .val (.int (oC0 i1)), .val (.int (oC1 i1)), .val (.int (((i4.toUInt32 >>> ((2 : Int32) &&& 31).toUInt32).toInt32) &&& (3 : Int32))), .val (.ref b45), .val (.ref b57), .unset] [(.int (oSm (oLen i1) (oC0 i1) (oC1 i1) (oLen i1) (oC0 i1) (oC1 i1)))]) _ _ _ _
            by_cases c335_66 : (oSm (oLen i1) (oC0 i1) (oC1 i1) (oLen i1) (oC0 i1) (oC1 i1)) = (0 : Int32)
            · refine o_if_eq_t K X65 at_335 (by decide) (pc' := 342) (by decide) c335_66 ?_
              refine o_iconst K X65 at_342 (pc' := 343) rfl (z := (0 : Int32)) rfl ?_
              refine o_istore K X65 at_343 (pc' := 345) rfl (L' := #[.val (.int i0), .val (.int i1), .val (.int i2), .val (.int i3), .val (.int i4), .val (.int (oLen i0)), .val (.int (oC0 i0)), .val (.int (oC1 i0)), .val (.int (oLen i1)), .val (.int (oC0 i1)), .val (.int (oC1 i1)), .val (.int (if (i4 &&& (1 : Int32)) = (0 : Int32) then (0 : Int32) else (1 : Int32))), .val (.int (if (i4 &&& (2 : Int32)) = (0 : Int32) then (0 : Int32) else (1 : Int32))), .val (.int (oLen i2)), .val (.int (oC0 i2)), .val (.int (oC1 i2)), .val (.int (oLen i1)), .val (.int (oC0 i1)), .val (.int (oC1 i1)), .val (.int (((i4.toUInt32 >>> ((2 : Int32) &&& 31).toUInt32).toInt32) &&& (3 : Int32))), .val (.ref b45), .val (.ref b57), .val (.int (0 : Int32))]) rfl ?_
              refine o_aload K X65 at_345 (pc' := 347) rfl rfl rfl ?_
              refine o_aload K X65 at_347 (pc' := 349) rfl rfl rfl ?_
              refine o_virtual K X65 (y := (⟨"com/example/phone_conformance_check/phoneconformancecheck/capture/Property", "equals", "(Ljava/lang/Object;)Z"⟩ : MethodName)) (z := (⟨"com/example/phone_conformance_check/phoneconformancecheck/capture/Property", "equals", "(Ljava/lang/Object;)Z"⟩ : MethodName)) (w56 hw) (w57 hw) (fun _ q => notFace_of_selects (args := #[]) (mvT q (w59 hw))) (w59 hw) (w58 hw) (w12 hw) (w60 hw) (by decide) ((((u48_1.ext E57).keep u58_0).keep u59_0).keep u60_0) (rm_peq l Z a0 hw b45 b57 r_46 vb_46 r_47 vb_47 r_58 vb_58 r_59 vb_59 k_46 k_47 k_58 k_59 (oLen i0) (oC0 i0) (oC1 i0) (oLen i2) (oC0 i2) (oC1 i2) (oLen i1) (oC0 i1) (oC1 i1) (oLen i1) (oC0 i1) (oC1 i1) cs h60 ((((u48_1.ext E57).keep u58_0).keep u59_0).keep u60_0) ((((u48_2.ext E57).keep u58_0 nin0).keep u59_0 nin0).keep u60_0 (ninS (Nat.ne_of_lt (Nat.lt_of_lt_of_le (Nat.lt_of_lt_of_le A45.lt (Nat.le_trans (Nat.le_trans u46_0.1 u47_0.1) u48_0.1)) (Nat.le_of_eq g57.symm))) nin0)) ((((u48_3.ext E57).keep u58_0 nin0).keep u59_0 nin0).keep u60_0 (ninS (Nat.ne_of_lt (Nat.lt_of_lt_of_le (Nat.lt_of_lt_of_le A45.lt (Nat.le_trans (Nat.le_trans u46_0.1 u47_0.1) u48_0.1)) (Nat.le_of_eq g57.symm))) nin0)) u60_1 u60_2 u60_3 ((((((u46_2.keep u47_0).keep u48_0).ext E57).keep u58_0).keep u59_0).keep u60_0) ((((((u46_3.keep u47_0 nin0).keep u48_0 (ninS (Ne.symm (Nat.ne_of_lt (Nat.lt_of_lt_of_le A45.lt u46_1))) nin0)).ext E57).keep u58_0 nin0).keep u59_0 nin0).keep u60_0 (ninS (Nat.ne_of_lt (Nat.lt_of_lt_of_le (Nat.lt_of_lt_of_le u46_2.lt (Nat.le_trans u47_0.1 u48_0.1)) (Nat.le_of_eq g57.symm))) nin0)) ((((((u46_4.keep u47_0 nin0).keep u48_0 (ninS (Ne.symm (Nat.ne_of_lt (Nat.lt_of_lt_of_le A45.lt u46_1))) nin0)).ext E57).keep u58_0 nin0).keep u59_0 nin0).keep u60_0 (ninS (Nat.ne_of_lt (Nat.lt_of_lt_of_le (Nat.lt_of_lt_of_le u46_2.lt (Nat.le_trans u47_0.1 u48_0.1)) (Nat.le_of_eq g57.symm))) nin0)) ((((((u46_5.keep u47_0 nin0).keep u48_0 (ninS (oNeArr (A45.keep u46_0) (w11 hw) u46_5) nin0)).ext E57).keep u58_0 nin0).keep u59_0 nin0).keep u60_0 (ninS (Nat.ne_of_lt (Nat.lt_of_lt_of_le (Nat.lt_of_lt_of_le u46_5.lt (Nat.le_trans u47_0.1 u48_0.1)) (Nat.le_of_eq g57.symm))) nin0)) (((((u47_2.keep u48_0).ext E57).keep u58_0).keep u59_0).keep u60_0) (((((u47_3.keep u48_0 (ninS (Ne.symm (Nat.ne_of_lt (Nat.lt_of_lt_of_le (Nat.lt_of_lt_of_le A45.lt u46_0.1) u47_1))) nin0)).ext E57).keep u58_0 nin0).keep u59_0 nin0).keep u60_0 (ninS (Nat.ne_of_lt (Nat.lt_of_lt_of_le (Nat.lt_of_lt_of_le u47_2.lt u48_0.1) (Nat.le_of_eq g57.symm))) nin0)) (((((u47_4.keep u48_0 (ninS (Ne.symm (Nat.ne_of_lt (Nat.lt_of_lt_of_le (Nat.lt_of_lt_of_le A45.lt u46_0.1) u47_1))) nin0)).ext E57).keep u58_0 nin0).keep u59_0 nin0).keep u60_0 (ninS (Nat.ne_of_lt (Nat.lt_of_lt_of_le (Nat.lt_of_lt_of_le u47_2.lt u48_0.1) (Nat.le_of_eq g57.symm))) nin0)) (((((u47_5.keep u48_0 (ninS (oNeArr ((A45.keep u46_0).keep u47_0) (w11 hw) u47_5) nin0)).ext E57).keep u58_0 nin0).keep u59_0 nin0).keep u60_0 (ninS (Nat.ne_of_lt (Nat.lt_of_lt_of_le (Nat.lt_of_lt_of_le u47_5.lt u48_0.1) (Nat.le_of_eq g57.symm))) nin0)) ((u58_2.keep u59_0).keep u60_0) ((u58_3.keep u59_0 nin0).keep u60_0 (ninS (Ne.symm (Nat.ne_of_lt (Nat.lt_of_lt_of_le A57.lt u58_1))) nin0)) ((u58_4.keep u59_0 nin0).keep u60_0 (ninS (Ne.symm (Nat.ne_of_lt (Nat.lt_of_lt_of_le A57.lt u58_1))) nin0)) ((u58_5.keep u59_0 nin0).keep u60_0 (ninS (oNeArr (A57.keep u58_0) (w11 hw) u58_5) nin0)) (u59_2.keep u60_0) (u59_3.keep u60_0 (ninS (Ne.symm (Nat.ne_of_lt (Nat.lt_of_lt_of_le (Nat.lt_of_lt_of_le A57.lt u58_0.1) u59_1))) nin0)) (u59_4.keep u60_0 (ninS (Ne.symm (Nat.ne_of_lt (Nat.lt_of_lt_of_le (Nat.lt_of_lt_of_le A57.lt u58_0.1) u59_1))) nin0)) (u59_5.keep u60_0 (ninS (oNeArr ((A57.keep u58_0).keep u59_0) (w11 hw) u59_5) nin0)) (Nat.ne_of_lt (Nat.lt_of_lt_of_le (Nat.lt_of_lt_of_le u46_2.lt (Nat.le_trans (Nat.le_trans u47_0.1 u48_0.1) E57.1)) u58_1)) (Nat.ne_of_lt (Nat.lt_of_lt_of_le (Nat.lt_of_lt_of_le u47_2.lt (Nat.le_trans (Nat.le_trans u48_0.1 E57.1) u58_0.1)) u59_1)) (oChM _) (oChM _) (oChM _) (oChM _) (oLenL _) (oLenL _) (oChM _) (oChM _) (oChM _) (oChM _) (oLenL _) (oLenL _) q4 q5) all0 (by decide) rfl (argsL := [(.ref b57)]) rfl (lenOf pd_law_4 rfl) (W := 0) rfl (by decide) (by decide) (by decide) at_349 (pc' := 352) rfl ?_
              intro v67 T67 h67 FX67 U67
              obtain ⟨rfl, rfl⟩ := U67
              have X67 := FX67 [] (Or.inl rfl) all0
              show oGoes pp ee bb ss Z T67 (mkF mm 352 #[.val (.int i0), .val (.int i1), .val (.int i2), .val (.int i3), .val (.int i4), .val (.int (oLen i0)), .val (.int (oC0 i0)), .val (.int (oC1 i0)), .val (.int (oLen i1)), .val (.int (oC0 i1)), .val (.int (oC1 i1)), .val (.int (if (i4 &&& (1 : Int32)) = (0 : Int32) then (0 : Int32) else (1 : Int32))), .val (.int (if (i4 &&& (2 : Int32)) = (0 : Int32) then (0 : Int32) else (1 : Int32))), .val (.int (oLen i2)), .val (.int (oC0 i2)), .val (.int (oC1 i2)), .val (.int (oLen i1)), .val (.int (oC0 i1)), .val (.int (oC1 i1)), .val (.int (((i4.toUInt32 >>> ((2 : Int32) &&& 31).toUInt32).toInt32) &&& (3 : Int32))), .val (.ref b45), .val (.ref b57), .val (.int (0 : Int32))] [(.int (oSm2 (oSm (oLen i0) (oC0 i0) (oC1 i0) (oLen i2) (oC0 i2) (oC1 i2)) (oSm (oLen i1) (oC0 i1) (oC1 i1) (oLen i1) (oC0 i1) (oC1 i1))))]) _ _ _ _
              refine o_iload K X67 at_352 (pc' := 354) rfl rfl ?_
              refine o_icmp_ne_f K X67 at_354 (pc' := 357) rfl (by have e0 := oSmFn c317_62; have e1 := oSmFp c335_66; simp [oSm2, c317_62, c335_66, e0, e1]) ?_
              refine o_aload K X67 at_357 (pc' := 359) rfl rfl rfl ?_
              refine o_aload K X67 at_359 (pc' := 361) rfl rfl rfl ?_
              refine o_virtual K X67 (y := (⟨"com/example/phone_conformance_check/phoneconformancecheck/capture/Property", "equals", "(Ljava/lang/Object;)Z"⟩ : MethodName)) (z := (⟨"com/example/phone_conformance_check/phoneconformancecheck/capture/Property", "equals", "(Ljava/lang/Object;)Z"⟩ : MethodName)) (w56 hw) (w57 hw) (fun _ q => notFace_of_selects (args := #[]) (mvT q (w59 hw))) (w59 hw) (w58 hw) (w12 hw) (w60 hw) (by decide) u60_1 (rm_peq l Z a0 hw b57 b45 r_58 vb_58 r_59 vb_59 r_46 vb_46 r_47 vb_47 k_58 k_59 k_46 k_47 (oLen i2) (oC0 i2) (oC1 i2) (oLen i0) (oC0 i0) (oC1 i0) (oLen i1) (oC0 i1) (oC1 i1) (oLen i1) (oC0 i1) (oC1 i1) cs h60 u60_1 u60_2 u60_3 ((((u48_1.ext E57).keep u58_0).keep u59_0).keep u60_0) ((((u48_2.ext E57).keep u58_0 nin0).keep u59_0 nin0).keep u60_0 (ninS (Nat.ne_of_lt (Nat.lt_of_lt_of_le (Nat.lt_of_lt_of_le A45.lt (Nat.le_trans (Nat.le_trans u46_0.1 u47_0.1) u48_0.1)) (Nat.le_of_eq g57.symm))) nin0)) ((((u48_3.ext E57).keep u58_0 nin0).keep u59_0 nin0).keep u60_0 (ninS (Nat.ne_of_lt (Nat.lt_of_lt_of_le (Nat.lt_of_lt_of_le A45.lt (Nat.le_trans (Nat.le_trans u46_0.1 u47_0.1) u48_0.1)) (Nat.le_of_eq g57.symm))) nin0)) ((u58_2.keep u59_0).keep u60_0) ((u58_3.keep u59_0 nin0).keep u60_0 (ninS (Ne.symm (Nat.ne_of_lt (Nat.lt_of_lt_of_le A57.lt u58_1))) nin0)) ((u58_4.keep u59_0 nin0).keep u60_0 (ninS (Ne.symm (Nat.ne_of_lt (Nat.lt_of_lt_of_le A57.lt u58_1))) nin0)) ((u58_5.keep u59_0 nin0).keep u60_0 (ninS (oNeArr (A57.keep u58_0) (w11 hw) u58_5) nin0)) (u59_2.keep u60_0) (u59_3.keep u60_0 (ninS (Ne.symm (Nat.ne_of_lt (Nat.lt_of_lt_of_le (Nat.lt_of_lt_of_le A57.lt u58_0.1) u59_1))) nin0)) (u59_4.keep u60_0 (ninS (Ne.symm (Nat.ne_of_lt (Nat.lt_of_lt_of_le (Nat.lt_of_lt_of_le A57.lt u58_0.1) u59_1))) nin0)) (u59_5.keep u60_0 (ninS (oNeArr ((A57.keep u58_0).keep u59_0) (w11 hw) u59_5) nin0)) ((((((u46_2.keep u47_0).keep u48_0).ext E57).keep u58_0).keep u59_0).keep u60_0) ((((((u46_3.keep u47_0 nin0).keep u48_0 (ninS (Ne.symm (Nat.ne_of_lt (Nat.lt_of_lt_of_le A45.lt u46_1))) nin0)).ext E57).keep u58_0 nin0).keep u59_0 nin0).keep u60_0 (ninS (Nat.ne_of_lt (Nat.lt_of_lt_of_le (Nat.lt_of_lt_of_le u46_2.lt (Nat.le_trans u47_0.1 u48_0.1)) (Nat.le_of_eq g57.symm))) nin0)) ((((((u46_4.keep u47_0 nin0).keep u48_0 (ninS (Ne.symm (Nat.ne_of_lt (Nat.lt_of_lt_of_le A45.lt u46_1))) nin0)).ext E57).keep u58_0 nin0).keep u59_0 nin0).keep u60_0 (ninS (Nat.ne_of_lt (Nat.lt_of_lt_of_le (Nat.lt_of_lt_of_le u46_2.lt (Nat.le_trans u47_0.1 u48_0.1)) (Nat.le_of_eq g57.symm))) nin0)) ((((((u46_5.keep u47_0 nin0).keep u48_0 (ninS (oNeArr (A45.keep u46_0) (w11 hw) u46_5) nin0)).ext E57).keep u58_0 nin0).keep u59_0 nin0).keep u60_0 (ninS (Nat.ne_of_lt (Nat.lt_of_lt_of_le (Nat.lt_of_lt_of_le u46_5.lt (Nat.le_trans u47_0.1 u48_0.1)) (Nat.le_of_eq g57.symm))) nin0)) (((((u47_2.keep u48_0).ext E57).keep u58_0).keep u59_0).keep u60_0) (((((u47_3.keep u48_0 (ninS (Ne.symm (Nat.ne_of_lt (Nat.lt_of_lt_of_le (Nat.lt_of_lt_of_le A45.lt u46_0.1) u47_1))) nin0)).ext E57).keep u58_0 nin0).keep u59_0 nin0).keep u60_0 (ninS (Nat.ne_of_lt (Nat.lt_of_lt_of_le (Nat.lt_of_lt_of_le u47_2.lt u48_0.1) (Nat.le_of_eq g57.symm))) nin0)) (((((u47_4.keep u48_0 (ninS (Ne.symm (Nat.ne_of_lt (Nat.lt_of_lt_of_le (Nat.lt_of_lt_of_le A45.lt u46_0.1) u47_1))) nin0)).ext E57).keep u58_0 nin0).keep u59_0 nin0).keep u60_0 (ninS (Nat.ne_of_lt (Nat.lt_of_lt_of_le (Nat.lt_of_lt_of_le u47_2.lt u48_0.1) (Nat.le_of_eq g57.symm))) nin0)) (((((u47_5.keep u48_0 (ninS (oNeArr ((A45.keep u46_0).keep u47_0) (w11 hw) u47_5) nin0)).ext E57).keep u58_0 nin0).keep u59_0 nin0).keep u60_0 (ninS (Nat.ne_of_lt (Nat.lt_of_lt_of_le (Nat.lt_of_lt_of_le u47_5.lt u48_0.1) (Nat.le_of_eq g57.symm))) nin0)) (Ne.symm (Nat.ne_of_lt (Nat.lt_of_lt_of_le (Nat.lt_of_lt_of_le u46_2.lt (Nat.le_trans (Nat.le_trans u47_0.1 u48_0.1) E57.1)) u58_1))) (Ne.symm (Nat.ne_of_lt (Nat.lt_of_lt_of_le (Nat.lt_of_lt_of_le u47_2.lt (Nat.le_trans (Nat.le_trans u48_0.1 E57.1) u58_0.1)) u59_1))) (oChM _) (oChM _) (oChM _) (oChM _) (oLenL _) (oLenL _) (oChM _) (oChM _) (oChM _) (oChM _) (oLenL _) (oLenL _) q4 q5) all0 (by decide) rfl (argsL := [(.ref b45)]) rfl (lenOf pd_law_4 rfl) (W := 0) rfl (by decide) (by decide) (by decide) at_361 (pc' := 364) rfl ?_
              intro v68 T68 h68 FX68 U68
              obtain ⟨rfl, rfl⟩ := U68
              have X68 := FX68 [] (Or.inl rfl) all0
              show oGoes pp ee bb ss Z T68 (mkF mm 364 #[.val (.int i0), .val (.int i1), .val (.int i2), .val (.int i3), .val (.int i4), .val (.int (oLen i0)), .val (.int (oC0 i0)), .val (.int (oC1 i0)), .val (.int (oLen i1)), .val (.int (oC0 i1)), .val (.int (oC1 i1)), .val (.int (if (i4 &&& (1 : Int32)) = (0 : Int32) then (0 : Int32) else (1 : Int32))), .val (.int (if (i4 &&& (2 : Int32)) = (0 : Int32) then (0 : Int32) else (1 : Int32))), .val (.int (oLen i2)), .val (.int (oC0 i2)), .val (.int (oC1 i2)), .val (.int (oLen i1)), .val (.int (oC0 i1)), .val (.int (oC1 i1)), .val (.int (((i4.toUInt32 >>> ((2 : Int32) &&& 31).toUInt32).toInt32) &&& (3 : Int32))), .val (.ref b45), .val (.ref b57), .val (.int (0 : Int32))] [(.int (oSm2 (oSm (oLen i2) (oC0 i2) (oC1 i2) (oLen i0) (oC0 i0) (oC1 i0)) (oSm (oLen i1) (oC0 i1) (oC1 i1) (oLen i1) (oC0 i1) (oC1 i1))))]) _ _ _ _
              refine o_iload K X68 at_364 (pc' := 366) rfl rfl ?_
              refine o_icmp_ne_f K X68 at_366 (pc' := 369) rfl (by have e0 := oSmFn c317_62; have e1 := oSmFp c335_66; simp [oSm2, c317_62, c335_66, e0, e1]) ?_
              refine o_iconst K X68 at_369 (pc' := 370) rfl (z := (1 : Int32)) rfl ?_
              refine o_goto K X68 at_370 (by decide) (pc' := 374) (by decide) ?_
              refine o_ireturnN K X68 .boolean at_374 rfl (by simp) (z' := (1 : Int32)) (by decide) ?_ (by decide) (by decide) (by decide)
              exact rfl
            · refine o_if_eq_f K X65 at_335 (pc' := 338) rfl c335_66 ?_
              refine o_iconst K X65 at_338 (pc' := 339) rfl (z := (1 : Int32)) rfl ?_
              refine o_goto K X65 at_339 (by decide) (pc' := 343) (by decide) ?_
              refine o_istore K X65 at_343 (pc' := 345) rfl (L' := #[.val (.int i0), .val (.int i1), .val (.int i2), .val (.int i3), .val (.int i4), .val (.int (oLen i0)), .val (.int (oC0 i0)), .val (.int (oC1 i0)), .val (.int (oLen i1)), .val (.int (oC0 i1)), .val (.int (oC1 i1)), .val (.int (if (i4 &&& (1 : Int32)) = (0 : Int32) then (0 : Int32) else (1 : Int32))), .val (.int (if (i4 &&& (2 : Int32)) = (0 : Int32) then (0 : Int32) else (1 : Int32))), .val (.int (oLen i2)), .val (.int (oC0 i2)), .val (.int (oC1 i2)), .val (.int (oLen i1)), .val (.int (oC0 i1)), .val (.int (oC1 i1)), .val (.int (((i4.toUInt32 >>> ((2 : Int32) &&& 31).toUInt32).toInt32) &&& (3 : Int32))), .val (.ref b45), .val (.ref b57), .val (.int (1 : Int32))]) rfl ?_
              refine o_aload K X65 at_345 (pc' := 347) rfl rfl rfl ?_
              refine o_aload K X65 at_347 (pc' := 349) rfl rfl rfl ?_
              refine o_virtual K X65 (y := (⟨"com/example/phone_conformance_check/phoneconformancecheck/capture/Property", "equals", "(Ljava/lang/Object;)Z"⟩ : MethodName)) (z := (⟨"com/example/phone_conformance_check/phoneconformancecheck/capture/Property", "equals", "(Ljava/lang/Object;)Z"⟩ : MethodName)) (w56 hw) (w57 hw) (fun _ q => notFace_of_selects (args := #[]) (mvT q (w59 hw))) (w59 hw) (w58 hw) (w12 hw) (w60 hw) (by decide) ((((u48_1.ext E57).keep u58_0).keep u59_0).keep u60_0) (rm_peq l Z a0 hw b45 b57 r_46 vb_46 r_47 vb_47 r_58 vb_58 r_59 vb_59 k_46 k_47 k_58 k_59 (oLen i0) (oC0 i0) (oC1 i0) (oLen i2) (oC0 i2) (oC1 i2) (oLen i1) (oC0 i1) (oC1 i1) (oLen i1) (oC0 i1) (oC1 i1) cs h60 ((((u48_1.ext E57).keep u58_0).keep u59_0).keep u60_0) ((((u48_2.ext E57).keep u58_0 nin0).keep u59_0 nin0).keep u60_0 (ninS (Nat.ne_of_lt (Nat.lt_of_lt_of_le (Nat.lt_of_lt_of_le A45.lt (Nat.le_trans (Nat.le_trans u46_0.1 u47_0.1) u48_0.1)) (Nat.le_of_eq g57.symm))) nin0)) ((((u48_3.ext E57).keep u58_0 nin0).keep u59_0 nin0).keep u60_0 (ninS (Nat.ne_of_lt (Nat.lt_of_lt_of_le (Nat.lt_of_lt_of_le A45.lt (Nat.le_trans (Nat.le_trans u46_0.1 u47_0.1) u48_0.1)) (Nat.le_of_eq g57.symm))) nin0)) u60_1 u60_2 u60_3 ((((((u46_2.keep u47_0).keep u48_0).ext E57).keep u58_0).keep u59_0).keep u60_0) ((((((u46_3.keep u47_0 nin0).keep u48_0 (ninS (Ne.symm (Nat.ne_of_lt (Nat.lt_of_lt_of_le A45.lt u46_1))) nin0)).ext E57).keep u58_0 nin0).keep u59_0 nin0).keep u60_0 (ninS (Nat.ne_of_lt (Nat.lt_of_lt_of_le (Nat.lt_of_lt_of_le u46_2.lt (Nat.le_trans u47_0.1 u48_0.1)) (Nat.le_of_eq g57.symm))) nin0)) ((((((u46_4.keep u47_0 nin0).keep u48_0 (ninS (Ne.symm (Nat.ne_of_lt (Nat.lt_of_lt_of_le A45.lt u46_1))) nin0)).ext E57).keep u58_0 nin0).keep u59_0 nin0).keep u60_0 (ninS (Nat.ne_of_lt (Nat.lt_of_lt_of_le (Nat.lt_of_lt_of_le u46_2.lt (Nat.le_trans u47_0.1 u48_0.1)) (Nat.le_of_eq g57.symm))) nin0)) ((((((u46_5.keep u47_0 nin0).keep u48_0 (ninS (oNeArr (A45.keep u46_0) (w11 hw) u46_5) nin0)).ext E57).keep u58_0 nin0).keep u59_0 nin0).keep u60_0 (ninS (Nat.ne_of_lt (Nat.lt_of_lt_of_le (Nat.lt_of_lt_of_le u46_5.lt (Nat.le_trans u47_0.1 u48_0.1)) (Nat.le_of_eq g57.symm))) nin0)) (((((u47_2.keep u48_0).ext E57).keep u58_0).keep u59_0).keep u60_0) (((((u47_3.keep u48_0 (ninS (Ne.symm (Nat.ne_of_lt (Nat.lt_of_lt_of_le (Nat.lt_of_lt_of_le A45.lt u46_0.1) u47_1))) nin0)).ext E57).keep u58_0 nin0).keep u59_0 nin0).keep u60_0 (ninS (Nat.ne_of_lt (Nat.lt_of_lt_of_le (Nat.lt_of_lt_of_le u47_2.lt u48_0.1) (Nat.le_of_eq g57.symm))) nin0)) (((((u47_4.keep u48_0 (ninS (Ne.symm (Nat.ne_of_lt (Nat.lt_of_lt_of_le (Nat.lt_of_lt_of_le A45.lt u46_0.1) u47_1))) nin0)).ext E57).keep u58_0 nin0).keep u59_0 nin0).keep u60_0 (ninS (Nat.ne_of_lt (Nat.lt_of_lt_of_le (Nat.lt_of_lt_of_le u47_2.lt u48_0.1) (Nat.le_of_eq g57.symm))) nin0)) (((((u47_5.keep u48_0 (ninS (oNeArr ((A45.keep u46_0).keep u47_0) (w11 hw) u47_5) nin0)).ext E57).keep u58_0 nin0).keep u59_0 nin0).keep u60_0 (ninS (Nat.ne_of_lt (Nat.lt_of_lt_of_le (Nat.lt_of_lt_of_le u47_5.lt u48_0.1) (Nat.le_of_eq g57.symm))) nin0)) ((u58_2.keep u59_0).keep u60_0) ((u58_3.keep u59_0 nin0).keep u60_0 (ninS (Ne.symm (Nat.ne_of_lt (Nat.lt_of_lt_of_le A57.lt u58_1))) nin0)) ((u58_4.keep u59_0 nin0).keep u60_0 (ninS (Ne.symm (Nat.ne_of_lt (Nat.lt_of_lt_of_le A57.lt u58_1))) nin0)) ((u58_5.keep u59_0 nin0).keep u60_0 (ninS (oNeArr (A57.keep u58_0) (w11 hw) u58_5) nin0)) (u59_2.keep u60_0) (u59_3.keep u60_0 (ninS (Ne.symm (Nat.ne_of_lt (Nat.lt_of_lt_of_le (Nat.lt_of_lt_of_le A57.lt u58_0.1) u59_1))) nin0)) (u59_4.keep u60_0 (ninS (Ne.symm (Nat.ne_of_lt (Nat.lt_of_lt_of_le (Nat.lt_of_lt_of_le A57.lt u58_0.1) u59_1))) nin0)) (u59_5.keep u60_0 (ninS (oNeArr ((A57.keep u58_0).keep u59_0) (w11 hw) u59_5) nin0)) (Nat.ne_of_lt (Nat.lt_of_lt_of_le (Nat.lt_of_lt_of_le u46_2.lt (Nat.le_trans (Nat.le_trans u47_0.1 u48_0.1) E57.1)) u58_1)) (Nat.ne_of_lt (Nat.lt_of_lt_of_le (Nat.lt_of_lt_of_le u47_2.lt (Nat.le_trans (Nat.le_trans u48_0.1 E57.1) u58_0.1)) u59_1)) (oChM _) (oChM _) (oChM _) (oChM _) (oLenL _) (oLenL _) (oChM _) (oChM _) (oChM _) (oChM _) (oLenL _) (oLenL _) q4 q5) all0 (by decide) rfl (argsL := [(.ref b57)]) rfl (lenOf pd_law_4 rfl) (W := 0) rfl (by decide) (by decide) (by decide) at_349 (pc' := 352) rfl ?_
              intro v69 T69 h69 FX69 U69
              obtain ⟨rfl, rfl⟩ := U69
              have X69 := FX69 [] (Or.inl rfl) all0
              show oGoes pp ee bb ss Z T69 (mkF mm 352 #[.val (.int i0), .val (.int i1), .val (.int i2), .val (.int i3), .val (.int i4), .val (.int (oLen i0)), .val (.int (oC0 i0)), .val (.int (oC1 i0)), .val (.int (oLen i1)), .val (.int (oC0 i1)), .val (.int (oC1 i1)), .val (.int (if (i4 &&& (1 : Int32)) = (0 : Int32) then (0 : Int32) else (1 : Int32))), .val (.int (if (i4 &&& (2 : Int32)) = (0 : Int32) then (0 : Int32) else (1 : Int32))), .val (.int (oLen i2)), .val (.int (oC0 i2)), .val (.int (oC1 i2)), .val (.int (oLen i1)), .val (.int (oC0 i1)), .val (.int (oC1 i1)), .val (.int (((i4.toUInt32 >>> ((2 : Int32) &&& 31).toUInt32).toInt32) &&& (3 : Int32))), .val (.ref b45), .val (.ref b57), .val (.int (1 : Int32))] [(.int (oSm2 (oSm (oLen i0) (oC0 i0) (oC1 i0) (oLen i2) (oC0 i2) (oC1 i2)) (oSm (oLen i1) (oC0 i1) (oC1 i1) (oLen i1) (oC0 i1) (oC1 i1))))]) _ _ _ _
              refine o_iload K X69 at_352 (pc' := 354) rfl rfl ?_
              refine o_icmp_ne_f K X69 at_354 (pc' := 357) rfl (by have e0 := oSmFn c317_62; have e1 := oSmFn c335_66; simp [oSm2, c317_62, c335_66, e0, e1]) ?_
              refine o_aload K X69 at_357 (pc' := 359) rfl rfl rfl ?_
              refine o_aload K X69 at_359 (pc' := 361) rfl rfl rfl ?_
              refine o_virtual K X69 (y := (⟨"com/example/phone_conformance_check/phoneconformancecheck/capture/Property", "equals", "(Ljava/lang/Object;)Z"⟩ : MethodName)) (z := (⟨"com/example/phone_conformance_check/phoneconformancecheck/capture/Property", "equals", "(Ljava/lang/Object;)Z"⟩ : MethodName)) (w56 hw) (w57 hw) (fun _ q => notFace_of_selects (args := #[]) (mvT q (w59 hw))) (w59 hw) (w58 hw) (w12 hw) (w60 hw) (by decide) u60_1 (rm_peq l Z a0 hw b57 b45 r_58 vb_58 r_59 vb_59 r_46 vb_46 r_47 vb_47 k_58 k_59 k_46 k_47 (oLen i2) (oC0 i2) (oC1 i2) (oLen i0) (oC0 i0) (oC1 i0) (oLen i1) (oC0 i1) (oC1 i1) (oLen i1) (oC0 i1) (oC1 i1) cs h60 u60_1 u60_2 u60_3 ((((u48_1.ext E57).keep u58_0).keep u59_0).keep u60_0) ((((u48_2.ext E57).keep u58_0 nin0).keep u59_0 nin0).keep u60_0 (ninS (Nat.ne_of_lt (Nat.lt_of_lt_of_le (Nat.lt_of_lt_of_le A45.lt (Nat.le_trans (Nat.le_trans u46_0.1 u47_0.1) u48_0.1)) (Nat.le_of_eq g57.symm))) nin0)) ((((u48_3.ext E57).keep u58_0 nin0).keep u59_0 nin0).keep u60_0 (ninS (Nat.ne_of_lt (Nat.lt_of_lt_of_le (Nat.lt_of_lt_of_le A45.lt (Nat.le_trans (Nat.le_trans u46_0.1 u47_0.1) u48_0.1)) (Nat.le_of_eq g57.symm))) nin0)) ((u58_2.keep u59_0).keep u60_0) ((u58_3.keep u59_0 nin0).keep u60_0 (ninS (Ne.symm (Nat.ne_of_lt (Nat.lt_of_lt_of_le A57.lt u58_1))) nin0)) ((u58_4.keep u59_0 nin0).keep u60_0 (ninS (Ne.symm (Nat.ne_of_lt (Nat.lt_of_lt_of_le A57.lt u58_1))) nin0)) ((u58_5.keep u59_0 nin0).keep u60_0 (ninS (oNeArr (A57.keep u58_0) (w11 hw) u58_5) nin0)) (u59_2.keep u60_0) (u59_3.keep u60_0 (ninS (Ne.symm (Nat.ne_of_lt (Nat.lt_of_lt_of_le (Nat.lt_of_lt_of_le A57.lt u58_0.1) u59_1))) nin0)) (u59_4.keep u60_0 (ninS (Ne.symm (Nat.ne_of_lt (Nat.lt_of_lt_of_le (Nat.lt_of_lt_of_le A57.lt u58_0.1) u59_1))) nin0)) (u59_5.keep u60_0 (ninS (oNeArr ((A57.keep u58_0).keep u59_0) (w11 hw) u59_5) nin0)) ((((((u46_2.keep u47_0).keep u48_0).ext E57).keep u58_0).keep u59_0).keep u60_0) ((((((u46_3.keep u47_0 nin0).keep u48_0 (ninS (Ne.symm (Nat.ne_of_lt (Nat.lt_of_lt_of_le A45.lt u46_1))) nin0)).ext E57).keep u58_0 nin0).keep u59_0 nin0).keep u60_0 (ninS (Nat.ne_of_lt (Nat.lt_of_lt_of_le (Nat.lt_of_lt_of_le u46_2.lt (Nat.le_trans u47_0.1 u48_0.1)) (Nat.le_of_eq g57.symm))) nin0)) ((((((u46_4.keep u47_0 nin0).keep u48_0 (ninS (Ne.symm (Nat.ne_of_lt (Nat.lt_of_lt_of_le A45.lt u46_1))) nin0)).ext E57).keep u58_0 nin0).keep u59_0 nin0).keep u60_0 (ninS (Nat.ne_of_lt (Nat.lt_of_lt_of_le (Nat.lt_of_lt_of_le u46_2.lt (Nat.le_trans u47_0.1 u48_0.1)) (Nat.le_of_eq g57.symm))) nin0)) ((((((u46_5.keep u47_0 nin0).keep u48_0 (ninS (oNeArr (A45.keep u46_0) (w11 hw) u46_5) nin0)).ext E57).keep u58_0 nin0).keep u59_0 nin0).keep u60_0 (ninS (Nat.ne_of_lt (Nat.lt_of_lt_of_le (Nat.lt_of_lt_of_le u46_5.lt (Nat.le_trans u47_0.1 u48_0.1)) (Nat.le_of_eq g57.symm))) nin0)) (((((u47_2.keep u48_0).ext E57).keep u58_0).keep u59_0).keep u60_0) (((((u47_3.keep u48_0 (ninS (Ne.symm (Nat.ne_of_lt (Nat.lt_of_lt_of_le (Nat.lt_of_lt_of_le A45.lt u46_0.1) u47_1))) nin0)).ext E57).keep u58_0 nin0).keep u59_0 nin0).keep u60_0 (ninS (Nat.ne_of_lt (Nat.lt_of_lt_of_le (Nat.lt_of_lt_of_le u47_2.lt u48_0.1) (Nat.le_of_eq g57.symm))) nin0)) (((((u47_4.keep u48_0 (ninS (Ne.symm (Nat.ne_of_lt (Nat.lt_of_lt_of_le (Nat.lt_of_lt_of_le A45.lt u46_0.1) u47_1))) nin0)).ext E57).keep u58_0 nin0).keep u59_0 nin0).keep u60_0 (ninS (Nat.ne_of_lt (Nat.lt_of_lt_of_le (Nat.lt_of_lt_of_le u47_2.lt u48_0.1) (Nat.le_of_eq g57.symm))) nin0)) (((((u47_5.keep u48_0 (ninS (oNeArr ((A45.keep u46_0).keep u47_0) (w11 hw) u47_5) nin0)).ext E57).keep u58_0 nin0).keep u59_0 nin0).keep u60_0 (ninS (Nat.ne_of_lt (Nat.lt_of_lt_of_le (Nat.lt_of_lt_of_le u47_5.lt u48_0.1) (Nat.le_of_eq g57.symm))) nin0)) (Ne.symm (Nat.ne_of_lt (Nat.lt_of_lt_of_le (Nat.lt_of_lt_of_le u46_2.lt (Nat.le_trans (Nat.le_trans u47_0.1 u48_0.1) E57.1)) u58_1))) (Ne.symm (Nat.ne_of_lt (Nat.lt_of_lt_of_le (Nat.lt_of_lt_of_le u47_2.lt (Nat.le_trans (Nat.le_trans u48_0.1 E57.1) u58_0.1)) u59_1))) (oChM _) (oChM _) (oChM _) (oChM _) (oLenL _) (oLenL _) (oChM _) (oChM _) (oChM _) (oChM _) (oLenL _) (oLenL _) q4 q5) all0 (by decide) rfl (argsL := [(.ref b45)]) rfl (lenOf pd_law_4 rfl) (W := 0) rfl (by decide) (by decide) (by decide) at_361 (pc' := 364) rfl ?_
              intro v70 T70 h70 FX70 U70
              obtain ⟨rfl, rfl⟩ := U70
              have X70 := FX70 [] (Or.inl rfl) all0
              show oGoes pp ee bb ss Z T70 (mkF mm 364 #[.val (.int i0), .val (.int i1), .val (.int i2), .val (.int i3), .val (.int i4), .val (.int (oLen i0)), .val (.int (oC0 i0)), .val (.int (oC1 i0)), .val (.int (oLen i1)), .val (.int (oC0 i1)), .val (.int (oC1 i1)), .val (.int (if (i4 &&& (1 : Int32)) = (0 : Int32) then (0 : Int32) else (1 : Int32))), .val (.int (if (i4 &&& (2 : Int32)) = (0 : Int32) then (0 : Int32) else (1 : Int32))), .val (.int (oLen i2)), .val (.int (oC0 i2)), .val (.int (oC1 i2)), .val (.int (oLen i1)), .val (.int (oC0 i1)), .val (.int (oC1 i1)), .val (.int (((i4.toUInt32 >>> ((2 : Int32) &&& 31).toUInt32).toInt32) &&& (3 : Int32))), .val (.ref b45), .val (.ref b57), .val (.int (1 : Int32))] [(.int (oSm2 (oSm (oLen i2) (oC0 i2) (oC1 i2) (oLen i0) (oC0 i0) (oC1 i0)) (oSm (oLen i1) (oC0 i1) (oC1 i1) (oLen i1) (oC0 i1) (oC1 i1))))]) _ _ _ _
              refine o_iload K X70 at_364 (pc' := 366) rfl rfl ?_
              refine o_icmp_ne_f K X70 at_366 (pc' := 369) rfl (by have e0 := oSmFn c317_62; have e1 := oSmFn c335_66; simp [oSm2, c317_62, c335_66, e0, e1]) ?_
              refine o_iconst K X70 at_369 (pc' := 370) rfl (z := (1 : Int32)) rfl ?_
              refine o_goto K X70 at_370 (by decide) (pc' := 374) (by decide) ?_
              refine o_ireturnN K X70 .boolean at_374 rfl (by simp) (z' := (1 : Int32)) (by decide) ?_ (by decide) (by decide) (by decide)
              exact rfl
  · refine o_if_eq_f K X6 at_66 (pc' := 69) rfl (by rw [if_neg c66_11] <;> decide) ?_
    refine o_iload K X6 at_69 (pc' := 71) rfl rfl ?_
    refine o_goto K X6 at_71 (by decide) (pc' := 78) (by decide) ?_
    refine o_istore K X6 at_78 (pc' := 80) rfl (L' := #[.val (.int i0), .val (.int i1), .val (.int i2), .val (.int i3), .val (.int i4), .val (.int (oLen i0)), .val (.int (oC0 i0)), .val (.int (oC1 i0)), .val (.int (oLen i1)), .val (.int (oC0 i1)), .val (.int (oC1 i1)), .val (.int (if (i4 &&& (1 : Int32)) = (0 : Int32) then (0 : Int32) else (1 : Int32))), .val (.int (if (i4 &&& (2 : Int32)) = (0 : Int32) then (0 : Int32) else (1 : Int32))), .val (.int (oLen i0)), .unset, .unset, .unset, .unset, .unset, .unset, .unset, .unset, .unset]) rfl ?_
    refine o_iload K X6 at_80 (pc' := 82) rfl rfl ?_
    refine o_if_eq_f K X6 at_82 (pc' := 85) rfl (by rw [if_neg c66_11] <;> decide) ?_
    refine o_iload K X6 at_85 (pc' := 87) rfl rfl ?_
    refine o_goto K X6 at_87 (by decide) (pc' := 94) (by decide) ?_
    refine o_istore K X6 at_94 (pc' := 96) rfl (L' := #[.val (.int i0), .val (.int i1), .val (.int i2), .val (.int i3), .val (.int i4), .val (.int (oLen i0)), .val (.int (oC0 i0)), .val (.int (oC1 i0)), .val (.int (oLen i1)), .val (.int (oC0 i1)), .val (.int (oC1 i1)), .val (.int (if (i4 &&& (1 : Int32)) = (0 : Int32) then (0 : Int32) else (1 : Int32))), .val (.int (if (i4 &&& (2 : Int32)) = (0 : Int32) then (0 : Int32) else (1 : Int32))), .val (.int (oLen i0)), .val (.int (oC0 i0)), .unset, .unset, .unset, .unset, .unset, .unset, .unset, .unset]) rfl ?_
    refine o_iload K X6 at_96 (pc' := 98) rfl rfl ?_
    refine o_if_eq_f K X6 at_98 (pc' := 101) rfl (by rw [if_neg c66_11] <;> decide) ?_
    refine o_iload K X6 at_101 (pc' := 103) rfl rfl ?_
    refine o_goto K X6 at_103 (by decide) (pc' := 110) (by decide) ?_
    refine o_istore K X6 at_110 (pc' := 112) rfl (L' := #[.val (.int i0), .val (.int i1), .val (.int i2), .val (.int i3), .val (.int i4), .val (.int (oLen i0)), .val (.int (oC0 i0)), .val (.int (oC1 i0)), .val (.int (oLen i1)), .val (.int (oC0 i1)), .val (.int (oC1 i1)), .val (.int (if (i4 &&& (1 : Int32)) = (0 : Int32) then (0 : Int32) else (1 : Int32))), .val (.int (if (i4 &&& (2 : Int32)) = (0 : Int32) then (0 : Int32) else (1 : Int32))), .val (.int (oLen i0)), .val (.int (oC0 i0)), .val (.int (oC1 i0)), .unset, .unset, .unset, .unset, .unset, .unset, .unset]) rfl ?_
    refine o_iload K X6 at_112 (pc' := 114) rfl rfl ?_
    by_cases c114_71 : (i4 &&& (2 : Int32)) = (0 : Int32)
    · refine o_if_eq_t K X6 at_114 (by decide) (pc' := 122) (by decide) (by rw [if_pos c114_71] <;> decide) ?_
      refine o_iloadN K X6 at_122 (pc' := 123) rfl rfl ?_
      refine o_static K X6 (y := (⟨"com/example/phone_conformance_check/phoneconformancecheck/capture/PropertyEqualsPinLaw", "len", "(I)I"⟩ : MethodName)) (w0 hw) (w1 hw) (w2 hw) (w3 hw) (by decide) (rm_len l Z a0 hw i3 h0) all0 (by decide) rfl (argsL := [(.int i3)]) rfl (lenOf pd_law_0 rfl) (W := 0) rfl (by decide) (by decide) (by decide) at_123 (pc' := 126) rfl ?_
      intro v72 T72 h72 FX72 U72
      obtain ⟨rfl, rfl⟩ := U72
      have X72 := FX72 [] (Or.inl rfl) all0
      show oGoes pp ee bb ss Z T72 (mkF mm 126 #[.val (.int i0), .val (.int i1), .val (.int i2), .val (.int i3), .val (.int i4), .val (.int (oLen i0)), .val (.int (oC0 i0)), .val (.int (oC1 i0)), .val (.int (oLen i1)), .val (.int (oC0 i1)), .val (.int (oC1 i1)), .val (.int (if (i4 &&& (1 : Int32)) = (0 : Int32) then (0 : Int32) else (1 : Int32))), .val (.int (if (i4 &&& (2 : Int32)) = (0 : Int32) then (0 : Int32) else (1 : Int32))), .val (.int (oLen i0)), .val (.int (oC0 i0)), .val (.int (oC1 i0)), .unset, .unset, .unset, .unset, .unset, .unset, .unset] [(.int (oLen i3))]) _ _ _ _
      refine o_istore K X72 at_126 (pc' := 128) rfl (L' := #[.val (.int i0), .val (.int i1), .val (.int i2), .val (.int i3), .val (.int i4), .val (.int (oLen i0)), .val (.int (oC0 i0)), .val (.int (oC1 i0)), .val (.int (oLen i1)), .val (.int (oC0 i1)), .val (.int (oC1 i1)), .val (.int (if (i4 &&& (1 : Int32)) = (0 : Int32) then (0 : Int32) else (1 : Int32))), .val (.int (if (i4 &&& (2 : Int32)) = (0 : Int32) then (0 : Int32) else (1 : Int32))), .val (.int (oLen i0)), .val (.int (oC0 i0)), .val (.int (oC1 i0)), .val (.int (oLen i3)), .unset, .unset, .unset, .unset, .unset, .unset]) rfl ?_
      refine o_iload K X72 at_128 (pc' := 130) rfl rfl ?_
      refine o_if_eq_t K X72 at_130 (by decide) (pc' := 138) (by decide) (by rw [if_pos c114_71] <;> decide) ?_
      refine o_iloadN K X72 at_138 (pc' := 139) rfl rfl ?_
      refine o_static K X72 (y := (⟨"com/example/phone_conformance_check/phoneconformancecheck/capture/PropertyEqualsPinLaw", "c0", "(I)C"⟩ : MethodName)) (w4 hw) (w5 hw) (w2 hw) (w6 hw) (by decide) (rm_c0 l Z a0 hw i3 h0) all0 (by decide) rfl (argsL := [(.int i3)]) rfl (lenOf pd_law_1 rfl) (W := 0) rfl (by decide) (by decide) (by decide) at_139 (pc' := 142) rfl ?_
      intro v73 T73 h73 FX73 U73
      obtain ⟨rfl, rfl⟩ := U73
      have X73 := FX73 [] (Or.inl rfl) all0
      show oGoes pp ee bb ss Z T73 (mkF mm 142 #[.val (.int i0), .val (.int i1), .val (.int i2), .val (.int i3), .val (.int i4), .val (.int (oLen i0)), .val (.int (oC0 i0)), .val (.int (oC1 i0)), .val (.int (oLen i1)), .val (.int (oC0 i1)), .val (.int (oC1 i1)), .val (.int (if (i4 &&& (1 : Int32)) = (0 : Int32) then (0 : Int32) else (1 : Int32))), .val (.int (if (i4 &&& (2 : Int32)) = (0 : Int32) then (0 : Int32) else (1 : Int32))), .val (.int (oLen i0)), .val (.int (oC0 i0)), .val (.int (oC1 i0)), .val (.int (oLen i3)), .unset, .unset, .unset, .unset, .unset, .unset] [(.int (oC0 i3))]) _ _ _ _
      refine o_istore K X73 at_142 (pc' := 144) rfl (L' := #[.val (.int i0), .val (.int i1), .val (.int i2), .val (.int i3), .val (.int i4), .val (.int (oLen i0)), .val (.int (oC0 i0)), .val (.int (oC1 i0)), .val (.int (oLen i1)), .val (.int (oC0 i1)), .val (.int (oC1 i1)), .val (.int (if (i4 &&& (1 : Int32)) = (0 : Int32) then (0 : Int32) else (1 : Int32))), .val (.int (if (i4 &&& (2 : Int32)) = (0 : Int32) then (0 : Int32) else (1 : Int32))), .val (.int (oLen i0)), .val (.int (oC0 i0)), .val (.int (oC1 i0)), .val (.int (oLen i3)), .val (.int (oC0 i3)), .unset, .unset, .unset, .unset, .unset]) rfl ?_
      refine o_iload K X73 at_144 (pc' := 146) rfl rfl ?_
      refine o_if_eq_t K X73 at_146 (by decide) (pc' := 154) (by decide) (by rw [if_pos c114_71] <;> decide) ?_
      refine o_iloadN K X73 at_154 (pc' := 155) rfl rfl ?_
      refine o_static K X73 (y := (⟨"com/example/phone_conformance_check/phoneconformancecheck/capture/PropertyEqualsPinLaw", "c1", "(I)C"⟩ : MethodName)) (w7 hw) (w8 hw) (w2 hw) (w9 hw) (by decide) (rm_c1 l Z a0 hw i3 h0) all0 (by decide) rfl (argsL := [(.int i3)]) rfl (lenOf pd_law_1 rfl) (W := 0) rfl (by decide) (by decide) (by decide) at_155 (pc' := 158) rfl ?_
      intro v74 T74 h74 FX74 U74
      obtain ⟨rfl, rfl⟩ := U74
      have X74 := FX74 [] (Or.inl rfl) all0
      show oGoes pp ee bb ss Z T74 (mkF mm 158 #[.val (.int i0), .val (.int i1), .val (.int i2), .val (.int i3), .val (.int i4), .val (.int (oLen i0)), .val (.int (oC0 i0)), .val (.int (oC1 i0)), .val (.int (oLen i1)), .val (.int (oC0 i1)), .val (.int (oC1 i1)), .val (.int (if (i4 &&& (1 : Int32)) = (0 : Int32) then (0 : Int32) else (1 : Int32))), .val (.int (if (i4 &&& (2 : Int32)) = (0 : Int32) then (0 : Int32) else (1 : Int32))), .val (.int (oLen i0)), .val (.int (oC0 i0)), .val (.int (oC1 i0)), .val (.int (oLen i3)), .val (.int (oC0 i3)), .unset, .unset, .unset, .unset, .unset] [(.int (oC1 i3))]) _ _ _ _
      refine o_istore K X74 at_158 (pc' := 160) rfl (L' := #[.val (.int i0), .val (.int i1), .val (.int i2), .val (.int i3), .val (.int i4), .val (.int (oLen i0)), .val (.int (oC0 i0)), .val (.int (oC1 i0)), .val (.int (oLen i1)), .val (.int (oC0 i1)), .val (.int (oC1 i1)), .val (.int (if (i4 &&& (1 : Int32)) = (0 : Int32) then (0 : Int32) else (1 : Int32))), .val (.int (if (i4 &&& (2 : Int32)) = (0 : Int32) then (0 : Int32) else (1 : Int32))), .val (.int (oLen i0)), .val (.int (oC0 i0)), .val (.int (oC1 i0)), .val (.int (oLen i3)), .val (.int (oC0 i3)), .val (.int (oC1 i3)), .unset, .unset, .unset, .unset]) rfl ?_
      refine o_iload K X74 at_160 (pc' := 162) rfl rfl ?_
      refine o_iconst K X74 at_162 (pc' := 163) rfl (z := (2 : Int32)) rfl ?_
      refine o_iushr K X74 at_163 (pc' := 164) rfl (z := ((i4.toUInt32 >>> ((2 : Int32) &&& 31).toUInt32).toInt32)) rfl ?_
      refine o_iconst K X74 at_164 (pc' := 165) rfl (z := (3 : Int32)) rfl ?_
      refine o_iand K X74 at_165 (pc' := 166) rfl (z := (((i4.toUInt32 >>> ((2 : Int32) &&& 31).toUInt32).toInt32) &&& (3 : Int32))) rfl ?_
      refine o_istore K X74 at_166 (pc' := 168) rfl (L' := #[.val (.int i0), .val (.int i1), .val (.int i2), .val (.int i3), .val (.int i4), .val (.int (oLen i0)), .val (.int (oC0 i0)), .val (.int (oC1 i0)), .val (.int (oLen i1)), .val (.int (oC0 i1)), .val (.int (oC1 i1)), .val (.int (if (i4 &&& (1 : Int32)) = (0 : Int32) then (0 : Int32) else (1 : Int32))), .val (.int (if (i4 &&& (2 : Int32)) = (0 : Int32) then (0 : Int32) else (1 : Int32))), .val (.int (oLen i0)), .val (.int (oC0 i0)), .val (.int (oC1 i0)), .val (.int (oLen i3)), .val (.int (oC0 i3)), .val (.int (oC1 i3)), .val (.int (((i4.toUInt32 >>> ((2 : Int32) &&& 31).toUInt32).toInt32) &&& (3 : Int32))), .unset, .unset, .unset]) rfl ?_
      refine o_new K X74 (w10 hw) (w11 hw) (w12 hw) at_168 (pc' := 171) rfl (by decide) (by decide) ?_
      intro T75 h75 b75 X75 g75 E75 A75 D75 G75
      have F75_name : Fld Z h75 b75 "com/example/phone_conformance_check/phoneconformancecheck/capture/Property" "name" "Ljava/lang/String;" .null := (D75 (Or.inr (w49 hw)) (ty := (.object "java/lang/String")) (by decide))
      have F75_value : Fld Z h75 b75 "com/example/phone_conformance_check/phoneconformancecheck/capture/Property" "value" "Ljava/lang/String;" .null := (D75 (Or.inr (w52 hw)) (ty := (.object "java/lang/String")) (by decide))
      refine o_dup K X75 at_171 (pc' := 172) rfl rfl ?_
      refine o_iload K X75 at_172 (pc' := 174) rfl rfl ?_
      refine o_iload K X75 at_174 (pc' := 176) rfl rfl ?_
      refine o_iload K X75 at_176 (pc' := 178) rfl rfl ?_
      refine o_static K X75 (y := (⟨"com/example/phone_conformance_check/phoneconformancecheck/capture/PropertyEqualsPinLaw", "mk", "(ICC)Ljava/lang/String;"⟩ : MethodName)) (w13 hw) (w14 hw) (w2 hw) (w15 hw) (by decide) (rm_mk l Z a0 hw (oLen i0) (oC0 i0) (oC1 i0) cs h75 q4 q5 (oChM _).2 (oChM _).2 (oNarMask _ (by decide)) (oNarMask _ (by decide))) all0 (by decide) rfl (argsL := [(.int (oLen i0)), (.int (oC0 i0)), (.int (oC1 i0))]) rfl (lenOf pd_law_2 rfl) (W := 2) rfl (by decide) (by decide) (by decide) at_178 (pc' := 181) rfl ?_
      intro v76 T76 h76 FX76 U76
      obtain ⟨r_76, vb_76, k_76, rfl, u76_0, u76_1, u76_2, u76_3, u76_4, u76_5⟩ := U76
      have G76_r : Z.heap.size ≤ r_76 := Nat.le_trans (Nat.le_trans E0.1 E75.1) u76_1
      have X76 := FX76 [] (Or.inr rfl) all0
      show oGoes pp ee bb ss Z T76 (mkF mm 181 #[.val (.int i0), .val (.int i1), .val (.int i2), .val (.int i3), .val (.int i4), .val (.int (oLen i0)), .val (.int (oC0 i0)), .val (.int (oC1 i0)), .val (.int (oLen i1)), .val (.int (oC0 i1)), .val (.int (oC1 i1)), .val (.int (if (i4 &&& (1 : Int32)) = (0 : Int32) then (0 : Int32) else (1 : Int32))), .val (.int (if (i4 &&& (2 : Int32)) = (0 : Int32) then (0 : Int32) else (1 : Int32))), .val (.int (oLen i0)), .val (.int (oC0 i0)), .val (.int (oC1 i0)), .val (.int (oLen i3)), .val (.int (oC0 i3)), .val (.int (oC1 i3)), .val (.int (((i4.toUInt32 >>> ((2 : Int32) &&& 31).toUInt32).toInt32) &&& (3 : Int32))), .unset, .unset, .unset] [(.ref r_76), (.ref b75), (.ref b75)]) _ _ _ _
      refine o_iload K X76 at_181 (pc' := 183) rfl rfl ?_
      refine o_iload K X76 at_183 (pc' := 185) rfl rfl ?_
      refine o_iload K X76 at_185 (pc' := 187) rfl rfl ?_
      refine o_static K X76 (y := (⟨"com/example/phone_conformance_check/phoneconformancecheck/capture/PropertyEqualsPinLaw", "mk", "(ICC)Ljava/lang/String;"⟩ : MethodName)) (w13 hw) (w14 hw) (w2 hw) (w15 hw) (by decide) (rm_mk l Z a0 hw (oLen i1) (oC0 i1) (oC1 i1) cs h76 q4 q5 (oChM _).2 (oChM _).2 (oNarMask _ (by decide)) (oNarMask _ (by decide))) all0 (by decide) rfl (argsL := [(.int (oLen i1)), (.int (oC0 i1)), (.int (oC1 i1))]) rfl (lenOf pd_law_2 rfl) (W := 3) rfl (by decide) (by decide) (by decide) at_187 (pc' := 190) rfl ?_
      intro v77 T77 h77 FX77 U77
      obtain ⟨r_77, vb_77, k_77, rfl, u77_0, u77_1, u77_2, u77_3, u77_4, u77_5⟩ := U77
      have G77_r : Z.heap.size ≤ r_77 := Nat.le_trans (Nat.le_trans E0.1 (Nat.le_trans E75.1 u76_0.1)) u77_1
      have X77 := FX77 [] (Or.inr rfl) all0
      show oGoes pp ee bb ss Z T77 (mkF mm 190 #[.val (.int i0), .val (.int i1), .val (.int i2), .val (.int i3), .val (.int i4), .val (.int (oLen i0)), .val (.int (oC0 i0)), .val (.int (oC1 i0)), .val (.int (oLen i1)), .val (.int (oC0 i1)), .val (.int (oC1 i1)), .val (.int (if (i4 &&& (1 : Int32)) = (0 : Int32) then (0 : Int32) else (1 : Int32))), .val (.int (if (i4 &&& (2 : Int32)) = (0 : Int32) then (0 : Int32) else (1 : Int32))), .val (.int (oLen i0)), .val (.int (oC0 i0)), .val (.int (oC1 i0)), .val (.int (oLen i3)), .val (.int (oC0 i3)), .val (.int (oC1 i3)), .val (.int (((i4.toUInt32 >>> ((2 : Int32) &&& 31).toUInt32).toInt32) &&& (3 : Int32))), .unset, .unset, .unset] [(.ref r_77), (.ref r_76), (.ref b75), (.ref b75)]) _ _ _ _
      refine o_special K X77 (y := (⟨"com/example/phone_conformance_check/phoneconformancecheck/capture/Property", "<init>", "(Ljava/lang/String;Ljava/lang/String;)V"⟩ : MethodName)) rfl (w38 hw) (w39 hw) (w12 hw) (w40 hw) (by decide) (rm_pinit l Z a0 hw b75 r_76 r_77 h77 ((A75.keep u76_0).keep u77_0) ((F75_name.keep u76_0 nin0).keep u77_0 nin0) ((F75_value.keep u76_0 nin0).keep u77_0 nin0) G75 (u76_2.keep u77_0) u77_2) (allS (List.mem_of_getElem? (i := 0) rfl) all0) (by decide) rfl (argsL := [(.ref r_76), (.ref r_77)]) rfl (lenOf pd_law_3 rfl) (W := 1) rfl (by decide) (by decide) (by decide) at_190 (pc' := 193) rfl ?_
      intro v78 T78 h78 FX78 U78
      obtain ⟨rfl, u78_0, u78_1, u78_2, u78_3⟩ := U78
      have X78 := FX78 [] (Or.inr rfl) all0
      show oGoes pp ee bb ss Z T78 (mkF mm 193 #[.val (.int i0), .val (.int i1), .val (.int i2), .val (.int i3), .val (.int i4), .val (.int (oLen i0)), .val (.int (oC0 i0)), .val (.int (oC1 i0)), .val (.int (oLen i1)), .val (.int (oC0 i1)), .val (.int (oC1 i1)), .val (.int (if (i4 &&& (1 : Int32)) = (0 : Int32) then (0 : Int32) else (1 : Int32))), .val (.int (if (i4 &&& (2 : Int32)) = (0 : Int32) then (0 : Int32) else (1 : Int32))), .val (.int (oLen i0)), .val (.int (oC0 i0)), .val (.int (oC1 i0)), .val (.int (oLen i3)), .val (.int (oC0 i3)), .val (.int (oC1 i3)), .val (.int (((i4.toUInt32 >>> ((2 : Int32) &&& 31).toUInt32).toInt32) &&& (3 : Int32))), .unset, .unset, .unset] [(.ref b75)]) _ _ _ _
      refine o_astore K X78 at_193 (pc' := 195) rfl rfl (L' := #[.val (.int i0), .val (.int i1), .val (.int i2), .val (.int i3), .val (.int i4), .val (.int (oLen i0)), .val (.int (oC0 i0)), .val (.int (oC1 i0)), .val (.int (oLen i1)), .val (.int (oC0 i1)), .val (.int (oC1 i1)), .val (.int (if (i4 &&& (1 : Int32)) = (0 : Int32) then (0 : Int32) else (1 : Int32))), .val (.int (if (i4 &&& (2 : Int32)) = (0 : Int32) then (0 : Int32) else (1 : Int32))), .val (.int (oLen i0)), .val (.int (oC0 i0)), .val (.int (oC1 i0)), .val (.int (oLen i3)), .val (.int (oC0 i3)), .val (.int (oC1 i3)), .val (.int (((i4.toUInt32 >>> ((2 : Int32) &&& 31).toUInt32).toInt32) &&& (3 : Int32))), .val (.ref b75), .unset, .unset]) rfl ?_
      refine o_iload K X78 at_195 (pc' := 197) rfl rfl ?_
      refine o_iconst K X78 at_197 (pc' := 198) rfl (z := (2 : Int32)) rfl ?_
      by_cases c198_79 : (((i4.toUInt32 >>> ((2 : Int32) &&& 31).toUInt32).toInt32) &&& (3 : Int32)) = (2 : Int32)
      · refine o_icmp_ne_f K X78 at_198 (pc' := 201) rfl c198_79 ?_
        refine o_aload K X78 at_201 (pc' := 203) rfl rfl rfl ?_
        refine o_aload K X78 at_203 (pc' := 205) rfl rfl rfl ?_
        refine o_virtual K X78 (y := (⟨"com/example/phone_conformance_check/phoneconformancecheck/capture/Property", "equals", "(Ljava/lang/Object;)Z"⟩ : MethodName)) (z := (⟨"com/example/phone_conformance_check/phoneconformancecheck/capture/Property", "equals", "(Ljava/lang/Object;)Z"⟩ : MethodName)) (w56 hw) (w57 hw) (fun _ q => notFace_of_selects (args := #[]) (mvT q (w59 hw))) (w59 hw) (w58 hw) (w12 hw) (w60 hw) (by decide) u78_1 (rm_peqself l Z a0 hw b75 r_76 r_77 h78 u78_1 u78_2 u78_3 ((u76_2.keep u77_0).keep u78_0) (u77_2.keep u78_0)) all0 (by decide) rfl (argsL := [(.ref b75)]) rfl (lenOf pd_law_4 rfl) (W := 0) rfl (by decide) (by decide) (by decide) at_205 (pc' := 208) rfl ?_
        intro v80 T80 h80 FX80 U80
        obtain ⟨rfl, rfl⟩ := U80
        have X80 := FX80 [] (Or.inl rfl) all0
        show oGoes pp ee bb ss Z T80 (mkF mm 208 #[.val (.int i0), .val (.int i1), .val (.int i2), .val (.int i3), .val (.int i4), .val (.int (oLen i0)), .val (.int (oC0 i0)), .val (.int (oC1 i0)), .val (.int (oLen i1)), .val (.int (oC0 i1)), .val (.int (oC1 i1)), .val (.int (if (i4 &&& (1 : Int32)) = (0 : Int32) then (0 : Int32) else (1 : Int32))), .val (.int (if (i4 &&& (2 : Int32)) = (0 : Int32) then (0 : Int32) else (1 : Int32))), .val (.int (oLen i0)), .val (.int (oC0 i0)), .val (.int (oC1 i0)), .val (.int (oLen i3)), .val (.int (oC0 i3)), .val (.int (oC1 i3)), .val (.int (((i4.toUInt32 >>> ((2 : Int32) &&& 31).toUInt32).toInt32) &&& (3 : Int32))), .val (.ref b75), .unset, .unset] [(.int (1 : Int32))]) _ _ _ _
        refine o_if_eq_f K X80 at_208 (pc' := 211) rfl (by decide) ?_
        refine o_aload K X80 at_211 (pc' := 213) rfl rfl rfl ?_
        refine o_aconst_null K X80 at_213 (pc' := 214) rfl ?_
        refine o_virtual K X80 (y := (⟨"com/example/phone_conformance_check/phoneconformancecheck/capture/Property", "equals", "(Ljava/lang/Object;)Z"⟩ : MethodName)) (z := (⟨"com/example/phone_conformance_check/phoneconformancecheck/capture/Property", "equals", "(Ljava/lang/Object;)Z"⟩ : MethodName)) (w56 hw) (w57 hw) (fun _ q => notFace_of_selects (args := #[]) (mvT q (w59 hw))) (w59 hw) (w58 hw) (w12 hw) (w60 hw) (by decide) u78_1 (rm_peqnull l Z a0 hw b75 h78) all0 (by decide) rfl (argsL := [.null]) rfl (lenOf pd_law_4 rfl) (W := 0) rfl (by decide) (by decide) (by decide) at_214 (pc' := 217) rfl ?_
        intro v81 T81 h81 FX81 U81
        obtain ⟨rfl, rfl⟩ := U81
        have X81 := FX81 [] (Or.inl rfl) all0
        show oGoes pp ee bb ss Z T81 (mkF mm 217 #[.val (.int i0), .val (.int i1), .val (.int i2), .val (.int i3), .val (.int i4), .val (.int (oLen i0)), .val (.int (oC0 i0)), .val (.int (oC1 i0)), .val (.int (oLen i1)), .val (.int (oC0 i1)), .val (.int (oC1 i1)), .val (.int (if (i4 &&& (1 : Int32)) = (0 : Int32) then (0 : Int32) else (1 : Int32))), .val (.int (if (i4 &&& (2 : Int32)) = (0 : Int32) then (0 : Int32) else (1 : Int32))), .val (.int (oLen i0)), .val (.int (oC0 i0)), .val (.int (oC1 i0)), .val (.int (oLen i3)), .val (.int (oC0 i3)), .val (.int (oC1 i3)), .val (.int (((i4.toUInt32 >>> ((2 : Int32) &&& 31).toUInt32).toInt32) &&& (3 : Int32))), .val (.ref b75), .unset, .unset] [(.int (0 : Int32))]) _ _ _ _
        refine o_if_ne_f K X81 at_217 (pc' := 220) rfl (by decide) ?_
        refine o_iconst K X81 at_220 (pc' := 221) rfl (z := (1 : Int32)) rfl ?_
        refine o_goto K X81 at_221 (by decide) (pc' := 225) (by decide) ?_
        refine o_ireturnN K X81 .boolean at_225 rfl (by simp) (z' := (1 : Int32)) (by decide) ?_ (by decide) (by decide) (by decide)
        exact rfl
      · refine o_icmp_ne_t K X78 at_198 (by decide) (pc' := 226) (by decide) c198_79 ?_
        refine o_iload K X78 at_226 (pc' := 228) rfl rfl ?_
        refine o_iconst K X78 at_228 (pc' := 229) rfl (z := (3 : Int32)) rfl ?_
        by_cases c229_82 : (((i4.toUInt32 >>> ((2 : Int32) &&& 31).toUInt32).toInt32) &&& (3 : Int32)) = (3 : Int32)
        · refine o_icmp_ne_f K X78 at_229 (pc' := 232) rfl c229_82 ?_
          refine o_iloadN K X78 at_232 (pc' := 233) rfl rfl ?_
          refine o_static K X78 (y := (⟨"java/lang/Integer", "valueOf", "(I)Ljava/lang/Integer;"⟩ : MethodName)) (w84 hw) (w85 hw) (w86 hw) (w87 hw) (by decide) (rm_valueof l Z a0 hw i2 ca kc vc h78 q0 q1 q2 q3) all0 (by decide) rfl (argsL := [(.int i2)]) rfl (lenOf pd_law_5 rfl) (W := 0) rfl (by decide) (by decide) (by decide) at_233 (pc' := 236) rfl ?_
          intro v83 T83 h83 FX83 U83
          obtain ⟨r_83, rfl, u83_0, u83_1⟩ := U83
          have X83 := FX83 [] (Or.inl rfl) all0
          show oGoes pp ee bb ss Z T83 (mkF mm 236 #[.val (.int i0), .val (.int i1), .val (.int i2), .val (.int i3), .val (.int i4), .val (.int (oLen i0)), .val (.int (oC0 i0)), .val (.int (oC1 i0)), .val (.int (oLen i1)), .val (.int (oC0 i1)), .val (.int (oC1 i1)), .val (.int (if (i4 &&& (1 : Int32)) = (0 : Int32) then (0 : Int32) else (1 : Int32))), .val (.int (if (i4 &&& (2 : Int32)) = (0 : Int32) then (0 : Int32) else (1 : Int32))), .val (.int (oLen i0)), .val (.int (oC0 i0)), .val (.int (oC1 i0)), .val (.int (oLen i3)), .val (.int (oC0 i3)), .val (.int (oC1 i3)), .val (.int (((i4.toUInt32 >>> ((2 : Int32) &&& 31).toUInt32).toInt32) &&& (3 : Int32))), .val (.ref b75), .unset, .unset] [(.ref r_83)]) _ _ _ _
          refine o_astore K X83 at_236 (pc' := 238) rfl rfl (L' := #[.val (.int i0), .val (.int i1), .val (.int i2), .val (.int i3), .val (.int i4), .val (.int (oLen i0)), .val (.int (oC0 i0)), .val (.int (oC1 i0)), .val (.int (oLen i1)), .val (.int (oC0 i1)), .val (.int (oC1 i1)), .val (.int (if (i4 &&& (1 : Int32)) = (0 : Int32) then (0 : Int32) else (1 : Int32))), .val (.int (if (i4 &&& (2 : Int32)) = (0 : Int32) then (0 : Int32) else (1 : Int32))), .val (.int (oLen i0)), .val (.int (oC0 i0)), .val (.int (oC1 i0)), .val (.int (oLen i3)), .val (.int (oC0 i3)), .val (.int (oC1 i3)), .val (.int (((i4.toUInt32 >>> ((2 : Int32) &&& 31).toUInt32).toInt32) &&& (3 : Int32))), .val (.ref b75), .val (.ref r_83), .unset]) rfl ?_
          refine o_iload K X83 at_238 (pc' := 240) rfl rfl ?_
          refine o_iload K X83 at_240 (pc' := 242) rfl rfl ?_
          refine o_iload K X83 at_242 (pc' := 244) rfl rfl ?_
          refine o_static K X83 (y := (⟨"com/example/phone_conformance_check/phoneconformancecheck/capture/PropertyEqualsPinLaw", "mk", "(ICC)Ljava/lang/String;"⟩ : MethodName)) (w13 hw) (w14 hw) (w2 hw) (w15 hw) (by decide) (rm_mk l Z a0 hw (oLen i0) (oC0 i0) (oC1 i0) cs h83 q4 q5 (oChM _).2 (oChM _).2 (oNarMask _ (by decide)) (oNarMask _ (by decide))) all0 (by decide) rfl (argsL := [(.int (oLen i0)), (.int (oC0 i0)), (.int (oC1 i0))]) rfl (lenOf pd_law_2 rfl) (W := 0) rfl (by decide) (by decide) (by decide) at_244 (pc' := 247) rfl ?_
          intro v84 T84 h84 FX84 U84
          obtain ⟨r_84, vb_84, k_84, rfl, u84_0, u84_1, u84_2, u84_3, u84_4, u84_5⟩ := U84
          have G84_r : Z.heap.size ≤ r_84 := Nat.le_trans (Nat.le_trans E0.1 (Nat.le_trans (Nat.le_trans (Nat.le_trans (Nat.le_trans E75.1 u76_0.1) u77_0.1) u78_0.1) u83_0.1)) u84_1
          have X84 := FX84 [] (Or.inr rfl) all0
          show oGoes pp ee bb ss Z T84 (mkF mm 247 #[.val (.int i0), .val (.int i1), .val (.int i2), .val (.int i3), .val (.int i4), .val (.int (oLen i0)), .val (.int (oC0 i0)), .val (.int (oC1 i0)), .val (.int (oLen i1)), .val (.int (oC0 i1)), .val (.int (oC1 i1)), .val (.int (if (i4 &&& (1 : Int32)) = (0 : Int32) then (0 : Int32) else (1 : Int32))), .val (.int (if (i4 &&& (2 : Int32)) = (0 : Int32) then (0 : Int32) else (1 : Int32))), .val (.int (oLen i0)), .val (.int (oC0 i0)), .val (.int (oC1 i0)), .val (.int (oLen i3)), .val (.int (oC0 i3)), .val (.int (oC1 i3)), .val (.int (((i4.toUInt32 >>> ((2 : Int32) &&& 31).toUInt32).toInt32) &&& (3 : Int32))), .val (.ref b75), .val (.ref r_83), .unset] [(.ref r_84)]) _ _ _ _
          refine o_astore K X84 at_247 (pc' := 249) rfl rfl (L' := #[.val (.int i0), .val (.int i1), .val (.int i2), .val (.int i3), .val (.int i4), .val (.int (oLen i0)), .val (.int (oC0 i0)), .val (.int (oC1 i0)), .val (.int (oLen i1)), .val (.int (oC0 i1)), .val (.int (oC1 i1)), .val (.int (if (i4 &&& (1 : Int32)) = (0 : Int32) then (0 : Int32) else (1 : Int32))), .val (.int (if (i4 &&& (2 : Int32)) = (0 : Int32) then (0 : Int32) else (1 : Int32))), .val (.int (oLen i0)), .val (.int (oC0 i0)), .val (.int (oC1 i0)), .val (.int (oLen i3)), .val (.int (oC0 i3)), .val (.int (oC1 i3)), .val (.int (((i4.toUInt32 >>> ((2 : Int32) &&& 31).toUInt32).toInt32) &&& (3 : Int32))), .val (.ref b75), .val (.ref r_83), .val (.ref r_84)]) rfl ?_
          refine o_aload K X84 at_249 (pc' := 251) rfl rfl rfl ?_
          refine o_aload K X84 at_251 (pc' := 253) rfl rfl rfl ?_
          refine o_virtual K X84 (y := (⟨"com/example/phone_conformance_check/phoneconformancecheck/capture/Property", "equals", "(Ljava/lang/Object;)Z"⟩ : MethodName)) (z := (⟨"com/example/phone_conformance_check/phoneconformancecheck/capture/Property", "equals", "(Ljava/lang/Object;)Z"⟩ : MethodName)) (w56 hw) (w57 hw) (fun _ q => notFace_of_selects (args := #[]) (mvT q (w59 hw))) (w59 hw) (w58 hw) (w12 hw) (w60 hw) (by decide) ((u78_1.keep u83_0).keep u84_0) (rm_peqint l Z a0 hw b75 r_83 h84 (u83_1.keep u84_0)) all0 (by decide) rfl (argsL := [(.ref r_83)]) rfl (lenOf pd_law_4 rfl) (W := 0) rfl (by decide) (by decide) (by decide) at_253 (pc' := 256) rfl ?_
          intro v85 T85 h85 FX85 U85
          obtain ⟨rfl, rfl⟩ := U85
          have X85 := FX85 [] (Or.inl rfl) all0
          show oGoes pp ee bb ss Z T85 (mkF mm 256 #[.val (.int i0), .val (.int i1), .val (.int i2), .val (.int i3), .val (.int i4), .val (.int (oLen i0)), .val (.int (oC0 i0)), .val (.int (oC1 i0)), .val (.int (oLen i1)), .val (.int (oC0 i1)), .val (.int (oC1 i1)), .val (.int (if (i4 &&& (1 : Int32)) = (0 : Int32) then (0 : Int32) else (1 : Int32))), .val (.int (if (i4 &&& (2 : Int32)) = (0 : Int32) then (0 : Int32) else (1 : Int32))), .val (.int (oLen i0)), .val (.int (oC0 i0)), .val (.int (oC1 i0)), .val (.int (oLen i3)), .val (.int (oC0 i3)), .val (.int (oC1 i3)), .val (.int (((i4.toUInt32 >>> ((2 : Int32) &&& 31).toUInt32).toInt32) &&& (3 : Int32))), .val (.ref b75), .val (.ref r_83), .val (.ref r_84)] [(.int (0 : Int32))]) _ _ _ _
          refine o_if_ne_f K X85 at_256 (pc' := 259) rfl (by decide) ?_
          refine o_aload K X85 at_259 (pc' := 261) rfl rfl rfl ?_
          refine o_aload K X85 at_261 (pc' := 263) rfl rfl rfl ?_
          refine o_virtual K X85 (y := (⟨"com/example/phone_conformance_check/phoneconformancecheck/capture/Property", "equals", "(Ljava/lang/Object;)Z"⟩ : MethodName)) (z := (⟨"com/example/phone_conformance_check/phoneconformancecheck/capture/Property", "equals", "(Ljava/lang/Object;)Z"⟩ : MethodName)) (w56 hw) (w57 hw) (fun _ q => notFace_of_selects (args := #[]) (mvT q (w59 hw))) (w59 hw) (w58 hw) (w12 hw) (w60 hw) (by decide) ((u78_1.keep u83_0).keep u84_0) (rm_peqstr l Z a0 hw b75 r_84 h84 u84_2) all0 (by decide) rfl (argsL := [(.ref r_84)]) rfl (lenOf pd_law_4 rfl) (W := 0) rfl (by decide) (by decide) (by decide) at_263 (pc' := 266) rfl ?_
          intro v86 T86 h86 FX86 U86
          obtain ⟨rfl, rfl⟩ := U86
          have X86 := FX86 [] (Or.inl rfl) all0
          show oGoes pp ee bb ss Z T86 (mkF mm 266 #[.val (.int i0), .val (.int i1), .val (.int i2), .val (.int i3), .val (.int i4), .val (.int (oLen i0)), .val (.int (oC0 i0)), .val (.int (oC1 i0)), .val (.int (oLen i1)), .val (.int (oC0 i1)), .val (.int (oC1 i1)), .val (.int (if (i4 &&& (1 : Int32)) = (0 : Int32) then (0 : Int32) else (1 : Int32))), .val (.int (if (i4 &&& (2 : Int32)) = (0 : Int32) then (0 : Int32) else (1 : Int32))), .val (.int (oLen i0)), .val (.int (oC0 i0)), .val (.int (oC1 i0)), .val (.int (oLen i3)), .val (.int (oC0 i3)), .val (.int (oC1 i3)), .val (.int (((i4.toUInt32 >>> ((2 : Int32) &&& 31).toUInt32).toInt32) &&& (3 : Int32))), .val (.ref b75), .val (.ref r_83), .val (.ref r_84)] [(.int (0 : Int32))]) _ _ _ _
          refine o_if_ne_f K X86 at_266 (pc' := 269) rfl (by decide) ?_
          refine o_iconst K X86 at_269 (pc' := 270) rfl (z := (1 : Int32)) rfl ?_
          refine o_goto K X86 at_270 (by decide) (pc' := 274) (by decide) ?_
          refine o_ireturnN K X86 .boolean at_274 rfl (by simp) (z' := (1 : Int32)) (by decide) ?_ (by decide) (by decide) (by decide)
          exact rfl
        · refine o_icmp_ne_t K X78 at_229 (by decide) (pc' := 275) (by decide) c229_82 ?_
          refine o_new K X78 (w10 hw) (w11 hw) (w12 hw) at_275 (pc' := 278) rfl (by decide) (by decide) ?_
          intro T87 h87 b87 X87 g87 E87 A87 D87 G87
          have F87_name : Fld Z h87 b87 "com/example/phone_conformance_check/phoneconformancecheck/capture/Property" "name" "Ljava/lang/String;" .null := (D87 (Or.inr (w49 hw)) (ty := (.object "java/lang/String")) (by decide))
          have F87_value : Fld Z h87 b87 "com/example/phone_conformance_check/phoneconformancecheck/capture/Property" "value" "Ljava/lang/String;" .null := (D87 (Or.inr (w52 hw)) (ty := (.object "java/lang/String")) (by decide))
          refine o_dup K X87 at_278 (pc' := 279) rfl rfl ?_
          refine o_iload K X87 at_279 (pc' := 281) rfl rfl ?_
          refine o_iload K X87 at_281 (pc' := 283) rfl rfl ?_
          refine o_iload K X87 at_283 (pc' := 285) rfl rfl ?_
          refine o_static K X87 (y := (⟨"com/example/phone_conformance_check/phoneconformancecheck/capture/PropertyEqualsPinLaw", "mk", "(ICC)Ljava/lang/String;"⟩ : MethodName)) (w13 hw) (w14 hw) (w2 hw) (w15 hw) (by decide) (rm_mk l Z a0 hw (oLen i0) (oC0 i0) (oC1 i0) cs h87 q4 q5 (oChM _).2 (oChM _).2 (oNarMask _ (by decide)) (oNarMask _ (by decide))) all0 (by decide) rfl (argsL := [(.int (oLen i0)), (.int (oC0 i0)), (.int (oC1 i0))]) rfl (lenOf pd_law_2 rfl) (W := 2) rfl (by decide) (by decide) (by decide) at_285 (pc' := 288) rfl ?_
          intro v88 T88 h88 FX88 U88
          obtain ⟨r_88, vb_88, k_88, rfl, u88_0, u88_1, u88_2, u88_3, u88_4, u88_5⟩ := U88
          have G88_r : Z.heap.size ≤ r_88 := Nat.le_trans (Nat.le_trans E0.1 (Nat.le_trans (Nat.le_trans (Nat.le_trans (Nat.le_trans E75.1 u76_0.1) u77_0.1) u78_0.1) E87.1)) u88_1
          have X88 := FX88 [] (Or.inr rfl) all0
          show oGoes pp ee bb ss Z T88 (mkF mm 288 #[.val (.int i0), .val (.int i1), .val (.int i2), .val (.int i3), .val (.int i4), .val (.int (oLen i0)), .val (.int (oC0 i0)), .val (.int (oC1 i0)), .val (.int (oLen i1)), .val (.int (oC0 i1)), .val (.int (oC1 i1)), .val (.int (if (i4 &&& (1 : Int32)) = (0 : Int32) then (0 : Int32) else (1 : Int32))), .val (.int (if (i4 &&& (2 : Int32)) = (0 : Int32) then (0 : Int32) else (1 : Int32))), .val (.int (oLen i0)), .val (.int (oC0 i0)), .val (.int (oC1 i0)), .val (.int (oLen i3)), .val (.int (oC0 i3)), .val (.int (oC1 i3)), .val (.int (((i4.toUInt32 >>> ((2 : Int32) &&& 31).toUInt32).toInt32) &&& (3 : Int32))), .val (.ref b75), .unset, .unset] [(.ref r_88), (.ref b87), (.ref b87)]) _ _ _ _
          refine o_iload K X88 at_288 (pc' := 290) rfl rfl ?_
          refine o_iload K X88 at_290 (pc' := 292) rfl rfl ?_
          refine o_iload K X88 at_292 (pc' := 294) rfl rfl ?_
          refine o_static K X88 (y := (⟨"com/example/phone_conformance_check/phoneconformancecheck/capture/PropertyEqualsPinLaw", "mk", "(ICC)Ljava/lang/String;"⟩ : MethodName)) (w13 hw) (w14 hw) (w2 hw) (w15 hw) (by decide) (rm_mk l Z a0 hw (oLen i3) (oC0 i3) (oC1 i3) cs h88 q4 q5 (oChM _).2 (oChM _).2 (oNarMask _ (by decide)) (oNarMask _ (by decide))) all0 (by decide) rfl (argsL := [(.int (oLen i3)), (.int (oC0 i3)), (.int (oC1 i3))]) rfl (lenOf pd_law_2 rfl) (W := 3) rfl (by decide) (by decide) (by decide) at_294 (pc' := 297) rfl ?_
          intro v89 T89 h89 FX89 U89
          obtain ⟨r_89, vb_89, k_89, rfl, u89_0, u89_1, u89_2, u89_3, u89_4, u89_5⟩ := U89
          have G89_r : Z.heap.size ≤ r_89 := Nat.le_trans (Nat.le_trans E0.1 (Nat.le_trans (Nat.le_trans (Nat.le_trans (Nat.le_trans (Nat.le_trans E75.1 u76_0.1) u77_0.1) u78_0.1) E87.1) u88_0.1)) u89_1
          have X89 := FX89 [] (Or.inr rfl) all0
          show oGoes pp ee bb ss Z T89 (mkF mm 297 #[.val (.int i0), .val (.int i1), .val (.int i2), .val (.int i3), .val (.int i4), .val (.int (oLen i0)), .val (.int (oC0 i0)), .val (.int (oC1 i0)), .val (.int (oLen i1)), .val (.int (oC0 i1)), .val (.int (oC1 i1)), .val (.int (if (i4 &&& (1 : Int32)) = (0 : Int32) then (0 : Int32) else (1 : Int32))), .val (.int (if (i4 &&& (2 : Int32)) = (0 : Int32) then (0 : Int32) else (1 : Int32))), .val (.int (oLen i0)), .val (.int (oC0 i0)), .val (.int (oC1 i0)), .val (.int (oLen i3)), .val (.int (oC0 i3)), .val (.int (oC1 i3)), .val (.int (((i4.toUInt32 >>> ((2 : Int32) &&& 31).toUInt32).toInt32) &&& (3 : Int32))), .val (.ref b75), .unset, .unset] [(.ref r_89), (.ref r_88), (.ref b87), (.ref b87)]) _ _ _ _
          refine o_special K X89 (y := (⟨"com/example/phone_conformance_check/phoneconformancecheck/capture/Property", "<init>", "(Ljava/lang/String;Ljava/lang/String;)V"⟩ : MethodName)) rfl (w38 hw) (w39 hw) (w12 hw) (w40 hw) (by decide) (rm_pinit l Z a0 hw b87 r_88 r_89 h89 ((A87.keep u88_0).keep u89_0) ((F87_name.keep u88_0 nin0).keep u89_0 nin0) ((F87_value.keep u88_0 nin0).keep u89_0 nin0) G87 (u88_2.keep u89_0) u89_2) (allS (List.mem_of_getElem? (i := 0) rfl) all0) (by decide) rfl (argsL := [(.ref r_88), (.ref r_89)]) rfl (lenOf pd_law_3 rfl) (W := 1) rfl (by decide) (by decide) (by decide) at_297 (pc' := 300) rfl ?_
          intro v90 T90 h90 FX90 U90
          obtain ⟨rfl, u90_0, u90_1, u90_2, u90_3⟩ := U90
          have X90 := FX90 [] (Or.inr rfl) all0
          show oGoes pp ee bb ss Z T90 (mkF mm 300 #[.val (.int i0), .val (.int i1), .val (.int i2), .val (.int i3), .val (.int i4), .val (.int (oLen i0)), .val (.int (oC0 i0)), .val (.int (oC1 i0)), .val (.int (oLen i1)), .val (.int (oC0 i1)), .val (.int (oC1 i1)), .val (.int (if (i4 &&& (1 : Int32)) = (0 : Int32) then (0 : Int32) else (1 : Int32))), .val (.int (if (i4 &&& (2 : Int32)) = (0 : Int32) then (0 : Int32) else (1 : Int32))), .val (.int (oLen i0)), .val (.int (oC0 i0)), .val (.int (oC1 i0)), .val (.int (oLen i3)), .val (.int (oC0 i3)), .val (.int (oC1 i3)), .val (.int (((i4.toUInt32 >>> ((2 : Int32) &&& 31).toUInt32).toInt32) &&& (3 : Int32))), .val (.ref b75), .unset, .unset] [(.ref b87)]) _ _ _ _
          refine o_astore K X90 at_300 (pc' := 302) rfl rfl (L' := #[.val (.int i0), .val (.int i1), .val (.int i2), .val (.int i3), .val (.int i4), .val (.int (oLen i0)), .val (.int (oC0 i0)), .val (.int (oC1 i0)), .val (.int (oLen i1)), .val (.int (oC0 i1)), .val (.int (oC1 i1)), .val (.int (if (i4 &&& (1 : Int32)) = (0 : Int32) then (0 : Int32) else (1 : Int32))), .val (.int (if (i4 &&& (2 : Int32)) = (0 : Int32) then (0 : Int32) else (1 : Int32))), .val (.int (oLen i0)), .val (.int (oC0 i0)), .val (.int (oC1 i0)), .val (.int (oLen i3)), .val (.int (oC0 i3)), .val (.int (oC1 i3)), .val (.int (((i4.toUInt32 >>> ((2 : Int32) &&& 31).toUInt32).toInt32) &&& (3 : Int32))), .val (.ref b75), .val (.ref b87), .unset]) rfl ?_
          refine o_iload K X90 at_302 (pc' := 304) rfl rfl ?_
          refine o_iload K X90 at_304 (pc' := 306) rfl rfl ?_
          refine o_iload K X90 at_306 (pc' := 308) rfl rfl ?_
          refine o_iload K X90 at_308 (pc' := 310) rfl rfl ?_
          refine o_iload K X90 at_310 (pc' := 312) rfl rfl ?_
          refine o_iload K X90 at_312 (pc' := 314) rfl rfl ?_
          refine o_static K X90 (y := (⟨"com/example/phone_conformance_check/phoneconformancecheck/capture/PropertyEqualsPinLaw", "same", "(ICCICC)Z"⟩ : MethodName)) (w53 hw) (w54 hw) (w2 hw) (w55 hw) (by decide) (rm_same l Z a0 hw (oLen i0) (oC0 i0) (oC1 i0) (oLen i0) (oC0 i0) (oC1 i0) h90) all0 (by decide) rfl (argsL := [(.int (oLen i0)), (.int (oC0 i0)), (.int (oC1 i0)), (.int (oLen i0)), (.int (oC0 i0)), (.int (oC1 i0))]) rfl (lenOf pd_law_6 rfl) (W := 0) rfl (by decide) (by decide) (by decide) at_314 (pc' := 317) rfl ?_
          intro v91 T91 h91 FX91 U91
          obtain ⟨rfl, rfl⟩ := U91
          have X91 := FX91 [] (Or.inl rfl) all0
          show oGoes pp ee bb ss Z T91 (mkF mm 317 #[.val (.int i0), .val (.int i1), .val (.int i2), .val (.int i3), .val (.int i4), .val (.int (oLen i0)), .val (.int (oC0 i0)), .val (.int (oC1 i0)), .val (.int (oLen i1)), .val (.int (oC0 i1)), .val (.int (oC1 i1)), .val (.int (if (i4 &&& (1 : Int32)) = (0 : Int32) then (0 : Int32) else (1 : Int32))), .val (.int (if (i4 &&& (2 : Int32)) = (0 : Int32) then (0 : Int32) else (1 : Int32))), .val (.int (oLen i0)), .val (.int (oC0 i0)), .val (.int (oC1 i0)), .val (.int (oLen i3)), .val (.int (oC0 i3)), .val (.int (oC1 i3)), .val (.int (((i4.toUInt32 >>> ((2 : Int32) &&& 31).toUInt32).toInt32) &&& (3 : Int32))), .val (.ref b75), .val (.ref b87), .unset] [(.int (oSm (oLen i0) (oC0 i0) (oC1 i0) (oLen i0) (oC0 i0) (oC1 i0)))]) _ _ _ _
          by_cases c317_92 : (oSm (oLen i0) (oC0 i0) (oC1 i0) (oLen i0) (oC0 i0) (oC1 i0)) = (0 : Int32)
          · refine o_if_eq_t K X91 at_317 (by decide) (pc' := 342) (by decide) c317_92 ?_
            refine o_iconst K X91 at_342 (pc' := 343) rfl (z := (0 : Int32)) rfl ?_
            refine o_istore K X91 at_343 (pc' := 345) rfl (L' := #[.val (.int i0), .val (.int i1), .val (.int i2), .val (.int i3), .val (.int i4), .val (.int (oLen i0)), .val (.int (oC0 i0)), .val (.int (oC1 i0)), .val (.int (oLen i1)), .val (.int (oC0 i1)), .val (.int (oC1 i1)), .val (.int (if (i4 &&& (1 : Int32)) = (0 : Int32) then (0 : Int32) else (1 : Int32))), .val (.int (if (i4 &&& (2 : Int32)) = (0 : Int32) then (0 : Int32) else (1 : Int32))), .val (.int (oLen i0)), .val (.int (oC0 i0)), .val (.int (oC1 i0)), .val (.int (oLen i3)), .val (.int (oC0 i3)), .val (.int (oC1 i3)), .val (.int (((i4.toUInt32 >>> ((2 : Int32) &&& 31).toUInt32).toInt32) &&& (3 : Int32))), .val (.ref b75), .val (.ref b87), .val (.int (0 : Int32))]) rfl ?_
            refine o_aload K X91 at_345 (pc' := 347) rfl rfl rfl ?_
            refine o_aload K X91 at_347 (pc' := 349) rfl rfl rfl ?_
            refine o_virtual K X91 (y := (⟨"com/example/phone_conformance_check/phoneconformancecheck/capture/Property", "equals", "(Ljava/lang/Object;)Z"⟩ : MethodName)) (z := (⟨"com/example/phone_conformance_check/phoneconformancecheck/capture/Property", "equals", "(Ljava/lang/Object;)Z"⟩ : MethodName)) (w56 hw) (w57 hw) (fun _ q => notFace_of_selects (args := #[]) (mvT q (w59 hw))) (w59 hw) (w58 hw) (w12 hw) (w60 hw) (by decide) ((((u78_1.ext E87).keep u88_0).keep u89_0).keep u90_0) (rm_peq l Z a0 hw b75 b87 r_76 vb_76 r_77 vb_77 r_88 vb_88 r_89 vb_89 k_76 k_77 k_88 k_89 (oLen i0) (oC0 i0) (oC1 i0) (oLen i0) (oC0 i0) (oC1 i0) (oLen i1) (oC0 i1) (oC1 i1) (oLen i3) (oC0 i3) (oC1 i3) cs h90 ((((u78_1.ext E87).keep u88_0).keep u89_0).keep u90_0) ((((u78_2.ext E87).keep u88_0 nin0).keep u89_0 nin0).keep u90_0 (ninS (Nat.ne_of_lt (Nat.lt_of_lt_of_le (Nat.lt_of_lt_of_le A75.lt (Nat.le_trans (Nat.le_trans u76_0.1 u77_0.1) u78_0.1)) (Nat.le_of_eq g87.symm))) nin0)) ((((u78_3.ext E87).keep u88_0 nin0).keep u89_0 nin0).keep u90_0 (ninS (Nat.ne_of_lt (Nat.lt_of_lt_of_le (Nat.lt_of_lt_of_le A75.lt (Nat.le_trans (Nat.le_trans u76_0.1 u77_0.1) u78_0.1)) (Nat.le_of_eq g87.symm))) nin0)) u90_1 u90_2 u90_3 ((((((u76_2.keep u77_0).keep u78_0).ext E87).keep u88_0).keep u89_0).keep u90_0) ((((((u76_3.keep u77_0 nin0).keep u78_0 (ninS (Ne.symm (Nat.ne_of_lt (Nat.lt_of_lt_of_le A75.lt u76_1))) nin0)).ext E87).keep u88_0 nin0).keep u89_0 nin0).keep u90_0 (ninS (Nat.ne_of_lt (Nat.lt_of_lt_of_le (Nat.lt_of_lt_of_le u76_2.lt (Nat.le_trans u77_0.1 u78_0.1)) (Nat.le_of_eq g87.symm))) nin0)) ((((((u76_4.keep u77_0 nin0).keep u78_0 (ninS (Ne.symm (Nat.ne_of_lt (Nat.lt_of_lt_of_le A75.lt u76_1))) nin0)).ext E87).keep u88_0 nin0).keep u89_0 nin0).keep u90_0 (ninS (Nat.ne_of_lt (Nat.lt_of_lt_of_le (Nat.lt_of_lt_of_le u76_2.lt (Nat.le_trans u77_0.1 u78_0.1)) (Nat.le_of_eq g87.symm))) nin0)) ((((((u76_5.keep u77_0 nin0).keep u78_0 (ninS (oNeArr (A75.keep u76_0) (w11 hw) u76_5) nin0)).ext E87).keep u88_0 nin0).keep u89_0 nin0).keep u90_0 (ninS (Nat.ne_of_lt (Nat.lt_of_lt_of_le (Nat.lt_of_lt_of_le u76_5.lt (Nat.le_trans u77_0.1 u78_0.1)) (Nat.le_of_eq g87.symm))) nin0)) (((((u77_2.keep u78_0).ext E87).keep u88_0).keep u89_0).keep u90_0) (((((u77_3.keep u78_0 (ninS (Ne.symm (Nat.ne_of_lt (Nat.lt_of_lt_of_le (Nat.lt_of_lt_of_le A75.lt u76_0.1) u77_1))) nin0)).ext E87).keep u88_0 nin0).keep u89_0 nin0).keep u90_0 (ninS (Nat.ne_of_lt (Nat.lt_of_lt_of_le (Nat.lt_of_lt_of_le u77_2.lt u78_0.1) (Nat.le_of_eq g87.symm))) nin0)) (((((u77_4.keep u78_0 (ninS (Ne.symm (Nat.ne_of_lt (Nat.lt_of_lt_of_le (Nat.lt_of_lt_of_le A75.lt u76_0.1) u77_1))) nin0)).ext E87).keep u88_0 nin0).keep u89_0 nin0).keep u90_0 (ninS (Nat.ne_of_lt (Nat.lt_of_lt_of_le (Nat.lt_of_lt_of_le u77_2.lt u78_0.1) (Nat.le_of_eq g87.symm))) nin0)) (((((u77_5.keep u78_0 (ninS (oNeArr ((A75.keep u76_0).keep u77_0) (w11 hw) u77_5) nin0)).ext E87).keep u88_0 nin0).keep u89_0 nin0).keep u90_0 (ninS (Nat.ne_of_lt (Nat.lt_of_lt_of_le (Nat.lt_of_lt_of_le u77_5.lt u78_0.1) (Nat.le_of_eq g87.symm))) nin0)) ((u88_2.keep u89_0).keep u90_0) ((u88_3.keep u89_0 nin0).keep u90_0 (ninS (Ne.symm (Nat.ne_of_lt (Nat.lt_of_lt_of_le A87.lt u88_1))) nin0)) ((u88_4.keep u89_0 nin0).keep u90_0 (ninS (Ne.symm (Nat.ne_of_lt (Nat.lt_of_lt_of_le A87.lt u88_1))) nin0)) ((u88_5.keep u89_0 nin0).keep u90_0 (ninS (oNeArr (A87.keep u88_0) (w11 hw) u88_5) nin0)) (u89_2.keep u90_0) (u89_3.keep u90_0 (ninS (Ne.symm (Nat.ne_of_lt (Nat.lt_of_lt_of_le (Nat.lt_of_lt_of_le A87.lt u88_0.1) u89_1))) nin0)) (u89_4.keep u90_0 (ninS (Ne.symm (Nat.ne_of_lt (Nat.lt_of_lt_of_le (Nat.lt_of_lt_of_le A87.lt u88_0.1) u89_1))) nin0)) (u89_5.keep u90_0 (ninS (oNeArr ((A87.keep u88_0).keep u89_0) (w11 hw) u89_5) nin0)) (Nat.ne_of_lt (Nat.lt_of_lt_of_le (Nat.lt_of_lt_of_le u76_2.lt (Nat.le_trans (Nat.le_trans u77_0.1 u78_0.1) E87.1)) u88_1)) (Nat.ne_of_lt (Nat.lt_of_lt_of_le (Nat.lt_of_lt_of_le u77_2.lt (Nat.le_trans (Nat.le_trans u78_0.1 E87.1) u88_0.1)) u89_1)) (oChM _) (oChM _) (oChM _) (oChM _) (oLenL _) (oLenL _) (oChM _) (oChM _) (oChM _) (oChM _) (oLenL _) (oLenL _) q4 q5) all0 (by decide) rfl (argsL := [(.ref b87)]) rfl (lenOf pd_law_4 rfl) (W := 0) rfl (by decide) (by decide) (by decide) at_349 (pc' := 352) rfl ?_
            intro v93 T93 h93 FX93 U93
            obtain ⟨rfl, rfl⟩ := U93
            have X93 := FX93 [] (Or.inl rfl) all0
            show oGoes pp ee bb ss Z T93 (mkF mm 352 #[.val (.int i0), .val (.int i1), .val (.int i2), .val (.int i3), .val (.int i4), .val (.int (oLen i0)), .val (.int (oC0 i0)), .val (.int (oC1 i0)), .val (.int (oLen i1)), .val (.int (oC0 i1)), .val (.int (oC1 i1)), .val (.int (if (i4 &&& (1 : Int32)) = (0 : Int32) then (0 : Int32) else (1 : Int32))), .val (.int (if (i4 &&& (2 : Int32)) = (0 : Int32) then (0 : Int32) else (1 : Int32))), .val (.int (oLen i0)), .val (.int (oC0 i0)), .val (.int (oC1 i0)), .val (.int (oLen i3)), .val (.int (oC0 i3)), .val (.int (oC1 i3)), .val (.int (((i4.toUInt32 >>> ((2 : Int32) &&& 31).toUInt32).toInt32) &&& (3 : Int32))), .val (.ref b75), .val (.ref b87), .val (.int (0 : Int32))] [(.int (oSm2 (oSm (oLen i0) (oC0 i0) (oC1 i0) (oLen i0) (oC0 i0) (oC1 i0)) (oSm (oLen i1) (oC0 i1) (oC1 i1) (oLen i3) (oC0 i3) (oC1 i3))))]) _ _ _ _
            refine o_iload K X93 at_352 (pc' := 354) rfl rfl ?_
            refine o_icmp_ne_f K X93 at_354 (pc' := 357) rfl (by have e0 := oSmFp c317_92; simp [oSm2, c317_92, e0]) ?_
            refine o_aload K X93 at_357 (pc' := 359) rfl rfl rfl ?_
            refine o_aload K X93 at_359 (pc' := 361) rfl rfl rfl ?_
            refine o_virtual K X93 (y := (⟨"com/example/phone_conformance_check/phoneconformancecheck/capture/Property", "equals", "(Ljava/lang/Object;)Z"⟩ : MethodName)) (z := (⟨"com/example/phone_conformance_check/phoneconformancecheck/capture/Property", "equals", "(Ljava/lang/Object;)Z"⟩ : MethodName)) (w56 hw) (w57 hw) (fun _ q => notFace_of_selects (args := #[]) (mvT q (w59 hw))) (w59 hw) (w58 hw) (w12 hw) (w60 hw) (by decide) u90_1 (rm_peq l Z a0 hw b87 b75 r_88 vb_88 r_89 vb_89 r_76 vb_76 r_77 vb_77 k_88 k_89 k_76 k_77 (oLen i0) (oC0 i0) (oC1 i0) (oLen i0) (oC0 i0) (oC1 i0) (oLen i3) (oC0 i3) (oC1 i3) (oLen i1) (oC0 i1) (oC1 i1) cs h90 u90_1 u90_2 u90_3 ((((u78_1.ext E87).keep u88_0).keep u89_0).keep u90_0) ((((u78_2.ext E87).keep u88_0 nin0).keep u89_0 nin0).keep u90_0 (ninS (Nat.ne_of_lt (Nat.lt_of_lt_of_le (Nat.lt_of_lt_of_le A75.lt (Nat.le_trans (Nat.le_trans u76_0.1 u77_0.1) u78_0.1)) (Nat.le_of_eq g87.symm))) nin0)) ((((u78_3.ext E87).keep u88_0 nin0).keep u89_0 nin0).keep u90_0 (ninS (Nat.ne_of_lt (Nat.lt_of_lt_of_le (Nat.lt_of_lt_of_le A75.lt (Nat.le_trans (Nat.le_trans u76_0.1 u77_0.1) u78_0.1)) (Nat.le_of_eq g87.symm))) nin0)) ((u88_2.keep u89_0).keep u90_0) ((u88_3.keep u89_0 nin0).keep u90_0 (ninS (Ne.symm (Nat.ne_of_lt (Nat.lt_of_lt_of_le A87.lt u88_1))) nin0)) ((u88_4.keep u89_0 nin0).keep u90_0 (ninS (Ne.symm (Nat.ne_of_lt (Nat.lt_of_lt_of_le A87.lt u88_1))) nin0)) ((u88_5.keep u89_0 nin0).keep u90_0 (ninS (oNeArr (A87.keep u88_0) (w11 hw) u88_5) nin0)) (u89_2.keep u90_0) (u89_3.keep u90_0 (ninS (Ne.symm (Nat.ne_of_lt (Nat.lt_of_lt_of_le (Nat.lt_of_lt_of_le A87.lt u88_0.1) u89_1))) nin0)) (u89_4.keep u90_0 (ninS (Ne.symm (Nat.ne_of_lt (Nat.lt_of_lt_of_le (Nat.lt_of_lt_of_le A87.lt u88_0.1) u89_1))) nin0)) (u89_5.keep u90_0 (ninS (oNeArr ((A87.keep u88_0).keep u89_0) (w11 hw) u89_5) nin0)) ((((((u76_2.keep u77_0).keep u78_0).ext E87).keep u88_0).keep u89_0).keep u90_0) ((((((u76_3.keep u77_0 nin0).keep u78_0 (ninS (Ne.symm (Nat.ne_of_lt (Nat.lt_of_lt_of_le A75.lt u76_1))) nin0)).ext E87).keep u88_0 nin0).keep u89_0 nin0).keep u90_0 (ninS (Nat.ne_of_lt (Nat.lt_of_lt_of_le (Nat.lt_of_lt_of_le u76_2.lt (Nat.le_trans u77_0.1 u78_0.1)) (Nat.le_of_eq g87.symm))) nin0)) ((((((u76_4.keep u77_0 nin0).keep u78_0 (ninS (Ne.symm (Nat.ne_of_lt (Nat.lt_of_lt_of_le A75.lt u76_1))) nin0)).ext E87).keep u88_0 nin0).keep u89_0 nin0).keep u90_0 (ninS (Nat.ne_of_lt (Nat.lt_of_lt_of_le (Nat.lt_of_lt_of_le u76_2.lt (Nat.le_trans u77_0.1 u78_0.1)) (Nat.le_of_eq g87.symm))) nin0)) ((((((u76_5.keep u77_0 nin0).keep u78_0 (ninS (oNeArr (A75.keep u76_0) (w11 hw) u76_5) nin0)).ext E87).keep u88_0 nin0).keep u89_0 nin0).keep u90_0 (ninS (Nat.ne_of_lt (Nat.lt_of_lt_of_le (Nat.lt_of_lt_of_le u76_5.lt (Nat.le_trans u77_0.1 u78_0.1)) (Nat.le_of_eq g87.symm))) nin0)) (((((u77_2.keep u78_0).ext E87).keep u88_0).keep u89_0).keep u90_0) (((((u77_3.keep u78_0 (ninS (Ne.symm (Nat.ne_of_lt (Nat.lt_of_lt_of_le (Nat.lt_of_lt_of_le A75.lt u76_0.1) u77_1))) nin0)).ext E87).keep u88_0 nin0).keep u89_0 nin0).keep u90_0 (ninS (Nat.ne_of_lt (Nat.lt_of_lt_of_le (Nat.lt_of_lt_of_le u77_2.lt u78_0.1) (Nat.le_of_eq g87.symm))) nin0)) (((((u77_4.keep u78_0 (ninS (Ne.symm (Nat.ne_of_lt (Nat.lt_of_lt_of_le (Nat.lt_of_lt_of_le A75.lt u76_0.1) u77_1))) nin0)).ext E87).keep u88_0 nin0).keep u89_0 nin0).keep u90_0 (ninS (Nat.ne_of_lt (Nat.lt_of_lt_of_le (Nat.lt_of_lt_of_le u77_2.lt u78_0.1) (Nat.le_of_eq g87.symm))) nin0)) (((((u77_5.keep u78_0 (ninS (oNeArr ((A75.keep u76_0).keep u77_0) (w11 hw) u77_5) nin0)).ext E87).keep u88_0 nin0).keep u89_0 nin0).keep u90_0 (ninS (Nat.ne_of_lt (Nat.lt_of_lt_of_le (Nat.lt_of_lt_of_le u77_5.lt u78_0.1) (Nat.le_of_eq g87.symm))) nin0)) (Ne.symm (Nat.ne_of_lt (Nat.lt_of_lt_of_le (Nat.lt_of_lt_of_le u76_2.lt (Nat.le_trans (Nat.le_trans u77_0.1 u78_0.1) E87.1)) u88_1))) (Ne.symm (Nat.ne_of_lt (Nat.lt_of_lt_of_le (Nat.lt_of_lt_of_le u77_2.lt (Nat.le_trans (Nat.le_trans u78_0.1 E87.1) u88_0.1)) u89_1))) (oChM _) (oChM _) (oChM _) (oChM _) (oLenL _) (oLenL _) (oChM _) (oChM _) (oChM _) (oChM _) (oLenL _) (oLenL _) q4 q5) all0 (by decide) rfl (argsL := [(.ref b75)]) rfl (lenOf pd_law_4 rfl) (W := 0) rfl (by decide) (by decide) (by decide) at_361 (pc' := 364) rfl ?_
            intro v94 T94 h94 FX94 U94
            obtain ⟨rfl, rfl⟩ := U94
            have X94 := FX94 [] (Or.inl rfl) all0
            show oGoes pp ee bb ss Z T94 (mkF mm 364 #[.val (.int i0), .val (.int i1), .val (.int i2), .val (.int i3), .val (.int i4), .val (.int (oLen i0)), .val (.int (oC0 i0)), .val (.int (oC1 i0)), .val (.int (oLen i1)), .val (.int (oC0 i1)), .val (.int (oC1 i1)), .val (.int (if (i4 &&& (1 : Int32)) = (0 : Int32) then (0 : Int32) else (1 : Int32))), .val (.int (if (i4 &&& (2 : Int32)) = (0 : Int32) then (0 : Int32) else (1 : Int32))), .val (.int (oLen i0)), .val (.int (oC0 i0)), .val (.int (oC1 i0)), .val (.int (oLen i3)), .val (.int (oC0 i3)), .val (.int (oC1 i3)), .val (.int (((i4.toUInt32 >>> ((2 : Int32) &&& 31).toUInt32).toInt32) &&& (3 : Int32))), .val (.ref b75), .val (.ref b87), .val (.int (0 : Int32))] [(.int (oSm2 (oSm (oLen i0) (oC0 i0) (oC1 i0) (oLen i0) (oC0 i0) (oC1 i0)) (oSm (oLen i3) (oC0 i3) (oC1 i3) (oLen i1) (oC0 i1) (oC1 i1))))]) _ _ _ _
            refine o_iload K X94 at_364 (pc' := 366) rfl rfl ?_
            refine o_icmp_ne_f K X94 at_366 (pc' := 369) rfl (by have e0 := oSmFp c317_92; simp [oSm2, c317_92, e0]) ?_
            refine o_iconst K X94 at_369 (pc' := 370) rfl (z := (1 : Int32)) rfl ?_
            refine o_goto K X94 at_370 (by decide) (pc' := 374) (by decide) ?_
            refine o_ireturnN K X94 .boolean at_374 rfl (by simp) (z' := (1 : Int32)) (by decide) ?_ (by decide) (by decide) (by decide)
            exact rfl
          · refine o_if_eq_f K X91 at_317 (pc' := 320) rfl c317_92 ?_
            refine o_iload K X91 at_320 (pc' := 322) rfl rfl ?_
            refine o_iload K X91 at_322 (pc' := 324) rfl rfl ?_
            refine o_iload K X91 at_324 (pc' := 326) rfl rfl ?_
            refine o_iload K X91 at_326 (pc' := 328) rfl rfl ?_
            refine o_iload K X91 at_328 (pc' := 330) rfl rfl ?_
            refine o_iload K X91 at_330 (pc' := 332) rfl rfl ?_
            refine o_static K X91 (y := (⟨"com/example/phone_conformance_check/phoneconformancecheck/capture/PropertyEqualsPinLaw", "same", "(ICCICC)Z"⟩ : MethodName)) (w53 hw) (w54 hw) (w2 hw) (w55 hw) (by decide) (rm_same l Z a0 hw (oLen i1) (oC0 i1) (oC1 i1) (oLen i3) (oC0 i3) (oC1 i3) h90) all0 (by decide) rfl (argsL := [(.int (oLen i1)), (.int (oC0 i1)), (.int (oC1 i1)), (.int (oLen i3)), (.int (oC0 i3)), (.int (oC1 i3))]) rfl (lenOf pd_law_6 rfl) (W := 0) rfl (by decide) (by decide) (by decide) at_332 (pc' := 335) rfl ?_
            intro v95 T95 h95 FX95 U95
            obtain ⟨rfl, rfl⟩ := U95
            have X95 := FX95 [] (Or.inl rfl) all0
            show oGoes pp ee bb ss Z T95 (mkF mm 335 #[.val (.int i0), .val (.int i1), .val (.int i2), .val (.int i3), .val (.int i4), .val (.int (oLen i0)), .val (.int (oC0 i0)), .val (.int (oC1 i0)), .val (.int (oLen i1)), .val (.int (oC0 i1)), .val (.int (oC1 i1)), .val (.int (if (i4 &&& (1 : Int32)) = (0 : Int32) then (0 : Int32) else (1 : Int32))), .val (.int (if (i4 &&& (2 : Int32)) = (0 : Int32) then (0 : Int32) else (1 : Int32))), .val (.int (oLen i0)), .val (.int (oC0 i0)), .val (.int (oC1 i0)), .val (.int (oLen i3)), .val (.int (oC0 i3)), .val (.int (oC1 i3)), .val (.int (((i4.toUInt32 >>> ((2 : Int32) &&& 31).toUInt32).toInt32) &&& (3 : Int32))), .val (.ref b75), .val (.ref b87), .unset] [(.int (oSm (oLen i1) (oC0 i1) (oC1 i1) (oLen i3) (oC0 i3) (oC1 i3)))]) _ _ _ _
            by_cases c335_96 : (oSm (oLen i1) (oC0 i1) (oC1 i1) (oLen i3) (oC0 i3) (oC1 i3)) = (0 : Int32)
            · refine o_if_eq_t K X95 at_335 (by decide) (pc' := 342) (by decide) c335_96 ?_
              refine o_iconst K X95 at_342 (pc' := 343) rfl (z := (0 : Int32)) rfl ?_
              refine o_istore K X95 at_343 (pc' := 345) rfl (L' := #[.val (.int i0), .val (.int i1), .val (.int i2), .val (.int i3), .val (.int i4), .val (.int (oLen i0)), .val (.int (oC0 i0)), .val (.int (oC1 i0)), .val (.int (oLen i1)), .val (.int (oC0 i1)), .val (.int (oC1 i1)), .val (.int (if (i4 &&& (1 : Int32)) = (0 : Int32) then (0 : Int32) else (1 : Int32))), .val (.int (if (i4 &&& (2 : Int32)) = (0 : Int32) then (0 : Int32) else (1 : Int32))), .val (.int (oLen i0)), .val (.int (oC0 i0)), .val (.int (oC1 i0)), .val (.int (oLen i3)), .val (.int (oC0 i3)), .val (.int (oC1 i3)), .val (.int (((i4.toUInt32 >>> ((2 : Int32) &&& 31).toUInt32).toInt32) &&& (3 : Int32))), .val (.ref b75), .val (.ref b87), .val (.int (0 : Int32))]) rfl ?_
              refine o_aload K X95 at_345 (pc' := 347) rfl rfl rfl ?_
              refine o_aload K X95 at_347 (pc' := 349) rfl rfl rfl ?_
              refine o_virtual K X95 (y := (⟨"com/example/phone_conformance_check/phoneconformancecheck/capture/Property", "equals", "(Ljava/lang/Object;)Z"⟩ : MethodName)) (z := (⟨"com/example/phone_conformance_check/phoneconformancecheck/capture/Property", "equals", "(Ljava/lang/Object;)Z"⟩ : MethodName)) (w56 hw) (w57 hw) (fun _ q => notFace_of_selects (args := #[]) (mvT q (w59 hw))) (w59 hw) (w58 hw) (w12 hw) (w60 hw) (by decide) ((((u78_1.ext E87).keep u88_0).keep u89_0).keep u90_0) (rm_peq l Z a0 hw b75 b87 r_76 vb_76 r_77 vb_77 r_88 vb_88 r_89 vb_89 k_76 k_77 k_88 k_89 (oLen i0) (oC0 i0) (oC1 i0) (oLen i0) (oC0 i0) (oC1 i0) (oLen i1) (oC0 i1) (oC1 i1) (oLen i3) (oC0 i3) (oC1 i3) cs h90 ((((u78_1.ext E87).keep u88_0).keep u89_0).keep u90_0) ((((u78_2.ext E87).keep u88_0 nin0).keep u89_0 nin0).keep u90_0 (ninS (Nat.ne_of_lt (Nat.lt_of_lt_of_le (Nat.lt_of_lt_of_le A75.lt (Nat.le_trans (Nat.le_trans u76_0.1 u77_0.1) u78_0.1)) (Nat.le_of_eq g87.symm))) nin0)) ((((u78_3.ext E87).keep u88_0 nin0).keep u89_0 nin0).keep u90_0 (ninS (Nat.ne_of_lt (Nat.lt_of_lt_of_le (Nat.lt_of_lt_of_le A75.lt (Nat.le_trans (Nat.le_trans u76_0.1 u77_0.1) u78_0.1)) (Nat.le_of_eq g87.symm))) nin0)) u90_1 u90_2 u90_3 ((((((u76_2.keep u77_0).keep u78_0).ext E87).keep u88_0).keep u89_0).keep u90_0) ((((((u76_3.keep u77_0 nin0).keep u78_0 (ninS (Ne.symm (Nat.ne_of_lt (Nat.lt_of_lt_of_le A75.lt u76_1))) nin0)).ext E87).keep u88_0 nin0).keep u89_0 nin0).keep u90_0 (ninS (Nat.ne_of_lt (Nat.lt_of_lt_of_le (Nat.lt_of_lt_of_le u76_2.lt (Nat.le_trans u77_0.1 u78_0.1)) (Nat.le_of_eq g87.symm))) nin0)) ((((((u76_4.keep u77_0 nin0).keep u78_0 (ninS (Ne.symm (Nat.ne_of_lt (Nat.lt_of_lt_of_le A75.lt u76_1))) nin0)).ext E87).keep u88_0 nin0).keep u89_0 nin0).keep u90_0 (ninS (Nat.ne_of_lt (Nat.lt_of_lt_of_le (Nat.lt_of_lt_of_le u76_2.lt (Nat.le_trans u77_0.1 u78_0.1)) (Nat.le_of_eq g87.symm))) nin0)) ((((((u76_5.keep u77_0 nin0).keep u78_0 (ninS (oNeArr (A75.keep u76_0) (w11 hw) u76_5) nin0)).ext E87).keep u88_0 nin0).keep u89_0 nin0).keep u90_0 (ninS (Nat.ne_of_lt (Nat.lt_of_lt_of_le (Nat.lt_of_lt_of_le u76_5.lt (Nat.le_trans u77_0.1 u78_0.1)) (Nat.le_of_eq g87.symm))) nin0)) (((((u77_2.keep u78_0).ext E87).keep u88_0).keep u89_0).keep u90_0) (((((u77_3.keep u78_0 (ninS (Ne.symm (Nat.ne_of_lt (Nat.lt_of_lt_of_le (Nat.lt_of_lt_of_le A75.lt u76_0.1) u77_1))) nin0)).ext E87).keep u88_0 nin0).keep u89_0 nin0).keep u90_0 (ninS (Nat.ne_of_lt (Nat.lt_of_lt_of_le (Nat.lt_of_lt_of_le u77_2.lt u78_0.1) (Nat.le_of_eq g87.symm))) nin0)) (((((u77_4.keep u78_0 (ninS (Ne.symm (Nat.ne_of_lt (Nat.lt_of_lt_of_le (Nat.lt_of_lt_of_le A75.lt u76_0.1) u77_1))) nin0)).ext E87).keep u88_0 nin0).keep u89_0 nin0).keep u90_0 (ninS (Nat.ne_of_lt (Nat.lt_of_lt_of_le (Nat.lt_of_lt_of_le u77_2.lt u78_0.1) (Nat.le_of_eq g87.symm))) nin0)) (((((u77_5.keep u78_0 (ninS (oNeArr ((A75.keep u76_0).keep u77_0) (w11 hw) u77_5) nin0)).ext E87).keep u88_0 nin0).keep u89_0 nin0).keep u90_0 (ninS (Nat.ne_of_lt (Nat.lt_of_lt_of_le (Nat.lt_of_lt_of_le u77_5.lt u78_0.1) (Nat.le_of_eq g87.symm))) nin0)) ((u88_2.keep u89_0).keep u90_0) ((u88_3.keep u89_0 nin0).keep u90_0 (ninS (Ne.symm (Nat.ne_of_lt (Nat.lt_of_lt_of_le A87.lt u88_1))) nin0)) ((u88_4.keep u89_0 nin0).keep u90_0 (ninS (Ne.symm (Nat.ne_of_lt (Nat.lt_of_lt_of_le A87.lt u88_1))) nin0)) ((u88_5.keep u89_0 nin0).keep u90_0 (ninS (oNeArr (A87.keep u88_0) (w11 hw) u88_5) nin0)) (u89_2.keep u90_0) (u89_3.keep u90_0 (ninS (Ne.symm (Nat.ne_of_lt (Nat.lt_of_lt_of_le (Nat.lt_of_lt_of_le A87.lt u88_0.1) u89_1))) nin0)) (u89_4.keep u90_0 (ninS (Ne.symm (Nat.ne_of_lt (Nat.lt_of_lt_of_le (Nat.lt_of_lt_of_le A87.lt u88_0.1) u89_1))) nin0)) (u89_5.keep u90_0 (ninS (oNeArr ((A87.keep u88_0).keep u89_0) (w11 hw) u89_5) nin0)) (Nat.ne_of_lt (Nat.lt_of_lt_of_le (Nat.lt_of_lt_of_le u76_2.lt (Nat.le_trans (Nat.le_trans u77_0.1 u78_0.1) E87.1)) u88_1)) (Nat.ne_of_lt (Nat.lt_of_lt_of_le (Nat.lt_of_lt_of_le u77_2.lt (Nat.le_trans (Nat.le_trans u78_0.1 E87.1) u88_0.1)) u89_1)) (oChM _) (oChM _) (oChM _) (oChM _) (oLenL _) (oLenL _) (oChM _) (oChM _) (oChM _) (oChM _) (oLenL _) (oLenL _) q4 q5) all0 (by decide) rfl (argsL := [(.ref b87)]) rfl (lenOf pd_law_4 rfl) (W := 0) rfl (by decide) (by decide) (by decide) at_349 (pc' := 352) rfl ?_
              intro v97 T97 h97 FX97 U97
              obtain ⟨rfl, rfl⟩ := U97
              have X97 := FX97 [] (Or.inl rfl) all0
              show oGoes pp ee bb ss Z T97 (mkF mm 352 #[.val (.int i0), .val (.int i1), .val (.int i2), .val (.int i3), .val (.int i4), .val (.int (oLen i0)), .val (.int (oC0 i0)), .val (.int (oC1 i0)), .val (.int (oLen i1)), .val (.int (oC0 i1)), .val (.int (oC1 i1)), .val (.int (if (i4 &&& (1 : Int32)) = (0 : Int32) then (0 : Int32) else (1 : Int32))), .val (.int (if (i4 &&& (2 : Int32)) = (0 : Int32) then (0 : Int32) else (1 : Int32))), .val (.int (oLen i0)), .val (.int (oC0 i0)), .val (.int (oC1 i0)), .val (.int (oLen i3)), .val (.int (oC0 i3)), .val (.int (oC1 i3)), .val (.int (((i4.toUInt32 >>> ((2 : Int32) &&& 31).toUInt32).toInt32) &&& (3 : Int32))), .val (.ref b75), .val (.ref b87), .val (.int (0 : Int32))] [(.int (oSm2 (oSm (oLen i0) (oC0 i0) (oC1 i0) (oLen i0) (oC0 i0) (oC1 i0)) (oSm (oLen i1) (oC0 i1) (oC1 i1) (oLen i3) (oC0 i3) (oC1 i3))))]) _ _ _ _
              refine o_iload K X97 at_352 (pc' := 354) rfl rfl ?_
              refine o_icmp_ne_f K X97 at_354 (pc' := 357) rfl (by have e0 := oSmFn c317_92; have e1 := oSmFp c335_96; simp [oSm2, c317_92, c335_96, e0, e1]) ?_
              refine o_aload K X97 at_357 (pc' := 359) rfl rfl rfl ?_
              refine o_aload K X97 at_359 (pc' := 361) rfl rfl rfl ?_
              refine o_virtual K X97 (y := (⟨"com/example/phone_conformance_check/phoneconformancecheck/capture/Property", "equals", "(Ljava/lang/Object;)Z"⟩ : MethodName)) (z := (⟨"com/example/phone_conformance_check/phoneconformancecheck/capture/Property", "equals", "(Ljava/lang/Object;)Z"⟩ : MethodName)) (w56 hw) (w57 hw) (fun _ q => notFace_of_selects (args := #[]) (mvT q (w59 hw))) (w59 hw) (w58 hw) (w12 hw) (w60 hw) (by decide) u90_1 (rm_peq l Z a0 hw b87 b75 r_88 vb_88 r_89 vb_89 r_76 vb_76 r_77 vb_77 k_88 k_89 k_76 k_77 (oLen i0) (oC0 i0) (oC1 i0) (oLen i0) (oC0 i0) (oC1 i0) (oLen i3) (oC0 i3) (oC1 i3) (oLen i1) (oC0 i1) (oC1 i1) cs h90 u90_1 u90_2 u90_3 ((((u78_1.ext E87).keep u88_0).keep u89_0).keep u90_0) ((((u78_2.ext E87).keep u88_0 nin0).keep u89_0 nin0).keep u90_0 (ninS (Nat.ne_of_lt (Nat.lt_of_lt_of_le (Nat.lt_of_lt_of_le A75.lt (Nat.le_trans (Nat.le_trans u76_0.1 u77_0.1) u78_0.1)) (Nat.le_of_eq g87.symm))) nin0)) ((((u78_3.ext E87).keep u88_0 nin0).keep u89_0 nin0).keep u90_0 (ninS (Nat.ne_of_lt (Nat.lt_of_lt_of_le (Nat.lt_of_lt_of_le A75.lt (Nat.le_trans (Nat.le_trans u76_0.1 u77_0.1) u78_0.1)) (Nat.le_of_eq g87.symm))) nin0)) ((u88_2.keep u89_0).keep u90_0) ((u88_3.keep u89_0 nin0).keep u90_0 (ninS (Ne.symm (Nat.ne_of_lt (Nat.lt_of_lt_of_le A87.lt u88_1))) nin0)) ((u88_4.keep u89_0 nin0).keep u90_0 (ninS (Ne.symm (Nat.ne_of_lt (Nat.lt_of_lt_of_le A87.lt u88_1))) nin0)) ((u88_5.keep u89_0 nin0).keep u90_0 (ninS (oNeArr (A87.keep u88_0) (w11 hw) u88_5) nin0)) (u89_2.keep u90_0) (u89_3.keep u90_0 (ninS (Ne.symm (Nat.ne_of_lt (Nat.lt_of_lt_of_le (Nat.lt_of_lt_of_le A87.lt u88_0.1) u89_1))) nin0)) (u89_4.keep u90_0 (ninS (Ne.symm (Nat.ne_of_lt (Nat.lt_of_lt_of_le (Nat.lt_of_lt_of_le A87.lt u88_0.1) u89_1))) nin0)) (u89_5.keep u90_0 (ninS (oNeArr ((A87.keep u88_0).keep u89_0) (w11 hw) u89_5) nin0)) ((((((u76_2.keep u77_0).keep u78_0).ext E87).keep u88_0).keep u89_0).keep u90_0) ((((((u76_3.keep u77_0 nin0).keep u78_0 (ninS (Ne.symm (Nat.ne_of_lt (Nat.lt_of_lt_of_le A75.lt u76_1))) nin0)).ext E87).keep u88_0 nin0).keep u89_0 nin0).keep u90_0 (ninS (Nat.ne_of_lt (Nat.lt_of_lt_of_le (Nat.lt_of_lt_of_le u76_2.lt (Nat.le_trans u77_0.1 u78_0.1)) (Nat.le_of_eq g87.symm))) nin0)) ((((((u76_4.keep u77_0 nin0).keep u78_0 (ninS (Ne.symm (Nat.ne_of_lt (Nat.lt_of_lt_of_le A75.lt u76_1))) nin0)).ext E87).keep u88_0 nin0).keep u89_0 nin0).keep u90_0 (ninS (Nat.ne_of_lt (Nat.lt_of_lt_of_le (Nat.lt_of_lt_of_le u76_2.lt (Nat.le_trans u77_0.1 u78_0.1)) (Nat.le_of_eq g87.symm))) nin0)) ((((((u76_5.keep u77_0 nin0).keep u78_0 (ninS (oNeArr (A75.keep u76_0) (w11 hw) u76_5) nin0)).ext E87).keep u88_0 nin0).keep u89_0 nin0).keep u90_0 (ninS (Nat.ne_of_lt (Nat.lt_of_lt_of_le (Nat.lt_of_lt_of_le u76_5.lt (Nat.le_trans u77_0.1 u78_0.1)) (Nat.le_of_eq g87.symm))) nin0)) (((((u77_2.keep u78_0).ext E87).keep u88_0).keep u89_0).keep u90_0) (((((u77_3.keep u78_0 (ninS (Ne.symm (Nat.ne_of_lt (Nat.lt_of_lt_of_le (Nat.lt_of_lt_of_le A75.lt u76_0.1) u77_1))) nin0)).ext E87).keep u88_0 nin0).keep u89_0 nin0).keep u90_0 (ninS (Nat.ne_of_lt (Nat.lt_of_lt_of_le (Nat.lt_of_lt_of_le u77_2.lt u78_0.1) (Nat.le_of_eq g87.symm))) nin0)) (((((u77_4.keep u78_0 (ninS (Ne.symm (Nat.ne_of_lt (Nat.lt_of_lt_of_le (Nat.lt_of_lt_of_le A75.lt u76_0.1) u77_1))) nin0)).ext E87).keep u88_0 nin0).keep u89_0 nin0).keep u90_0 (ninS (Nat.ne_of_lt (Nat.lt_of_lt_of_le (Nat.lt_of_lt_of_le u77_2.lt u78_0.1) (Nat.le_of_eq g87.symm))) nin0)) (((((u77_5.keep u78_0 (ninS (oNeArr ((A75.keep u76_0).keep u77_0) (w11 hw) u77_5) nin0)).ext E87).keep u88_0 nin0).keep u89_0 nin0).keep u90_0 (ninS (Nat.ne_of_lt (Nat.lt_of_lt_of_le (Nat.lt_of_lt_of_le u77_5.lt u78_0.1) (Nat.le_of_eq g87.symm))) nin0)) (Ne.symm (Nat.ne_of_lt (Nat.lt_of_lt_of_le (Nat.lt_of_lt_of_le u76_2.lt (Nat.le_trans (Nat.le_trans u77_0.1 u78_0.1) E87.1)) u88_1))) (Ne.symm (Nat.ne_of_lt (Nat.lt_of_lt_of_le (Nat.lt_of_lt_of_le u77_2.lt (Nat.le_trans (Nat.le_trans u78_0.1 E87.1) u88_0.1)) u89_1))) (oChM _) (oChM _) (oChM _) (oChM _) (oLenL _) (oLenL _) (oChM _) (oChM _) (oChM _) (oChM _) (oLenL _) (oLenL _) q4 q5) all0 (by decide) rfl (argsL := [(.ref b75)]) rfl (lenOf pd_law_4 rfl) (W := 0) rfl (by decide) (by decide) (by decide) at_361 (pc' := 364) rfl ?_
              intro v98 T98 h98 FX98 U98
              obtain ⟨rfl, rfl⟩ := U98
              have X98 := FX98 [] (Or.inl rfl) all0
              show oGoes pp ee bb ss Z T98 (mkF mm 364 #[.val (.int i0), .val (.int i1), .val (.int i2), .val (.int i3), .val (.int i4), .val (.int (oLen i0)), .val (.int (oC0 i0)), .val (.int (oC1 i0)), .val (.int (oLen i1)), .val (.int (oC0 i1)), .val (.int (oC1 i1)), .val (.int (if (i4 &&& (1 : Int32)) = (0 : Int32) then (0 : Int32) else (1 : Int32))), .val (.int (if (i4 &&& (2 : Int32)) = (0 : Int32) then (0 : Int32) else (1 : Int32))), .val (.int (oLen i0)), .val (.int (oC0 i0)), .val (.int (oC1 i0)), .val (.int (oLen i3)), .val (.int (oC0 i3)), .val (.int (oC1 i3)), .val (.int (((i4.toUInt32 >>> ((2 : Int32) &&& 31).toUInt32).toInt32) &&& (3 : Int32))), .val (.ref b75), .val (.ref b87), .val (.int (0 : Int32))] [(.int (oSm2 (oSm (oLen i0) (oC0 i0) (oC1 i0) (oLen i0) (oC0 i0) (oC1 i0)) (oSm (oLen i3) (oC0 i3) (oC1 i3) (oLen i1) (oC0 i1) (oC1 i1))))]) _ _ _ _
              refine o_iload K X98 at_364 (pc' := 366) rfl rfl ?_
              refine o_icmp_ne_f K X98 at_366 (pc' := 369) rfl (by have e0 := oSmFn c317_92; have e1 := oSmFp c335_96; simp [oSm2, c317_92, c335_96, e0, e1]) ?_
              refine o_iconst K X98 at_369 (pc' := 370) rfl (z := (1 : Int32)) rfl ?_
              refine o_goto K X98 at_370 (by decide) (pc' := 374) (by decide) ?_
              refine o_ireturnN K X98 .boolean at_374 rfl (by simp) (z' := (1 : Int32)) (by decide) ?_ (by decide) (by decide) (by decide)
              exact rfl
            · refine o_if_eq_f K X95 at_335 (pc' := 338) rfl c335_96 ?_
              refine o_iconst K X95 at_338 (pc' := 339) rfl (z := (1 : Int32)) rfl ?_
              refine o_goto K X95 at_339 (by decide) (pc' := 343) (by decide) ?_
              refine o_istore K X95 at_343 (pc' := 345) rfl (L' := #[.val (.int i0), .val (.int i1), .val (.int i2), .val (.int i3), .val (.int i4), .val (.int (oLen i0)), .val (.int (oC0 i0)), .val (.int (oC1 i0)), .val (.int (oLen i1)), .val (.int (oC0 i1)), .val (.int (oC1 i1)), .val (.int (if (i4 &&& (1 : Int32)) = (0 : Int32) then (0 : Int32) else (1 : Int32))), .val (.int (if (i4 &&& (2 : Int32)) = (0 : Int32) then (0 : Int32) else (1 : Int32))), .val (.int (oLen i0)), .val (.int (oC0 i0)), .val (.int (oC1 i0)), .val (.int (oLen i3)), .val (.int (oC0 i3)), .val (.int (oC1 i3)), .val (.int (((i4.toUInt32 >>> ((2 : Int32) &&& 31).toUInt32).toInt32) &&& (3 : Int32))), .val (.ref b75), .val (.ref b87), .val (.int (1 : Int32))]) rfl ?_
              refine o_aload K X95 at_345 (pc' := 347) rfl rfl rfl ?_
              refine o_aload K X95 at_347 (pc' := 349) rfl rfl rfl ?_
              refine o_virtual K X95 (y := (⟨"com/example/phone_conformance_check/phoneconformancecheck/capture/Property", "equals", "(Ljava/lang/Object;)Z"⟩ : MethodName)) (z := (⟨"com/example/phone_conformance_check/phoneconformancecheck/capture/Property", "equals", "(Ljava/lang/Object;)Z"⟩ : MethodName)) (w56 hw) (w57 hw) (fun _ q => notFace_of_selects (args := #[]) (mvT q (w59 hw))) (w59 hw) (w58 hw) (w12 hw) (w60 hw) (by decide) ((((u78_1.ext E87).keep u88_0).keep u89_0).keep u90_0) (rm_peq l Z a0 hw b75 b87 r_76 vb_76 r_77 vb_77 r_88 vb_88 r_89 vb_89 k_76 k_77 k_88 k_89 (oLen i0) (oC0 i0) (oC1 i0) (oLen i0) (oC0 i0) (oC1 i0) (oLen i1) (oC0 i1) (oC1 i1) (oLen i3) (oC0 i3) (oC1 i3) cs h90 ((((u78_1.ext E87).keep u88_0).keep u89_0).keep u90_0) ((((u78_2.ext E87).keep u88_0 nin0).keep u89_0 nin0).keep u90_0 (ninS (Nat.ne_of_lt (Nat.lt_of_lt_of_le (Nat.lt_of_lt_of_le A75.lt (Nat.le_trans (Nat.le_trans u76_0.1 u77_0.1) u78_0.1)) (Nat.le_of_eq g87.symm))) nin0)) ((((u78_3.ext E87).keep u88_0 nin0).keep u89_0 nin0).keep u90_0 (ninS (Nat.ne_of_lt (Nat.lt_of_lt_of_le (Nat.lt_of_lt_of_le A75.lt (Nat.le_trans (Nat.le_trans u76_0.1 u77_0.1) u78_0.1)) (Nat.le_of_eq g87.symm))) nin0)) u90_1 u90_2 u90_3 ((((((u76_2.keep u77_0).keep u78_0).ext E87).keep u88_0).keep u89_0).keep u90_0) ((((((u76_3.keep u77_0 nin0).keep u78_0 (ninS (Ne.symm (Nat.ne_of_lt (Nat.lt_of_lt_of_le A75.lt u76_1))) nin0)).ext E87).keep u88_0 nin0).keep u89_0 nin0).keep u90_0 (ninS (Nat.ne_of_lt (Nat.lt_of_lt_of_le (Nat.lt_of_lt_of_le u76_2.lt (Nat.le_trans u77_0.1 u78_0.1)) (Nat.le_of_eq g87.symm))) nin0)) ((((((u76_4.keep u77_0 nin0).keep u78_0 (ninS (Ne.symm (Nat.ne_of_lt (Nat.lt_of_lt_of_le A75.lt u76_1))) nin0)).ext E87).keep u88_0 nin0).keep u89_0 nin0).keep u90_0 (ninS (Nat.ne_of_lt (Nat.lt_of_lt_of_le (Nat.lt_of_lt_of_le u76_2.lt (Nat.le_trans u77_0.1 u78_0.1)) (Nat.le_of_eq g87.symm))) nin0)) ((((((u76_5.keep u77_0 nin0).keep u78_0 (ninS (oNeArr (A75.keep u76_0) (w11 hw) u76_5) nin0)).ext E87).keep u88_0 nin0).keep u89_0 nin0).keep u90_0 (ninS (Nat.ne_of_lt (Nat.lt_of_lt_of_le (Nat.lt_of_lt_of_le u76_5.lt (Nat.le_trans u77_0.1 u78_0.1)) (Nat.le_of_eq g87.symm))) nin0)) (((((u77_2.keep u78_0).ext E87).keep u88_0).keep u89_0).keep u90_0) (((((u77_3.keep u78_0 (ninS (Ne.symm (Nat.ne_of_lt (Nat.lt_of_lt_of_le (Nat.lt_of_lt_of_le A75.lt u76_0.1) u77_1))) nin0)).ext E87).keep u88_0 nin0).keep u89_0 nin0).keep u90_0 (ninS (Nat.ne_of_lt (Nat.lt_of_lt_of_le (Nat.lt_of_lt_of_le u77_2.lt u78_0.1) (Nat.le_of_eq g87.symm))) nin0)) (((((u77_4.keep u78_0 (ninS (Ne.symm (Nat.ne_of_lt (Nat.lt_of_lt_of_le (Nat.lt_of_lt_of_le A75.lt u76_0.1) u77_1))) nin0)).ext E87).keep u88_0 nin0).keep u89_0 nin0).keep u90_0 (ninS (Nat.ne_of_lt (Nat.lt_of_lt_of_le (Nat.lt_of_lt_of_le u77_2.lt u78_0.1) (Nat.le_of_eq g87.symm))) nin0)) (((((u77_5.keep u78_0 (ninS (oNeArr ((A75.keep u76_0).keep u77_0) (w11 hw) u77_5) nin0)).ext E87).keep u88_0 nin0).keep u89_0 nin0).keep u90_0 (ninS (Nat.ne_of_lt (Nat.lt_of_lt_of_le (Nat.lt_of_lt_of_le u77_5.lt u78_0.1) (Nat.le_of_eq g87.symm))) nin0)) ((u88_2.keep u89_0).keep u90_0) ((u88_3.keep u89_0 nin0).keep u90_0 (ninS (Ne.symm (Nat.ne_of_lt (Nat.lt_of_lt_of_le A87.lt u88_1))) nin0)) ((u88_4.keep u89_0 nin0).keep u90_0 (ninS (Ne.symm (Nat.ne_of_lt (Nat.lt_of_lt_of_le A87.lt u88_1))) nin0)) ((u88_5.keep u89_0 nin0).keep u90_0 (ninS (oNeArr (A87.keep u88_0) (w11 hw) u88_5) nin0)) (u89_2.keep u90_0) (u89_3.keep u90_0 (ninS (Ne.symm (Nat.ne_of_lt (Nat.lt_of_lt_of_le (Nat.lt_of_lt_of_le A87.lt u88_0.1) u89_1))) nin0)) (u89_4.keep u90_0 (ninS (Ne.symm (Nat.ne_of_lt (Nat.lt_of_lt_of_le (Nat.lt_of_lt_of_le A87.lt u88_0.1) u89_1))) nin0)) (u89_5.keep u90_0 (ninS (oNeArr ((A87.keep u88_0).keep u89_0) (w11 hw) u89_5) nin0)) (Nat.ne_of_lt (Nat.lt_of_lt_of_le (Nat.lt_of_lt_of_le u76_2.lt (Nat.le_trans (Nat.le_trans u77_0.1 u78_0.1) E87.1)) u88_1)) (Nat.ne_of_lt (Nat.lt_of_lt_of_le (Nat.lt_of_lt_of_le u77_2.lt (Nat.le_trans (Nat.le_trans u78_0.1 E87.1) u88_0.1)) u89_1)) (oChM _) (oChM _) (oChM _) (oChM _) (oLenL _) (oLenL _) (oChM _) (oChM _) (oChM _) (oChM _) (oLenL _) (oLenL _) q4 q5) all0 (by decide) rfl (argsL := [(.ref b87)]) rfl (lenOf pd_law_4 rfl) (W := 0) rfl (by decide) (by decide) (by decide) at_349 (pc' := 352) rfl ?_
              intro v99 T99 h99 FX99 U99
              obtain ⟨rfl, rfl⟩ := U99
              have X99 := FX99 [] (Or.inl rfl) all0
              show oGoes pp ee bb ss Z T99 (mkF mm 352 #[.val (.int i0), .val (.int i1), .val (.int i2), .val (.int i3), .val (.int i4), .val (.int (oLen i0)), .val (.int (oC0 i0)), .val (.int (oC1 i0)), .val (.int (oLen i1)), .val (.int (oC0 i1)), .val (.int (oC1 i1)), .val (.int (if (i4 &&& (1 : Int32)) = (0 : Int32) then (0 : Int32) else (1 : Int32))), .val (.int (if (i4 &&& (2 : Int32)) = (0 : Int32) then (0 : Int32) else (1 : Int32))), .val (.int (oLen i0)), .val (.int (oC0 i0)), .val (.int (oC1 i0)), .val (.int (oLen i3)), .val (.int (oC0 i3)), .val (.int (oC1 i3)), .val (.int (((i4.toUInt32 >>> ((2 : Int32) &&& 31).toUInt32).toInt32) &&& (3 : Int32))), .val (.ref b75), .val (.ref b87), .val (.int (1 : Int32))] [(.int (oSm2 (oSm (oLen i0) (oC0 i0) (oC1 i0) (oLen i0) (oC0 i0) (oC1 i0)) (oSm (oLen i1) (oC0 i1) (oC1 i1) (oLen i3) (oC0 i3) (oC1 i3))))]) _ _ _ _
              refine o_iload K X99 at_352 (pc' := 354) rfl rfl ?_
              refine o_icmp_ne_f K X99 at_354 (pc' := 357) rfl (by have e0 := oSmFn c317_92; have e1 := oSmFn c335_96; simp [oSm2, c317_92, c335_96, e0, e1]) ?_
              refine o_aload K X99 at_357 (pc' := 359) rfl rfl rfl ?_
              refine o_aload K X99 at_359 (pc' := 361) rfl rfl rfl ?_
              refine o_virtual K X99 (y := (⟨"com/example/phone_conformance_check/phoneconformancecheck/capture/Property", "equals", "(Ljava/lang/Object;)Z"⟩ : MethodName)) (z := (⟨"com/example/phone_conformance_check/phoneconformancecheck/capture/Property", "equals", "(Ljava/lang/Object;)Z"⟩ : MethodName)) (w56 hw) (w57 hw) (fun _ q => notFace_of_selects (args := #[]) (mvT q (w59 hw))) (w59 hw) (w58 hw) (w12 hw) (w60 hw) (by decide) u90_1 (rm_peq l Z a0 hw b87 b75 r_88 vb_88 r_89 vb_89 r_76 vb_76 r_77 vb_77 k_88 k_89 k_76 k_77 (oLen i0) (oC0 i0) (oC1 i0) (oLen i0) (oC0 i0) (oC1 i0) (oLen i3) (oC0 i3) (oC1 i3) (oLen i1) (oC0 i1) (oC1 i1) cs h90 u90_1 u90_2 u90_3 ((((u78_1.ext E87).keep u88_0).keep u89_0).keep u90_0) ((((u78_2.ext E87).keep u88_0 nin0).keep u89_0 nin0).keep u90_0 (ninS (Nat.ne_of_lt (Nat.lt_of_lt_of_le (Nat.lt_of_lt_of_le A75.lt (Nat.le_trans (Nat.le_trans u76_0.1 u77_0.1) u78_0.1)) (Nat.le_of_eq g87.symm))) nin0)) ((((u78_3.ext E87).keep u88_0 nin0).keep u89_0 nin0).keep u90_0 (ninS (Nat.ne_of_lt (Nat.lt_of_lt_of_le (Nat.lt_of_lt_of_le A75.lt (Nat.le_trans (Nat.le_trans u76_0.1 u77_0.1) u78_0.1)) (Nat.le_of_eq g87.symm))) nin0)) ((u88_2.keep u89_0).keep u90_0) ((u88_3.keep u89_0 nin0).keep u90_0 (ninS (Ne.symm (Nat.ne_of_lt (Nat.lt_of_lt_of_le A87.lt u88_1))) nin0)) ((u88_4.keep u89_0 nin0).keep u90_0 (ninS (Ne.symm (Nat.ne_of_lt (Nat.lt_of_lt_of_le A87.lt u88_1))) nin0)) ((u88_5.keep u89_0 nin0).keep u90_0 (ninS (oNeArr (A87.keep u88_0) (w11 hw) u88_5) nin0)) (u89_2.keep u90_0) (u89_3.keep u90_0 (ninS (Ne.symm (Nat.ne_of_lt (Nat.lt_of_lt_of_le (Nat.lt_of_lt_of_le A87.lt u88_0.1) u89_1))) nin0)) (u89_4.keep u90_0 (ninS (Ne.symm (Nat.ne_of_lt (Nat.lt_of_lt_of_le (Nat.lt_of_lt_of_le A87.lt u88_0.1) u89_1))) nin0)) (u89_5.keep u90_0 (ninS (oNeArr ((A87.keep u88_0).keep u89_0) (w11 hw) u89_5) nin0)) ((((((u76_2.keep u77_0).keep u78_0).ext E87).keep u88_0).keep u89_0).keep u90_0) ((((((u76_3.keep u77_0 nin0).keep u78_0 (ninS (Ne.symm (Nat.ne_of_lt (Nat.lt_of_lt_of_le A75.lt u76_1))) nin0)).ext E87).keep u88_0 nin0).keep u89_0 nin0).keep u90_0 (ninS (Nat.ne_of_lt (Nat.lt_of_lt_of_le (Nat.lt_of_lt_of_le u76_2.lt (Nat.le_trans u77_0.1 u78_0.1)) (Nat.le_of_eq g87.symm))) nin0)) ((((((u76_4.keep u77_0 nin0).keep u78_0 (ninS (Ne.symm (Nat.ne_of_lt (Nat.lt_of_lt_of_le A75.lt u76_1))) nin0)).ext E87).keep u88_0 nin0).keep u89_0 nin0).keep u90_0 (ninS (Nat.ne_of_lt (Nat.lt_of_lt_of_le (Nat.lt_of_lt_of_le u76_2.lt (Nat.le_trans u77_0.1 u78_0.1)) (Nat.le_of_eq g87.symm))) nin0)) ((((((u76_5.keep u77_0 nin0).keep u78_0 (ninS (oNeArr (A75.keep u76_0) (w11 hw) u76_5) nin0)).ext E87).keep u88_0 nin0).keep u89_0 nin0).keep u90_0 (ninS (Nat.ne_of_lt (Nat.lt_of_lt_of_le (Nat.lt_of_lt_of_le u76_5.lt (Nat.le_trans u77_0.1 u78_0.1)) (Nat.le_of_eq g87.symm))) nin0)) (((((u77_2.keep u78_0).ext E87).keep u88_0).keep u89_0).keep u90_0) (((((u77_3.keep u78_0 (ninS (Ne.symm (Nat.ne_of_lt (Nat.lt_of_lt_of_le (Nat.lt_of_lt_of_le A75.lt u76_0.1) u77_1))) nin0)).ext E87).keep u88_0 nin0).keep u89_0 nin0).keep u90_0 (ninS (Nat.ne_of_lt (Nat.lt_of_lt_of_le (Nat.lt_of_lt_of_le u77_2.lt u78_0.1) (Nat.le_of_eq g87.symm))) nin0)) (((((u77_4.keep u78_0 (ninS (Ne.symm (Nat.ne_of_lt (Nat.lt_of_lt_of_le (Nat.lt_of_lt_of_le A75.lt u76_0.1) u77_1))) nin0)).ext E87).keep u88_0 nin0).keep u89_0 nin0).keep u90_0 (ninS (Nat.ne_of_lt (Nat.lt_of_lt_of_le (Nat.lt_of_lt_of_le u77_2.lt u78_0.1) (Nat.le_of_eq g87.symm))) nin0)) (((((u77_5.keep u78_0 (ninS (oNeArr ((A75.keep u76_0).keep u77_0) (w11 hw) u77_5) nin0)).ext E87).keep u88_0 nin0).keep u89_0 nin0).keep u90_0 (ninS (Nat.ne_of_lt (Nat.lt_of_lt_of_le (Nat.lt_of_lt_of_le u77_5.lt u78_0.1) (Nat.le_of_eq g87.symm))) nin0)) (Ne.symm (Nat.ne_of_lt (Nat.lt_of_lt_of_le (Nat.lt_of_lt_of_le u76_2.lt (Nat.le_trans (Nat.le_trans u77_0.1 u78_0.1) E87.1)) u88_1))) (Ne.symm (Nat.ne_of_lt (Nat.lt_of_lt_of_le (Nat.lt_of_lt_of_le u77_2.lt (Nat.le_trans (Nat.le_trans u78_0.1 E87.1) u88_0.1)) u89_1))) (oChM _) (oChM _) (oChM _) (oChM _) (oLenL _) (oLenL _) (oChM _) (oChM _) (oChM _) (oChM _) (oLenL _) (oLenL _) q4 q5) all0 (by decide) rfl (argsL := [(.ref b75)]) rfl (lenOf pd_law_4 rfl) (W := 0) rfl (by decide) (by decide) (by decide) at_361 (pc' := 364) rfl ?_
              intro v100 T100 h100 FX100 U100
              obtain ⟨rfl, rfl⟩ := U100
              have X100 := FX100 [] (Or.inl rfl) all0
              show oGoes pp ee bb ss Z T100 (mkF mm 364 #[.val (.int i0), .val (.int i1), .val (.int i2), .val (.int i3), .val (.int i4), .val (.int (oLen i0)), .val (.int (oC0 i0)), .val (.int (oC1 i0)), .val (.int (oLen i1)), .val (.int (oC0 i1)), .val (.int (oC1 i1)), .val (.int (if (i4 &&& (1 : Int32)) = (0 : Int32) then (0 : Int32) else (1 : Int32))), .val (.int (if (i4 &&& (2 : Int32)) = (0 : Int32) then (0 : Int32) else (1 : Int32))), .val (.int (oLen i0)), .val (.int (oC0 i0)), .val (.int (oC1 i0)), .val (.int (oLen i3)), .val (.int (oC0 i3)), .val (.int (oC1 i3)), .val (.int (((i4.toUInt32 >>> ((2 : Int32) &&& 31).toUInt32).toInt32) &&& (3 : Int32))), .val (.ref b75), .val (.ref b87), .val (.int (1 : Int32))] [(.int (oSm2 (oSm (oLen i0) (oC0 i0) (oC1 i0) (oLen i0) (oC0 i0) (oC1 i0)) (oSm (oLen i3) (oC0 i3) (oC1 i3) (oLen i1) (oC0 i1) (oC1 i1))))]) _ _ _ _
              refine o_iload K X100 at_364 (pc' := 366) rfl rfl ?_
              refine o_icmp_ne_f K X100 at_366 (pc' := 369) rfl (by have e0 := oSmFn c317_92; have e1 := oSmFn c335_96; simp [oSm2, c317_92, c335_96, e0, e1]) ?_
              refine o_iconst K X100 at_369 (pc' := 370) rfl (z := (1 : Int32)) rfl ?_
              refine o_goto K X100 at_370 (by decide) (pc' := 374) (by decide) ?_
              refine o_ireturnN K X100 .boolean at_374 rfl (by simp) (z' := (1 : Int32)) (by decide) ?_ (by decide) (by decide) (by decide)
              exact rfl
    · refine o_if_eq_f K X6 at_114 (pc' := 117) rfl (by rw [if_neg c114_71] <;> decide) ?_
      refine o_iload K X6 at_117 (pc' := 119) rfl rfl ?_
      refine o_goto K X6 at_119 (by decide) (pc' := 126) (by decide) ?_
      refine o_istore K X6 at_126 (pc' := 128) rfl (L' := #[.val (.int i0), .val (.int i1), .val (.int i2), .val (.int i3), .val (.int i4), .val (.int (oLen i0)), .val (.int (oC0 i0)), .val (.int (oC1 i0)), .val (.int (oLen i1)), .val (.int (oC0 i1)), .val (.int (oC1 i1)), .val (.int (if (i4 &&& (1 : Int32)) = (0 : Int32) then (0 : Int32) else (1 : Int32))), .val (.int (if (i4 &&& (2 : Int32)) = (0 : Int32) then (0 : Int32) else (1 : Int32))), .val (.int (oLen i0)), .val (.int (oC0 i0)), .val (.int (oC1 i0)), .val (.int (oLen i1)), .unset, .unset, .unset, .unset, .unset, .unset]) rfl ?_
      refine o_iload K X6 at_128 (pc' := 130) rfl rfl ?_
      refine o_if_eq_f K X6 at_130 (pc' := 133) rfl (by rw [if_neg c114_71] <;> decide) ?_
      refine o_iload K X6 at_133 (pc' := 135) rfl rfl ?_
      refine o_goto K X6 at_135 (by decide) (pc' := 142) (by decide) ?_
      refine o_istore K X6 at_142 (pc' := 144) rfl (L' := #[.val (.int i0), .val (.int i1), .val (.int i2), .val (.int i3), .val (.int i4), .val (.int (oLen i0)), .val (.int (oC0 i0)), .val (.int (oC1 i0)), .val (.int (oLen i1)), .val (.int (oC0 i1)), .val (.int (oC1 i1)), .val (.int (if (i4 &&& (1 : Int32)) = (0 : Int32) then (0 : Int32) else (1 : Int32))), .val (.int (if (i4 &&& (2 : Int32)) = (0 : Int32) then (0 : Int32) else (1 : Int32))), .val (.int (oLen i0)), .val (.int (oC0 i0)), .val (.int (oC1 i0)), .val (.int (oLen i1)), .val (.int (oC0 i1)), .unset, .unset, .unset, .unset, .unset]) rfl ?_
      refine o_iload K X6 at_144 (pc' := 146) rfl rfl ?_
      refine o_if_eq_f K X6 at_146 (pc' := 149) rfl (by rw [if_neg c114_71] <;> decide) ?_
      refine o_iload K X6 at_149 (pc' := 151) rfl rfl ?_
      refine o_goto K X6 at_151 (by decide) (pc' := 158) (by decide) ?_
      refine o_istore K X6 at_158 (pc' := 160) rfl (L' := #[.val (.int i0), .val (.int i1), .val (.int i2), .val (.int i3), .val (.int i4), .val (.int (oLen i0)), .val (.int (oC0 i0)), .val (.int (oC1 i0)), .val (.int (oLen i1)), .val (.int (oC0 i1)), .val (.int (oC1 i1)), .val (.int (if (i4 &&& (1 : Int32)) = (0 : Int32) then (0 : Int32) else (1 : Int32))), .val (.int (if (i4 &&& (2 : Int32)) = (0 : Int32) then (0 : Int32) else (1 : Int32))), .val (.int (oLen i0)), .val (.int (oC0 i0)), .val (.int (oC1 i0)), .val (.int (oLen i1)), .val (.int (oC0 i1)), .val (.int (oC1 i1)), .unset, .unset, .unset, .unset]) rfl ?_
      refine o_iload K X6 at_160 (pc' := 162) rfl rfl ?_
      refine o_iconst K X6 at_162 (pc' := 163) rfl (z := (2 : Int32)) rfl ?_
      refine o_iushr K X6 at_163 (pc' := 164) rfl (z := ((i4.toUInt32 >>> ((2 : Int32) &&& 31).toUInt32).toInt32)) rfl ?_
      refine o_iconst K X6 at_164 (pc' := 165) rfl (z := (3 : Int32)) rfl ?_
      refine o_iand K X6 at_165 (pc' := 166) rfl (z := (((i4.toUInt32 >>> ((2 : Int32) &&& 31).toUInt32).toInt32) &&& (3 : Int32))) rfl ?_
      refine o_istore K X6 at_166 (pc' := 168) rfl (L' := #[.val (.int i0), .val (.int i1), .val (.int i2), .val (.int i3), .val (.int i4), .val (.int (oLen i0)), .val (.int (oC0 i0)), .val (.int (oC1 i0)), .val (.int (oLen i1)), .val (.int (oC0 i1)), .val (.int (oC1 i1)), .val (.int (if (i4 &&& (1 : Int32)) = (0 : Int32) then (0 : Int32) else (1 : Int32))), .val (.int (if (i4 &&& (2 : Int32)) = (0 : Int32) then (0 : Int32) else (1 : Int32))), .val (.int (oLen i0)), .val (.int (oC0 i0)), .val (.int (oC1 i0)), .val (.int (oLen i1)), .val (.int (oC0 i1)), .val (.int (oC1 i1)), .val (.int (((i4.toUInt32 >>> ((2 : Int32) &&& 31).toUInt32).toInt32) &&& (3 : Int32))), .unset, .unset, .unset]) rfl ?_
      refine o_new K X6 (w10 hw) (w11 hw) (w12 hw) at_168 (pc' := 171) rfl (by decide) (by decide) ?_
      intro T101 h101 b101 X101 g101 E101 A101 D101 G101
      have F101_name : Fld Z h101 b101 "com/example/phone_conformance_check/phoneconformancecheck/capture/Property" "name" "Ljava/lang/String;" .null := (D101 (Or.inr (w49 hw)) (ty := (.object "java/lang/String")) (by decide))
      have F101_value : Fld Z h101 b101 "com/example/phone_conformance_check/phoneconformancecheck/capture/Property" "value" "Ljava/lang/String;" .null := (D101 (Or.inr (w52 hw)) (ty := (.object "java/lang/String")) (by decide))
      refine o_dup K X101 at_171 (pc' := 172) rfl rfl ?_
      refine o_iload K X101 at_172 (pc' := 174) rfl rfl ?_
      refine o_iload K X101 at_174 (pc' := 176) rfl rfl ?_
      refine o_iload K X101 at_176 (pc' := 178) rfl rfl ?_
      refine o_static K X101 (y := (⟨"com/example/phone_conformance_check/phoneconformancecheck/capture/PropertyEqualsPinLaw", "mk", "(ICC)Ljava/lang/String;"⟩ : MethodName)) (w13 hw) (w14 hw) (w2 hw) (w15 hw) (by decide) (rm_mk l Z a0 hw (oLen i0) (oC0 i0) (oC1 i0) cs h101 q4 q5 (oChM _).2 (oChM _).2 (oNarMask _ (by decide)) (oNarMask _ (by decide))) all0 (by decide) rfl (argsL := [(.int (oLen i0)), (.int (oC0 i0)), (.int (oC1 i0))]) rfl (lenOf pd_law_2 rfl) (W := 2) rfl (by decide) (by decide) (by decide) at_178 (pc' := 181) rfl ?_
      intro v102 T102 h102 FX102 U102
      obtain ⟨r_102, vb_102, k_102, rfl, u102_0, u102_1, u102_2, u102_3, u102_4, u102_5⟩ := U102
      have G102_r : Z.heap.size ≤ r_102 := Nat.le_trans (Nat.le_trans E0.1 E101.1) u102_1
      have X102 := FX102 [] (Or.inr rfl) all0
      show oGoes pp ee bb ss Z T102 (mkF mm 181 #[.val (.int i0), .val (.int i1), .val (.int i2), .val (.int i3), .val (.int i4), .val (.int (oLen i0)), .val (.int (oC0 i0)), .val (.int (oC1 i0)), .val (.int (oLen i1)), .val (.int (oC0 i1)), .val (.int (oC1 i1)), .val (.int (if (i4 &&& (1 : Int32)) = (0 : Int32) then (0 : Int32) else (1 : Int32))), .val (.int (if (i4 &&& (2 : Int32)) = (0 : Int32) then (0 : Int32) else (1 : Int32))), .val (.int (oLen i0)), .val (.int (oC0 i0)), .val (.int (oC1 i0)), .val (.int (oLen i1)), .val (.int (oC0 i1)), .val (.int (oC1 i1)), .val (.int (((i4.toUInt32 >>> ((2 : Int32) &&& 31).toUInt32).toInt32) &&& (3 : Int32))), .unset, .unset, .unset] [(.ref r_102), (.ref b101), (.ref b101)]) _ _ _ _
      refine o_iload K X102 at_181 (pc' := 183) rfl rfl ?_
      refine o_iload K X102 at_183 (pc' := 185) rfl rfl ?_
      refine o_iload K X102 at_185 (pc' := 187) rfl rfl ?_
      refine o_static K X102 (y := (⟨"com/example/phone_conformance_check/phoneconformancecheck/capture/PropertyEqualsPinLaw", "mk", "(ICC)Ljava/lang/String;"⟩ : MethodName)) (w13 hw) (w14 hw) (w2 hw) (w15 hw) (by decide) (rm_mk l Z a0 hw (oLen i1) (oC0 i1) (oC1 i1) cs h102 q4 q5 (oChM _).2 (oChM _).2 (oNarMask _ (by decide)) (oNarMask _ (by decide))) all0 (by decide) rfl (argsL := [(.int (oLen i1)), (.int (oC0 i1)), (.int (oC1 i1))]) rfl (lenOf pd_law_2 rfl) (W := 3) rfl (by decide) (by decide) (by decide) at_187 (pc' := 190) rfl ?_
      intro v103 T103 h103 FX103 U103
      obtain ⟨r_103, vb_103, k_103, rfl, u103_0, u103_1, u103_2, u103_3, u103_4, u103_5⟩ := U103
      have G103_r : Z.heap.size ≤ r_103 := Nat.le_trans (Nat.le_trans E0.1 (Nat.le_trans E101.1 u102_0.1)) u103_1
      have X103 := FX103 [] (Or.inr rfl) all0
      show oGoes pp ee bb ss Z T103 (mkF mm 190 #[.val (.int i0), .val (.int i1), .val (.int i2), .val (.int i3), .val (.int i4), .val (.int (oLen i0)), .val (.int (oC0 i0)), .val (.int (oC1 i0)), .val (.int (oLen i1)), .val (.int (oC0 i1)), .val (.int (oC1 i1)), .val (.int (if (i4 &&& (1 : Int32)) = (0 : Int32) then (0 : Int32) else (1 : Int32))), .val (.int (if (i4 &&& (2 : Int32)) = (0 : Int32) then (0 : Int32) else (1 : Int32))), .val (.int (oLen i0)), .val (.int (oC0 i0)), .val (.int (oC1 i0)), .val (.int (oLen i1)), .val (.int (oC0 i1)), .val (.int (oC1 i1)), .val (.int (((i4.toUInt32 >>> ((2 : Int32) &&& 31).toUInt32).toInt32) &&& (3 : Int32))), .unset, .unset, .unset] [(.ref r_103), (.ref r_102), (.ref b101), (.ref b101)]) _ _ _ _
      refine o_special K X103 (y := (⟨"com/example/phone_conformance_check/phoneconformancecheck/capture/Property", "<init>", "(Ljava/lang/String;Ljava/lang/String;)V"⟩ : MethodName)) rfl (w38 hw) (w39 hw) (w12 hw) (w40 hw) (by decide) (rm_pinit l Z a0 hw b101 r_102 r_103 h103 ((A101.keep u102_0).keep u103_0) ((F101_name.keep u102_0 nin0).keep u103_0 nin0) ((F101_value.keep u102_0 nin0).keep u103_0 nin0) G101 (u102_2.keep u103_0) u103_2) (allS (List.mem_of_getElem? (i := 0) rfl) all0) (by decide) rfl (argsL := [(.ref r_102), (.ref r_103)]) rfl (lenOf pd_law_3 rfl) (W := 1) rfl (by decide) (by decide) (by decide) at_190 (pc' := 193) rfl ?_
      intro v104 T104 h104 FX104 U104
      obtain ⟨rfl, u104_0, u104_1, u104_2, u104_3⟩ := U104
      have X104 := FX104 [] (Or.inr rfl) all0
      show oGoes pp ee bb ss Z T104 (mkF mm 193 #[.val (.int i0), .val (.int i1), .val (.int i2), .val (.int i3), .val (.int i4), .val (.int (oLen i0)), .val (.int (oC0 i0)), .val (.int (oC1 i0)), .val (.int (oLen i1)), .val (.int (oC0 i1)), .val (.int (oC1 i1)), .val (.int (if (i4 &&& (1 : Int32)) = (0 : Int32) then (0 : Int32) else (1 : Int32))), .val (.int (if (i4 &&& (2 : Int32)) = (0 : Int32) then (0 : Int32) else (1 : Int32))), .val (.int (oLen i0)), .val (.int (oC0 i0)), .val (.int (oC1 i0)), .val (.int (oLen i1)), .val (.int (oC0 i1)), .val (.int (oC1 i1)), .val (.int (((i4.toUInt32 >>> ((2 : Int32) &&& 31).toUInt32).toInt32) &&& (3 : Int32))), .unset, .unset, .unset] [(.ref b101)]) _ _ _ _
      refine o_astore K X104 at_193 (pc' := 195) rfl rfl (L' := #[.val (.int i0), .val (.int i1), .val (.int i2), .val (.int i3), .val (.int i4), .val (.int (oLen i0)), .val (.int (oC0 i0)), .val (.int (oC1 i0)), .val (.int (oLen i1)), .val (.int (oC0 i1)), .val (.int (oC1 i1)), .val (.int (if (i4 &&& (1 : Int32)) = (0 : Int32) then (0 : Int32) else (1 : Int32))), .val (.int (if (i4 &&& (2 : Int32)) = (0 : Int32) then (0 : Int32) else (1 : Int32))), .val (.int (oLen i0)), .val (.int (oC0 i0)), .val (.int (oC1 i0)), .val (.int (oLen i1)), .val (.int (oC0 i1)), .val (.int (oC1 i1)), .val (.int (((i4.toUInt32 >>> ((2 : Int32) &&& 31).toUInt32).toInt32) &&& (3 : Int32))), .val (.ref b101), .unset, .unset]) rfl ?_
      refine o_iload K X104 at_195 (pc' := 197) rfl rfl ?_
      refine o_iconst K X104 at_197 (pc' := 198) rfl (z := (2 : Int32)) rfl ?_
      by_cases c198_105 : (((i4.toUInt32 >>> ((2 : Int32) &&& 31).toUInt32).toInt32) &&& (3 : Int32)) = (2 : Int32)
      · refine o_icmp_ne_f K X104 at_198 (pc' := 201) rfl c198_105 ?_
        refine o_aload K X104 at_201 (pc' := 203) rfl rfl rfl ?_
        refine o_aload K X104 at_203 (pc' := 205) rfl rfl rfl ?_
        refine o_virtual K X104 (y := (⟨"com/example/phone_conformance_check/phoneconformancecheck/capture/Property", "equals", "(Ljava/lang/Object;)Z"⟩ : MethodName)) (z := (⟨"com/example/phone_conformance_check/phoneconformancecheck/capture/Property", "equals", "(Ljava/lang/Object;)Z"⟩ : MethodName)) (w56 hw) (w57 hw) (fun _ q => notFace_of_selects (args := #[]) (mvT q (w59 hw))) (w59 hw) (w58 hw) (w12 hw) (w60 hw) (by decide) u104_1 (rm_peqself l Z a0 hw b101 r_102 r_103 h104 u104_1 u104_2 u104_3 ((u102_2.keep u103_0).keep u104_0) (u103_2.keep u104_0)) all0 (by decide) rfl (argsL := [(.ref b101)]) rfl (lenOf pd_law_4 rfl) (W := 0) rfl (by decide) (by decide) (by decide) at_205 (pc' := 208) rfl ?_
        intro v106 T106 h106 FX106 U106
        obtain ⟨rfl, rfl⟩ := U106
        have X106 := FX106 [] (Or.inl rfl) all0
        show oGoes pp ee bb ss Z T106 (mkF mm 208 #[.val (.int i0), .val (.int i1), .val (.int i2), .val (.int i3), .val (.int i4), .val (.int (oLen i0)), .val (.int (oC0 i0)), .val (.int (oC1 i0)), .val (.int (oLen i1)), .val (.int (oC0 i1)), .val (.int (oC1 i1)), .val (.int (if (i4 &&& (1 : Int32)) = (0 : Int32) then (0 : Int32) else (1 : Int32))), .val (.int (if (i4 &&& (2 : Int32)) = (0 : Int32) then (0 : Int32) else (1 : Int32))), .val (.int (oLen i0)), .val (.int (oC0 i0)), .val (.int (oC1 i0)), .val (.int (oLen i1)), .val (.int (oC0 i1)), .val (.int (oC1 i1)), .val (.int (((i4.toUInt32 >>> ((2 : Int32) &&& 31).toUInt32).toInt32) &&& (3 : Int32))), .val (.ref b101), .unset, .unset] [(.int (1 : Int32))]) _ _ _ _
        refine o_if_eq_f K X106 at_208 (pc' := 211) rfl (by decide) ?_
        refine o_aload K X106 at_211 (pc' := 213) rfl rfl rfl ?_
        refine o_aconst_null K X106 at_213 (pc' := 214) rfl ?_
        refine o_virtual K X106 (y := (⟨"com/example/phone_conformance_check/phoneconformancecheck/capture/Property", "equals", "(Ljava/lang/Object;)Z"⟩ : MethodName)) (z := (⟨"com/example/phone_conformance_check/phoneconformancecheck/capture/Property", "equals", "(Ljava/lang/Object;)Z"⟩ : MethodName)) (w56 hw) (w57 hw) (fun _ q => notFace_of_selects (args := #[]) (mvT q (w59 hw))) (w59 hw) (w58 hw) (w12 hw) (w60 hw) (by decide) u104_1 (rm_peqnull l Z a0 hw b101 h104) all0 (by decide) rfl (argsL := [.null]) rfl (lenOf pd_law_4 rfl) (W := 0) rfl (by decide) (by decide) (by decide) at_214 (pc' := 217) rfl ?_
        intro v107 T107 h107 FX107 U107
        obtain ⟨rfl, rfl⟩ := U107
        have X107 := FX107 [] (Or.inl rfl) all0
        show oGoes pp ee bb ss Z T107 (mkF mm 217 #[.val (.int i0), .val (.int i1), .val (.int i2), .val (.int i3), .val (.int i4), .val (.int (oLen i0)), .val (.int (oC0 i0)), .val (.int (oC1 i0)), .val (.int (oLen i1)), .val (.int (oC0 i1)), .val (.int (oC1 i1)), .val (.int (if (i4 &&& (1 : Int32)) = (0 : Int32) then (0 : Int32) else (1 : Int32))), .val (.int (if (i4 &&& (2 : Int32)) = (0 : Int32) then (0 : Int32) else (1 : Int32))), .val (.int (oLen i0)), .val (.int (oC0 i0)), .val (.int (oC1 i0)), .val (.int (oLen i1)), .val (.int (oC0 i1)), .val (.int (oC1 i1)), .val (.int (((i4.toUInt32 >>> ((2 : Int32) &&& 31).toUInt32).toInt32) &&& (3 : Int32))), .val (.ref b101), .unset, .unset] [(.int (0 : Int32))]) _ _ _ _
        refine o_if_ne_f K X107 at_217 (pc' := 220) rfl (by decide) ?_
        refine o_iconst K X107 at_220 (pc' := 221) rfl (z := (1 : Int32)) rfl ?_
        refine o_goto K X107 at_221 (by decide) (pc' := 225) (by decide) ?_
        refine o_ireturnN K X107 .boolean at_225 rfl (by simp) (z' := (1 : Int32)) (by decide) ?_ (by decide) (by decide) (by decide)
        exact rfl
      · refine o_icmp_ne_t K X104 at_198 (by decide) (pc' := 226) (by decide) c198_105 ?_
        refine o_iload K X104 at_226 (pc' := 228) rfl rfl ?_
        refine o_iconst K X104 at_228 (pc' := 229) rfl (z := (3 : Int32)) rfl ?_
        by_cases c229_108 : (((i4.toUInt32 >>> ((2 : Int32) &&& 31).toUInt32).toInt32) &&& (3 : Int32)) = (3 : Int32)
        · refine o_icmp_ne_f K X104 at_229 (pc' := 232) rfl c229_108 ?_
          refine o_iloadN K X104 at_232 (pc' := 233) rfl rfl ?_
          refine o_static K X104 (y := (⟨"java/lang/Integer", "valueOf", "(I)Ljava/lang/Integer;"⟩ : MethodName)) (w84 hw) (w85 hw) (w86 hw) (w87 hw) (by decide) (rm_valueof l Z a0 hw i2 ca kc vc h104 q0 q1 q2 q3) all0 (by decide) rfl (argsL := [(.int i2)]) rfl (lenOf pd_law_5 rfl) (W := 0) rfl (by decide) (by decide) (by decide) at_233 (pc' := 236) rfl ?_
          intro v109 T109 h109 FX109 U109
          obtain ⟨r_109, rfl, u109_0, u109_1⟩ := U109
          have X109 := FX109 [] (Or.inl rfl) all0
          show oGoes pp ee bb ss Z T109 (mkF mm 236 #[.val (.int i0), .val (.int i1), .val (.int i2), .val (.int i3), .val (.int i4), .val (.int (oLen i0)), .val (.int (oC0 i0)), .val (.int (oC1 i0)), .val (.int (oLen i1)), .val (.int (oC0 i1)), .val (.int (oC1 i1)), .val (.int (if (i4 &&& (1 : Int32)) = (0 : Int32) then (0 : Int32) else (1 : Int32))), .val (.int (if (i4 &&& (2 : Int32)) = (0 : Int32) then (0 : Int32) else (1 : Int32))), .val (.int (oLen i0)), .val (.int (oC0 i0)), .val (.int (oC1 i0)), .val (.int (oLen i1)), .val (.int (oC0 i1)), .val (.int (oC1 i1)), .val (.int (((i4.toUInt32 >>> ((2 : Int32) &&& 31).toUInt32).toInt32) &&& (3 : Int32))), .val (.ref b101), .unset, .unset] [(.ref r_109)]) _ _ _ _
          refine o_astore K X109 at_236 (pc' := 238) rfl rfl (L' := #[.val (.int i0), .val (.int i1), .val (.int i2), .val (.int i3), .val (.int i4), .val (.int (oLen i0)), .val (.int (oC0 i0)), .val (.int (oC1 i0)), .val (.int (oLen i1)), .val (.int (oC0 i1)), .val (.int (oC1 i1)), .val (.int (if (i4 &&& (1 : Int32)) = (0 : Int32) then (0 : Int32) else (1 : Int32))), .val (.int (if (i4 &&& (2 : Int32)) = (0 : Int32) then (0 : Int32) else (1 : Int32))), .val (.int (oLen i0)), .val (.int (oC0 i0)), .val (.int (oC1 i0)), .val (.int (oLen i1)), .val (.int (oC0 i1)), .val (.int (oC1 i1)), .val (.int (((i4.toUInt32 >>> ((2 : Int32) &&& 31).toUInt32).toInt32) &&& (3 : Int32))), .val (.ref b101), .val (.ref r_109), .unset]) rfl ?_
          refine o_iload K X109 at_238 (pc' := 240) rfl rfl ?_
          refine o_iload K X109 at_240 (pc' := 242) rfl rfl ?_
          refine o_iload K X109 at_242 (pc' := 244) rfl rfl ?_
          refine o_static K X109 (y := (⟨"com/example/phone_conformance_check/phoneconformancecheck/capture/PropertyEqualsPinLaw", "mk", "(ICC)Ljava/lang/String;"⟩ : MethodName)) (w13 hw) (w14 hw) (w2 hw) (w15 hw) (by decide) (rm_mk l Z a0 hw (oLen i0) (oC0 i0) (oC1 i0) cs h109 q4 q5 (oChM _).2 (oChM _).2 (oNarMask _ (by decide)) (oNarMask _ (by decide))) all0 (by decide) rfl (argsL := [(.int (oLen i0)), (.int (oC0 i0)), (.int (oC1 i0))]) rfl (lenOf pd_law_2 rfl) (W := 0) rfl (by decide) (by decide) (by decide) at_244 (pc' := 247) rfl ?_
          intro v110 T110 h110 FX110 U110
          obtain ⟨r_110, vb_110, k_110, rfl, u110_0, u110_1, u110_2, u110_3, u110_4, u110_5⟩ := U110
          have G110_r : Z.heap.size ≤ r_110 := Nat.le_trans (Nat.le_trans E0.1 (Nat.le_trans (Nat.le_trans (Nat.le_trans (Nat.le_trans E101.1 u102_0.1) u103_0.1) u104_0.1) u109_0.1)) u110_1
          have X110 := FX110 [] (Or.inr rfl) all0
          show oGoes pp ee bb ss Z T110 (mkF mm 247 #[.val (.int i0), .val (.int i1), .val (.int i2), .val (.int i3), .val (.int i4), .val (.int (oLen i0)), .val (.int (oC0 i0)), .val (.int (oC1 i0)), .val (.int (oLen i1)), .val (.int (oC0 i1)), .val (.int (oC1 i1)), .val (.int (if (i4 &&& (1 : Int32)) = (0 : Int32) then (0 : Int32) else (1 : Int32))), .val (.int (if (i4 &&& (2 : Int32)) = (0 : Int32) then (0 : Int32) else (1 : Int32))), .val (.int (oLen i0)), .val (.int (oC0 i0)), .val (.int (oC1 i0)), .val (.int (oLen i1)), .val (.int (oC0 i1)), .val (.int (oC1 i1)), .val (.int (((i4.toUInt32 >>> ((2 : Int32) &&& 31).toUInt32).toInt32) &&& (3 : Int32))), .val (.ref b101), .val (.ref r_109), .unset] [(.ref r_110)]) _ _ _ _
          refine o_astore K X110 at_247 (pc' := 249) rfl rfl (L' := #[.val (.int i0), .val (.int i1), .val (.int i2), .val (.int i3), .val (.int i4), .val (.int (oLen i0)), .val (.int (oC0 i0)), .val (.int (oC1 i0)), .val (.int (oLen i1)), .val (.int (oC0 i1)), .val (.int (oC1 i1)), .val (.int (if (i4 &&& (1 : Int32)) = (0 : Int32) then (0 : Int32) else (1 : Int32))), .val (.int (if (i4 &&& (2 : Int32)) = (0 : Int32) then (0 : Int32) else (1 : Int32))), .val (.int (oLen i0)), .val (.int (oC0 i0)), .val (.int (oC1 i0)), .val (.int (oLen i1)), .val (.int (oC0 i1)), .val (.int (oC1 i1)), .val (.int (((i4.toUInt32 >>> ((2 : Int32) &&& 31).toUInt32).toInt32) &&& (3 : Int32))), .val (.ref b101), .val (.ref r_109), .val (.ref r_110)]) rfl ?_
          refine o_aload K X110 at_249 (pc' := 251) rfl rfl rfl ?_
          refine o_aload K X110 at_251 (pc' := 253) rfl rfl rfl ?_
          refine o_virtual K X110 (y := (⟨"com/example/phone_conformance_check/phoneconformancecheck/capture/Property", "equals", "(Ljava/lang/Object;)Z"⟩ : MethodName)) (z := (⟨"com/example/phone_conformance_check/phoneconformancecheck/capture/Property", "equals", "(Ljava/lang/Object;)Z"⟩ : MethodName)) (w56 hw) (w57 hw) (fun _ q => notFace_of_selects (args := #[]) (mvT q (w59 hw))) (w59 hw) (w58 hw) (w12 hw) (w60 hw) (by decide) ((u104_1.keep u109_0).keep u110_0) (rm_peqint l Z a0 hw b101 r_109 h110 (u109_1.keep u110_0)) all0 (by decide) rfl (argsL := [(.ref r_109)]) rfl (lenOf pd_law_4 rfl) (W := 0) rfl (by decide) (by decide) (by decide) at_253 (pc' := 256) rfl ?_
          intro v111 T111 h111 FX111 U111
          obtain ⟨rfl, rfl⟩ := U111
          have X111 := FX111 [] (Or.inl rfl) all0
          show oGoes pp ee bb ss Z T111 (mkF mm 256 #[.val (.int i0), .val (.int i1), .val (.int i2), .val (.int i3), .val (.int i4), .val (.int (oLen i0)), .val (.int (oC0 i0)), .val (.int (oC1 i0)), .val (.int (oLen i1)), .val (.int (oC0 i1)), .val (.int (oC1 i1)), .val (.int (if (i4 &&& (1 : Int32)) = (0 : Int32) then (0 : Int32) else (1 : Int32))), .val (.int (if (i4 &&& (2 : Int32)) = (0 : Int32) then (0 : Int32) else (1 : Int32))), .val (.int (oLen i0)), .val (.int (oC0 i0)), .val (.int (oC1 i0)), .val (.int (oLen i1)), .val (.int (oC0 i1)), .val (.int (oC1 i1)), .val (.int (((i4.toUInt32 >>> ((2 : Int32) &&& 31).toUInt32).toInt32) &&& (3 : Int32))), .val (.ref b101), .val (.ref r_109), .val (.ref r_110)] [(.int (0 : Int32))]) _ _ _ _
          refine o_if_ne_f K X111 at_256 (pc' := 259) rfl (by decide) ?_
          refine o_aload K X111 at_259 (pc' := 261) rfl rfl rfl ?_
          refine o_aload K X111 at_261 (pc' := 263) rfl rfl rfl ?_
          refine o_virtual K X111 (y := (⟨"com/example/phone_conformance_check/phoneconformancecheck/capture/Property", "equals", "(Ljava/lang/Object;)Z"⟩ : MethodName)) (z := (⟨"com/example/phone_conformance_check/phoneconformancecheck/capture/Property", "equals", "(Ljava/lang/Object;)Z"⟩ : MethodName)) (w56 hw) (w57 hw) (fun _ q => notFace_of_selects (args := #[]) (mvT q (w59 hw))) (w59 hw) (w58 hw) (w12 hw) (w60 hw) (by decide) ((u104_1.keep u109_0).keep u110_0) (rm_peqstr l Z a0 hw b101 r_110 h110 u110_2) all0 (by decide) rfl (argsL := [(.ref r_110)]) rfl (lenOf pd_law_4 rfl) (W := 0) rfl (by decide) (by decide) (by decide) at_263 (pc' := 266) rfl ?_
          intro v112 T112 h112 FX112 U112
          obtain ⟨rfl, rfl⟩ := U112
          have X112 := FX112 [] (Or.inl rfl) all0
          show oGoes pp ee bb ss Z T112 (mkF mm 266 #[.val (.int i0), .val (.int i1), .val (.int i2), .val (.int i3), .val (.int i4), .val (.int (oLen i0)), .val (.int (oC0 i0)), .val (.int (oC1 i0)), .val (.int (oLen i1)), .val (.int (oC0 i1)), .val (.int (oC1 i1)), .val (.int (if (i4 &&& (1 : Int32)) = (0 : Int32) then (0 : Int32) else (1 : Int32))), .val (.int (if (i4 &&& (2 : Int32)) = (0 : Int32) then (0 : Int32) else (1 : Int32))), .val (.int (oLen i0)), .val (.int (oC0 i0)), .val (.int (oC1 i0)), .val (.int (oLen i1)), .val (.int (oC0 i1)), .val (.int (oC1 i1)), .val (.int (((i4.toUInt32 >>> ((2 : Int32) &&& 31).toUInt32).toInt32) &&& (3 : Int32))), .val (.ref b101), .val (.ref r_109), .val (.ref r_110)] [(.int (0 : Int32))]) _ _ _ _
          refine o_if_ne_f K X112 at_266 (pc' := 269) rfl (by decide) ?_
          refine o_iconst K X112 at_269 (pc' := 270) rfl (z := (1 : Int32)) rfl ?_
          refine o_goto K X112 at_270 (by decide) (pc' := 274) (by decide) ?_
          refine o_ireturnN K X112 .boolean at_274 rfl (by simp) (z' := (1 : Int32)) (by decide) ?_ (by decide) (by decide) (by decide)
          exact rfl
        · refine o_icmp_ne_t K X104 at_229 (by decide) (pc' := 275) (by decide) c229_108 ?_
          refine o_new K X104 (w10 hw) (w11 hw) (w12 hw) at_275 (pc' := 278) rfl (by decide) (by decide) ?_
          intro T113 h113 b113 X113 g113 E113 A113 D113 G113
          have F113_name : Fld Z h113 b113 "com/example/phone_conformance_check/phoneconformancecheck/capture/Property" "name" "Ljava/lang/String;" .null := (D113 (Or.inr (w49 hw)) (ty := (.object "java/lang/String")) (by decide))
          have F113_value : Fld Z h113 b113 "com/example/phone_conformance_check/phoneconformancecheck/capture/Property" "value" "Ljava/lang/String;" .null := (D113 (Or.inr (w52 hw)) (ty := (.object "java/lang/String")) (by decide))
          refine o_dup K X113 at_278 (pc' := 279) rfl rfl ?_
          refine o_iload K X113 at_279 (pc' := 281) rfl rfl ?_
          refine o_iload K X113 at_281 (pc' := 283) rfl rfl ?_
          refine o_iload K X113 at_283 (pc' := 285) rfl rfl ?_
          refine o_static K X113 (y := (⟨"com/example/phone_conformance_check/phoneconformancecheck/capture/PropertyEqualsPinLaw", "mk", "(ICC)Ljava/lang/String;"⟩ : MethodName)) (w13 hw) (w14 hw) (w2 hw) (w15 hw) (by decide) (rm_mk l Z a0 hw (oLen i0) (oC0 i0) (oC1 i0) cs h113 q4 q5 (oChM _).2 (oChM _).2 (oNarMask _ (by decide)) (oNarMask _ (by decide))) all0 (by decide) rfl (argsL := [(.int (oLen i0)), (.int (oC0 i0)), (.int (oC1 i0))]) rfl (lenOf pd_law_2 rfl) (W := 2) rfl (by decide) (by decide) (by decide) at_285 (pc' := 288) rfl ?_
          intro v114 T114 h114 FX114 U114
          obtain ⟨r_114, vb_114, k_114, rfl, u114_0, u114_1, u114_2, u114_3, u114_4, u114_5⟩ := U114
          have G114_r : Z.heap.size ≤ r_114 := Nat.le_trans (Nat.le_trans E0.1 (Nat.le_trans (Nat.le_trans (Nat.le_trans (Nat.le_trans E101.1 u102_0.1) u103_0.1) u104_0.1) E113.1)) u114_1
          have X114 := FX114 [] (Or.inr rfl) all0
          show oGoes pp ee bb ss Z T114 (mkF mm 288 #[.val (.int i0), .val (.int i1), .val (.int i2), .val (.int i3), .val (.int i4), .val (.int (oLen i0)), .val (.int (oC0 i0)), .val (.int (oC1 i0)), .val (.int (oLen i1)), .val (.int (oC0 i1)), .val (.int (oC1 i1)), .val (.int (if (i4 &&& (1 : Int32)) = (0 : Int32) then (0 : Int32) else (1 : Int32))), .val (.int (if (i4 &&& (2 : Int32)) = (0 : Int32) then (0 : Int32) else (1 : Int32))), .val (.int (oLen i0)), .val (.int (oC0 i0)), .val (.int (oC1 i0)), .val (.int (oLen i1)), .val (.int (oC0 i1)), .val (.int (oC1 i1)), .val (.int (((i4.toUInt32 >>> ((2 : Int32) &&& 31).toUInt32).toInt32) &&& (3 : Int32))), .val (.ref b101), .unset, .unset] [(.ref r_114), (.ref b113), (.ref b113)]) _ _ _ _
          refine o_iload K X114 at_288 (pc' := 290) rfl rfl ?_
          refine o_iload K X114 at_290 (pc' := 292) rfl rfl ?_
          refine o_iload K X114 at_292 (pc' := 294) rfl rfl ?_
          refine o_static K X114 (y := (⟨"com/example/phone_conformance_check/phoneconformancecheck/capture/PropertyEqualsPinLaw", "mk", "(ICC)Ljava/lang/String;"⟩ : MethodName)) (w13 hw) (w14 hw) (w2 hw) (w15 hw) (by decide) (rm_mk l Z a0 hw (oLen i1) (oC0 i1) (oC1 i1) cs h114 q4 q5 (oChM _).2 (oChM _).2 (oNarMask _ (by decide)) (oNarMask _ (by decide))) all0 (by decide) rfl (argsL := [(.int (oLen i1)), (.int (oC0 i1)), (.int (oC1 i1))]) rfl (lenOf pd_law_2 rfl) (W := 3) rfl (by decide) (by decide) (by decide) at_294 (pc' := 297) rfl ?_
          intro v115 T115 h115 FX115 U115
          obtain ⟨r_115, vb_115, k_115, rfl, u115_0, u115_1, u115_2, u115_3, u115_4, u115_5⟩ := U115
          have G115_r : Z.heap.size ≤ r_115 := Nat.le_trans (Nat.le_trans E0.1 (Nat.le_trans (Nat.le_trans (Nat.le_trans (Nat.le_trans (Nat.le_trans E101.1 u102_0.1) u103_0.1) u104_0.1) E113.1) u114_0.1)) u115_1
          have X115 := FX115 [] (Or.inr rfl) all0
          show oGoes pp ee bb ss Z T115 (mkF mm 297 #[.val (.int i0), .val (.int i1), .val (.int i2), .val (.int i3), .val (.int i4), .val (.int (oLen i0)), .val (.int (oC0 i0)), .val (.int (oC1 i0)), .val (.int (oLen i1)), .val (.int (oC0 i1)), .val (.int (oC1 i1)), .val (.int (if (i4 &&& (1 : Int32)) = (0 : Int32) then (0 : Int32) else (1 : Int32))), .val (.int (if (i4 &&& (2 : Int32)) = (0 : Int32) then (0 : Int32) else (1 : Int32))), .val (.int (oLen i0)), .val (.int (oC0 i0)), .val (.int (oC1 i0)), .val (.int (oLen i1)), .val (.int (oC0 i1)), .val (.int (oC1 i1)), .val (.int (((i4.toUInt32 >>> ((2 : Int32) &&& 31).toUInt32).toInt32) &&& (3 : Int32))), .val (.ref b101), .unset, .unset] [(.ref r_115), (.ref r_114), (.ref b113), (.ref b113)]) _ _ _ _
          refine o_special K X115 (y := (⟨"com/example/phone_conformance_check/phoneconformancecheck/capture/Property", "<init>", "(Ljava/lang/String;Ljava/lang/String;)V"⟩ : MethodName)) rfl (w38 hw) (w39 hw) (w12 hw) (w40 hw) (by decide) (rm_pinit l Z a0 hw b113 r_114 r_115 h115 ((A113.keep u114_0).keep u115_0) ((F113_name.keep u114_0 nin0).keep u115_0 nin0) ((F113_value.keep u114_0 nin0).keep u115_0 nin0) G113 (u114_2.keep u115_0) u115_2) (allS (List.mem_of_getElem? (i := 0) rfl) all0) (by decide) rfl (argsL := [(.ref r_114), (.ref r_115)]) rfl (lenOf pd_law_3 rfl) (W := 1) rfl (by decide) (by decide) (by decide) at_297 (pc' := 300) rfl ?_
          intro v116 T116 h116 FX116 U116
          obtain ⟨rfl, u116_0, u116_1, u116_2, u116_3⟩ := U116
          have X116 := FX116 [] (Or.inr rfl) all0
          show oGoes pp ee bb ss Z T116 (mkF mm 300 #[.val (.int i0), .val (.int i1), .val (.int i2), .val (.int i3), .val (.int i4), .val (.int (oLen i0)), .val (.int (oC0 i0)), .val (.int (oC1 i0)), .val (.int (oLen i1)), .val (.int (oC0 i1)), .val (.int (oC1 i1)), .val (.int (if (i4 &&& (1 : Int32)) = (0 : Int32) then (0 : Int32) else (1 : Int32))), .val (.int (if (i4 &&& (2 : Int32)) = (0 : Int32) then (0 : Int32) else (1 : Int32))), .val (.int (oLen i0)), .val (.int (oC0 i0)), .val (.int (oC1 i0)), .val (.int (oLen i1)), .val (.int (oC0 i1)), .val (.int (oC1 i1)), .val (.int (((i4.toUInt32 >>> ((2 : Int32) &&& 31).toUInt32).toInt32) &&& (3 : Int32))), .val (.ref b101), .unset, .unset] [(.ref b113)]) _ _ _ _
          refine o_astore K X116 at_300 (pc' := 302) rfl rfl (L' := #[.val (.int i0), .val (.int i1), .val (.int i2), .val (.int i3), .val (.int i4), .val (.int (oLen i0)), .val (.int (oC0 i0)), .val (.int (oC1 i0)), .val (.int (oLen i1)), .val (.int (oC0 i1)), .val (.int (oC1 i1)), .val (.int (if (i4 &&& (1 : Int32)) = (0 : Int32) then (0 : Int32) else (1 : Int32))), .val (.int (if (i4 &&& (2 : Int32)) = (0 : Int32) then (0 : Int32) else (1 : Int32))), .val (.int (oLen i0)), .val (.int (oC0 i0)), .val (.int (oC1 i0)), .val (.int (oLen i1)), .val (.int (oC0 i1)), .val (.int (oC1 i1)), .val (.int (((i4.toUInt32 >>> ((2 : Int32) &&& 31).toUInt32).toInt32) &&& (3 : Int32))), .val (.ref b101), .val (.ref b113), .unset]) rfl ?_
          refine o_iload K X116 at_302 (pc' := 304) rfl rfl ?_
          refine o_iload K X116 at_304 (pc' := 306) rfl rfl ?_
          refine o_iload K X116 at_306 (pc' := 308) rfl rfl ?_
          refine o_iload K X116 at_308 (pc' := 310) rfl rfl ?_
          refine o_iload K X116 at_310 (pc' := 312) rfl rfl ?_
          refine o_iload K X116 at_312 (pc' := 314) rfl rfl ?_
          refine o_static K X116 (y := (⟨"com/example/phone_conformance_check/phoneconformancecheck/capture/PropertyEqualsPinLaw", "same", "(ICCICC)Z"⟩ : MethodName)) (w53 hw) (w54 hw) (w2 hw) (w55 hw) (by decide) (rm_same l Z a0 hw (oLen i0) (oC0 i0) (oC1 i0) (oLen i0) (oC0 i0) (oC1 i0) h116) all0 (by decide) rfl (argsL := [(.int (oLen i0)), (.int (oC0 i0)), (.int (oC1 i0)), (.int (oLen i0)), (.int (oC0 i0)), (.int (oC1 i0))]) rfl (lenOf pd_law_6 rfl) (W := 0) rfl (by decide) (by decide) (by decide) at_314 (pc' := 317) rfl ?_
          intro v117 T117 h117 FX117 U117
          obtain ⟨rfl, rfl⟩ := U117
          have X117 := FX117 [] (Or.inl rfl) all0
          show oGoes pp ee bb ss Z T117 (mkF mm 317 #[.val (.int i0), .val (.int i1), .val (.int i2), .val (.int i3), .val (.int i4), .val (.int (oLen i0)), .val (.int (oC0 i0)), .val (.int (oC1 i0)), .val (.int (oLen i1)), .val (.int (oC0 i1)), .val (.int (oC1 i1)), .val (.int (if (i4 &&& (1 : Int32)) = (0 : Int32) then (0 : Int32) else (1 : Int32))), .val (.int (if (i4 &&& (2 : Int32)) = (0 : Int32) then (0 : Int32) else (1 : Int32))), .val (.int (oLen i0)), .val (.int (oC0 i0)), .val (.int (oC1 i0)), .val (.int (oLen i1)), .val (.int (oC0 i1)), .val (.int (oC1 i1)), .val (.int (((i4.toUInt32 >>> ((2 : Int32) &&& 31).toUInt32).toInt32) &&& (3 : Int32))), .val (.ref b101), .val (.ref b113), .unset] [(.int (oSm (oLen i0) (oC0 i0) (oC1 i0) (oLen i0) (oC0 i0) (oC1 i0)))]) _ _ _ _
          by_cases c317_118 : (oSm (oLen i0) (oC0 i0) (oC1 i0) (oLen i0) (oC0 i0) (oC1 i0)) = (0 : Int32)
          · refine o_if_eq_t K X117 at_317 (by decide) (pc' := 342) (by decide) c317_118 ?_
            refine o_iconst K X117 at_342 (pc' := 343) rfl (z := (0 : Int32)) rfl ?_
            refine o_istore K X117 at_343 (pc' := 345) rfl (L' := #[.val (.int i0), .val (.int i1), .val (.int i2), .val (.int i3), .val (.int i4), .val (.int (oLen i0)), .val (.int (oC0 i0)), .val (.int (oC1 i0)), .val (.int (oLen i1)), .val (.int (oC0 i1)), .val (.int (oC1 i1)), .val (.int (if (i4 &&& (1 : Int32)) = (0 : Int32) then (0 : Int32) else (1 : Int32))), .val (.int (if (i4 &&& (2 : Int32)) = (0 : Int32) then (0 : Int32) else (1 : Int32))), .val (.int (oLen i0)), .val (.int (oC0 i0)), .val (.int (oC1 i0)), .val (.int (oLen i1)), .val (.int (oC0 i1)), .val (.int (oC1 i1)), .val (.int (((i4.toUInt32 >>> ((2 : Int32) &&& 31).toUInt32).toInt32) &&& (3 : Int32))), .val (.ref b101), .val (.ref b113), .val (.int (0 : Int32))]) rfl ?_
            refine o_aload K X117 at_345 (pc' := 347) rfl rfl rfl ?_
            refine o_aload K X117 at_347 (pc' := 349) rfl rfl rfl ?_
            refine o_virtual K X117 (y := (⟨"com/example/phone_conformance_check/phoneconformancecheck/capture/Property", "equals", "(Ljava/lang/Object;)Z"⟩ : MethodName)) (z := (⟨"com/example/phone_conformance_check/phoneconformancecheck/capture/Property", "equals", "(Ljava/lang/Object;)Z"⟩ : MethodName)) (w56 hw) (w57 hw) (fun _ q => notFace_of_selects (args := #[]) (mvT q (w59 hw))) (w59 hw) (w58 hw) (w12 hw) (w60 hw) (by decide) ((((u104_1.ext E113).keep u114_0).keep u115_0).keep u116_0) (rm_peq l Z a0 hw b101 b113 r_102 vb_102 r_103 vb_103 r_114 vb_114 r_115 vb_115 k_102 k_103 k_114 k_115 (oLen i0) (oC0 i0) (oC1 i0) (oLen i0) (oC0 i0) (oC1 i0) (oLen i1) (oC0 i1) (oC1 i1) (oLen i1) (oC0 i1) (oC1 i1) cs h116 ((((u104_1.ext E113).keep u114_0).keep u115_0).keep u116_0) ((((u104_2.ext E113).keep u114_0 nin0).keep u115_0 nin0).keep u116_0 (ninS (Nat.ne_of_lt (Nat.lt_of_lt_of_le (Nat.lt_of_lt_of_le A101.lt (Nat.le_trans (Nat.le_trans u102_0.1 u103_0.1) u104_0.1)) (Nat.le_of_eq g113.symm))) nin0)) ((((u104_3.ext E113).keep u114_0 nin0).keep u115_0 nin0).keep u116_0 (ninS (Nat.ne_of_lt (Nat.lt_of_lt_of_le (Nat.lt_of_lt_of_le A101.lt (Nat.le_trans (Nat.le_trans u102_0.1 u103_0.1) u104_0.1)) (Nat.le_of_eq g113.symm))) nin0)) u116_1 u116_2 u116_3 ((((((u102_2.keep u103_0).keep u104_0).ext E113).keep u114_0).keep u115_0).keep u116_0) ((((((u102_3.keep u103_0 nin0).keep u104_0 (ninS (Ne.symm (Nat.ne_of_lt (Nat.lt_of_lt_of_le A101.lt u102_1))) nin0)).ext E113).keep u114_0 nin0).keep u115_0 nin0).keep u116_0 (ninS (Nat.ne_of_lt (Nat.lt_of_lt_of_le (Nat.lt_of_lt_of_le u102_2.lt (Nat.le_trans u103_0.1 u104_0.1)) (Nat.le_of_eq g113.symm))) nin0)) ((((((u102_4.keep u103_0 nin0).keep u104_0 (ninS (Ne.symm (Nat.ne_of_lt (Nat.lt_of_lt_of_le A101.lt u102_1))) nin0)).ext E113).keep u114_0 nin0).keep u115_0 nin0).keep u116_0 (ninS (Nat.ne_of_lt (Nat.lt_of_lt_of_le (Nat.lt_of_lt_of_le u102_2.lt (Nat.le_trans u103_0.1 u104_0.1)) (Nat.le_of_eq g113.symm))) nin0)) ((((((u102_5.keep u103_0 nin0).keep u104_0 (ninS (oNeArr (A101.keep u102_0) (w11 hw) u102_5) nin0)).ext E113).keep u114_0 nin0).keep u115_0 nin0).keep u116_0 (ninS (Nat.ne_of_lt (Nat.lt_of_lt_of_le (Nat.lt_of_lt_of_le u102_5.lt (Nat.le_trans u103_0.1 u104_0.1)) (Nat.le_of_eq g113.symm))) nin0)) (((((u103_2.keep u104_0).ext E113).keep u114_0).keep u115_0).keep u116_0) (((((u103_3.keep u104_0 (ninS (Ne.symm (Nat.ne_of_lt (Nat.lt_of_lt_of_le (Nat.lt_of_lt_of_le A101.lt u102_0.1) u103_1))) nin0)).ext E113).keep u114_0 nin0).keep u115_0 nin0).keep u116_0 (ninS (Nat.ne_of_lt (Nat.lt_of_lt_of_le (Nat.lt_of_lt_of_le u103_2.lt u104_0.1) (Nat.le_of_eq g113.symm))) nin0)) (((((u103_4.keep u104_0 (ninS (Ne.symm (Nat.ne_of_lt (Nat.lt_of_lt_of_le (Nat.lt_of_lt_of_le A101.lt u102_0.1) u103_1))) nin0)).ext E113).keep u114_0 nin0).keep u115_0 nin0).keep u116_0 (ninS (Nat.ne_of_lt (Nat.lt_of_lt_of_le (Nat.lt_of_lt_of_le u103_2.lt u104_0.1) (Nat.le_of_eq g113.symm))) nin0)) (((((u103_5.keep u104_0 (ninS (oNeArr ((A101.keep u102_0).keep u103_0) (w11 hw) u103_5) nin0)).ext E113).keep u114_0 nin0).keep u115_0 nin0).keep u116_0 (ninS (Nat.ne_of_lt (Nat.lt_of_lt_of_le (Nat.lt_of_lt_of_le u103_5.lt u104_0.1) (Nat.le_of_eq g113.symm))) nin0)) ((u114_2.keep u115_0).keep u116_0) ((u114_3.keep u115_0 nin0).keep u116_0 (ninS (Ne.symm (Nat.ne_of_lt (Nat.lt_of_lt_of_le A113.lt u114_1))) nin0)) ((u114_4.keep u115_0 nin0).keep u116_0 (ninS (Ne.symm (Nat.ne_of_lt (Nat.lt_of_lt_of_le A113.lt u114_1))) nin0)) ((u114_5.keep u115_0 nin0).keep u116_0 (ninS (oNeArr (A113.keep u114_0) (w11 hw) u114_5) nin0)) (u115_2.keep u116_0) (u115_3.keep u116_0 (ninS (Ne.symm (Nat.ne_of_lt (Nat.lt_of_lt_of_le (Nat.lt_of_lt_of_le A113.lt u114_0.1) u115_1))) nin0)) (u115_4.keep u116_0 (ninS (Ne.symm (Nat.ne_of_lt (Nat.lt_of_lt_of_le (Nat.lt_of_lt_of_le A113.lt u114_0.1) u115_1))) nin0)) (u115_5.keep u116_0 (ninS (oNeArr ((A113.keep u114_0).keep u115_0) (w11 hw) u115_5) nin0)) (Nat.ne_of_lt (Nat.lt_of_lt_of_le (Nat.lt_of_lt_of_le u102_2.lt (Nat.le_trans (Nat.le_trans u103_0.1 u104_0.1) E113.1)) u114_1)) (Nat.ne_of_lt (Nat.lt_of_lt_of_le (Nat.lt_of_lt_of_le u103_2.lt (Nat.le_trans (Nat.le_trans u104_0.1 E113.1) u114_0.1)) u115_1)) (oChM _) (oChM _) (oChM _) (oChM _) (oLenL _) (oLenL _) (oChM _) (oChM _) (oChM _) (oChM _) (oLenL _) (oLenL _) q4 q5) all0 (by decide) rfl (argsL := [(.ref b113)]) rfl (lenOf pd_law_4 rfl) (W := 0) rfl (by decide) (by decide) (by decide) at_349 (pc' := 352) rfl ?_
            intro v119 T119 h119 FX119 U119
            obtain ⟨rfl, rfl⟩ := U119
            have X119 := FX119 [] (Or.inl rfl) all0
            show oGoes pp ee bb ss Z T119 (mkF mm 352 #[.val (.int i0), .val (.int i1), .val (.int i2), .val (.int i3), .val (.int i4), .val (.int (oLen i0)), .val (.int (oC0 i0)), .val (.int (oC1 i0)), .val (.int (oLen i1)), .val (.int (oC0 i1)), .val (.int (oC1 i1)), .val (.int (if (i4 &&& (1 : Int32)) = (0 : Int32) then (0 : Int32) else (1 : Int32))), .val (.int (if (i4 &&& (2 : Int32)) = (0 : Int32) then (0 : Int32) else (1 : Int32))), .val (.int (oLen i0)), .val (.int (oC0 i0)), .val (.int (oC1 i0)), .val (.int (oLen i1)), .val (.int (oC0 i1)), .val (.int (oC1 i1)), .val (.int (((i4.toUInt32 >>> ((2 : Int32) &&& 31).toUInt32).toInt32) &&& (3 : Int32))), .val (.ref b101), .val (.ref b113), .val (.int (0 : Int32))] [(.int (oSm2 (oSm (oLen i0) (oC0 i0) (oC1 i0) (oLen i0) (oC0 i0) (oC1 i0)) (oSm (oLen i1) (oC0 i1) (oC1 i1) (oLen i1) (oC0 i1) (oC1 i1))))]) _ _ _ _
            refine o_iload K X119 at_352 (pc' := 354) rfl rfl ?_
            refine o_icmp_ne_f K X119 at_354 (pc' := 357) rfl (by have e0 := oSmFp c317_118; simp [oSm2, c317_118, e0]) ?_
            refine o_aload K X119 at_357 (pc' := 359) rfl rfl rfl ?_
            refine o_aload K X119 at_359 (pc' := 361) rfl rfl rfl ?_
            refine o_virtual K X119 (y := (⟨"com/example/phone_conformance_check/phoneconformancecheck/capture/Property", "equals", "(Ljava/lang/Object;)Z"⟩ : MethodName)) (z := (⟨"com/example/phone_conformance_check/phoneconformancecheck/capture/Property", "equals", "(Ljava/lang/Object;)Z"⟩ : MethodName)) (w56 hw) (w57 hw) (fun _ q => notFace_of_selects (args := #[]) (mvT q (w59 hw))) (w59 hw) (w58 hw) (w12 hw) (w60 hw) (by decide) u116_1 (rm_peq l Z a0 hw b113 b101 r_114 vb_114 r_115 vb_115 r_102 vb_102 r_103 vb_103 k_114 k_115 k_102 k_103 (oLen i0) (oC0 i0) (oC1 i0) (oLen i0) (oC0 i0) (oC1 i0) (oLen i1) (oC0 i1) (oC1 i1) (oLen i1) (oC0 i1) (oC1 i1) cs h116 u116_1 u116_2 u116_3 ((((u104_1.ext E113).keep u114_0).keep u115_0).keep u116_0) ((((u104_2.ext E113).keep u114_0 nin0).keep u115_0 nin0).keep u116_0 (ninS (Nat.ne_of_lt (Nat.lt_of_lt_of_le (Nat.lt_of_lt_of_le A101.lt (Nat.le_trans (Nat.le_trans u102_0.1 u103_0.1) u104_0.1)) (Nat.le_of_eq g113.symm))) nin0)) ((((u104_3.ext E113).keep u114_0 nin0).keep u115_0 nin0).keep u116_0 (ninS (Nat.ne_of_lt (Nat.lt_of_lt_of_le (Nat.lt_of_lt_of_le A101.lt (Nat.le_trans (Nat.le_trans u102_0.1 u103_0.1) u104_0.1)) (Nat.le_of_eq g113.symm))) nin0)) ((u114_2.keep u115_0).keep u116_0) ((u114_3.keep u115_0 nin0).keep u116_0 (ninS (Ne.symm (Nat.ne_of_lt (Nat.lt_of_lt_of_le A113.lt u114_1))) nin0)) ((u114_4.keep u115_0 nin0).keep u116_0 (ninS (Ne.symm (Nat.ne_of_lt (Nat.lt_of_lt_of_le A113.lt u114_1))) nin0)) ((u114_5.keep u115_0 nin0).keep u116_0 (ninS (oNeArr (A113.keep u114_0) (w11 hw) u114_5) nin0)) (u115_2.keep u116_0) (u115_3.keep u116_0 (ninS (Ne.symm (Nat.ne_of_lt (Nat.lt_of_lt_of_le (Nat.lt_of_lt_of_le A113.lt u114_0.1) u115_1))) nin0)) (u115_4.keep u116_0 (ninS (Ne.symm (Nat.ne_of_lt (Nat.lt_of_lt_of_le (Nat.lt_of_lt_of_le A113.lt u114_0.1) u115_1))) nin0)) (u115_5.keep u116_0 (ninS (oNeArr ((A113.keep u114_0).keep u115_0) (w11 hw) u115_5) nin0)) ((((((u102_2.keep u103_0).keep u104_0).ext E113).keep u114_0).keep u115_0).keep u116_0) ((((((u102_3.keep u103_0 nin0).keep u104_0 (ninS (Ne.symm (Nat.ne_of_lt (Nat.lt_of_lt_of_le A101.lt u102_1))) nin0)).ext E113).keep u114_0 nin0).keep u115_0 nin0).keep u116_0 (ninS (Nat.ne_of_lt (Nat.lt_of_lt_of_le (Nat.lt_of_lt_of_le u102_2.lt (Nat.le_trans u103_0.1 u104_0.1)) (Nat.le_of_eq g113.symm))) nin0)) ((((((u102_4.keep u103_0 nin0).keep u104_0 (ninS (Ne.symm (Nat.ne_of_lt (Nat.lt_of_lt_of_le A101.lt u102_1))) nin0)).ext E113).keep u114_0 nin0).keep u115_0 nin0).keep u116_0 (ninS (Nat.ne_of_lt (Nat.lt_of_lt_of_le (Nat.lt_of_lt_of_le u102_2.lt (Nat.le_trans u103_0.1 u104_0.1)) (Nat.le_of_eq g113.symm))) nin0)) ((((((u102_5.keep u103_0 nin0).keep u104_0 (ninS (oNeArr (A101.keep u102_0) (w11 hw) u102_5) nin0)).ext E113).keep u114_0 nin0).keep u115_0 nin0).keep u116_0 (ninS (Nat.ne_of_lt (Nat.lt_of_lt_of_le (Nat.lt_of_lt_of_le u102_5.lt (Nat.le_trans u103_0.1 u104_0.1)) (Nat.le_of_eq g113.symm))) nin0)) (((((u103_2.keep u104_0).ext E113).keep u114_0).keep u115_0).keep u116_0) (((((u103_3.keep u104_0 (ninS (Ne.symm (Nat.ne_of_lt (Nat.lt_of_lt_of_le (Nat.lt_of_lt_of_le A101.lt u102_0.1) u103_1))) nin0)).ext E113).keep u114_0 nin0).keep u115_0 nin0).keep u116_0 (ninS (Nat.ne_of_lt (Nat.lt_of_lt_of_le (Nat.lt_of_lt_of_le u103_2.lt u104_0.1) (Nat.le_of_eq g113.symm))) nin0)) (((((u103_4.keep u104_0 (ninS (Ne.symm (Nat.ne_of_lt (Nat.lt_of_lt_of_le (Nat.lt_of_lt_of_le A101.lt u102_0.1) u103_1))) nin0)).ext E113).keep u114_0 nin0).keep u115_0 nin0).keep u116_0 (ninS (Nat.ne_of_lt (Nat.lt_of_lt_of_le (Nat.lt_of_lt_of_le u103_2.lt u104_0.1) (Nat.le_of_eq g113.symm))) nin0)) (((((u103_5.keep u104_0 (ninS (oNeArr ((A101.keep u102_0).keep u103_0) (w11 hw) u103_5) nin0)).ext E113).keep u114_0 nin0).keep u115_0 nin0).keep u116_0 (ninS (Nat.ne_of_lt (Nat.lt_of_lt_of_le (Nat.lt_of_lt_of_le u103_5.lt u104_0.1) (Nat.le_of_eq g113.symm))) nin0)) (Ne.symm (Nat.ne_of_lt (Nat.lt_of_lt_of_le (Nat.lt_of_lt_of_le u102_2.lt (Nat.le_trans (Nat.le_trans u103_0.1 u104_0.1) E113.1)) u114_1))) (Ne.symm (Nat.ne_of_lt (Nat.lt_of_lt_of_le (Nat.lt_of_lt_of_le u103_2.lt (Nat.le_trans (Nat.le_trans u104_0.1 E113.1) u114_0.1)) u115_1))) (oChM _) (oChM _) (oChM _) (oChM _) (oLenL _) (oLenL _) (oChM _) (oChM _) (oChM _) (oChM _) (oLenL _) (oLenL _) q4 q5) all0 (by decide) rfl (argsL := [(.ref b101)]) rfl (lenOf pd_law_4 rfl) (W := 0) rfl (by decide) (by decide) (by decide) at_361 (pc' := 364) rfl ?_
            intro v120 T120 h120 FX120 U120
            obtain ⟨rfl, rfl⟩ := U120
            have X120 := FX120 [] (Or.inl rfl) all0
            show oGoes pp ee bb ss Z T120 (mkF mm 364 #[.val (.int i0), .val (.int i1), .val (.int i2), .val (.int i3), .val (.int i4), .val (.int (oLen i0)), .val (.int (oC0 i0)), .val (.int (oC1 i0)), .val (.int (oLen i1)), .val (.int (oC0 i1)), .val (.int (oC1 i1)), .val (.int (if (i4 &&& (1 : Int32)) = (0 : Int32) then (0 : Int32) else (1 : Int32))), .val (.int (if (i4 &&& (2 : Int32)) = (0 : Int32) then (0 : Int32) else (1 : Int32))), .val (.int (oLen i0)), .val (.int (oC0 i0)), .val (.int (oC1 i0)), .val (.int (oLen i1)), .val (.int (oC0 i1)), .val (.int (oC1 i1)), .val (.int (((i4.toUInt32 >>> ((2 : Int32) &&& 31).toUInt32).toInt32) &&& (3 : Int32))), .val (.ref b101), .val (.ref b113), .val (.int (0 : Int32))] [(.int (oSm2 (oSm (oLen i0) (oC0 i0) (oC1 i0) (oLen i0) (oC0 i0) (oC1 i0)) (oSm (oLen i1) (oC0 i1) (oC1 i1) (oLen i1) (oC0 i1) (oC1 i1))))]) _ _ _ _
            refine o_iload K X120 at_364 (pc' := 366) rfl rfl ?_
            refine o_icmp_ne_f K X120 at_366 (pc' := 369) rfl (by have e0 := oSmFp c317_118; simp [oSm2, c317_118, e0]) ?_
            refine o_iconst K X120 at_369 (pc' := 370) rfl (z := (1 : Int32)) rfl ?_
            refine o_goto K X120 at_370 (by decide) (pc' := 374) (by decide) ?_
            refine o_ireturnN K X120 .boolean at_374 rfl (by simp) (z' := (1 : Int32)) (by decide) ?_ (by decide) (by decide) (by decide)
            exact rfl
          · refine o_if_eq_f K X117 at_317 (pc' := 320) rfl c317_118 ?_
            refine o_iload K X117 at_320 (pc' := 322) rfl rfl ?_
            refine o_iload K X117 at_322 (pc' := 324) rfl rfl ?_
            refine o_iload K X117 at_324 (pc' := 326) rfl rfl ?_
            refine o_iload K X117 at_326 (pc' := 328) rfl rfl ?_
            refine o_iload K X117 at_328 (pc' := 330) rfl rfl ?_
            refine o_iload K X117 at_330 (pc' := 332) rfl rfl ?_
            refine o_static K X117 (y := (⟨"com/example/phone_conformance_check/phoneconformancecheck/capture/PropertyEqualsPinLaw", "same", "(ICCICC)Z"⟩ : MethodName)) (w53 hw) (w54 hw) (w2 hw) (w55 hw) (by decide) (rm_same l Z a0 hw (oLen i1) (oC0 i1) (oC1 i1) (oLen i1) (oC0 i1) (oC1 i1) h116) all0 (by decide) rfl (argsL := [(.int (oLen i1)), (.int (oC0 i1)), (.int (oC1 i1)), (.int (oLen i1)), (.int (oC0 i1)), (.int (oC1 i1))]) rfl (lenOf pd_law_6 rfl) (W := 0) rfl (by decide) (by decide) (by decide) at_332 (pc' := 335) rfl ?_
            intro v121 T121 h121 FX121 U121
            obtain ⟨rfl, rfl⟩ := U121
            have X121 := FX121 [] (Or.inl rfl) all0
            show oGoes pp ee bb ss Z T121 (mkF mm 335 #[.val (.int i0), .val (.int i1), .val (.int i2), .val (.int i3), .val (.int i4), .val (.int (oLen i0)), .val (.int (oC0 i0)), .val (.int (oC1 i0)), .val (.int (oLen i1)), .val (.int (oC0 i1)), .val (.int (oC1 i1)), .val (.int (if (i4 &&& (1 : Int32)) = (0 : Int32) then (0 : Int32) else (1 : Int32))), .val (.int (if (i4 &&& (2 : Int32)) = (0 : Int32) then (0 : Int32) else (1 : Int32))), .val (.int (oLen i0)), .val (.int (oC0 i0)), .val (.int (oC1 i0)), .val (.int (oLen i1)), .val (.int (oC0 i1)), .val (.int (oC1 i1)), .val (.int (((i4.toUInt32 >>> ((2 : Int32) &&& 31).toUInt32).toInt32) &&& (3 : Int32))), .val (.ref b101), .val (.ref b113), .unset] [(.int (oSm (oLen i1) (oC0 i1) (oC1 i1) (oLen i1) (oC0 i1) (oC1 i1)))]) _ _ _ _
            by_cases c335_122 : (oSm (oLen i1) (oC0 i1) (oC1 i1) (oLen i1) (oC0 i1) (oC1 i1)) = (0 : Int32)
            · refine o_if_eq_t K X121 at_335 (by decide) (pc' := 342) (by decide) c335_122 ?_
              refine o_iconst K X121 at_342 (pc' := 343) rfl (z := (0 : Int32)) rfl ?_
              refine o_istore K X121 at_343 (pc' := 345) rfl (L' := #[.val (.int i0), .val (.int i1), .val (.int i2), .val (.int i3), .val (.int i4), .val (.int (oLen i0)), .val (.int (oC0 i0)), .val (.int (oC1 i0)), .val (.int (oLen i1)), .val (.int (oC0 i1)), .val (.int (oC1 i1)), .val (.int (if (i4 &&& (1 : Int32)) = (0 : Int32) then (0 : Int32) else (1 : Int32))), .val (.int (if (i4 &&& (2 : Int32)) = (0 : Int32) then (0 : Int32) else (1 : Int32))), .val (.int (oLen i0)), .val (.int (oC0 i0)), .val (.int (oC1 i0)), .val (.int (oLen i1)), .val (.int (oC0 i1)), .val (.int (oC1 i1)), .val (.int (((i4.toUInt32 >>> ((2 : Int32) &&& 31).toUInt32).toInt32) &&& (3 : Int32))), .val (.ref b101), .val (.ref b113), .val (.int (0 : Int32))]) rfl ?_
              refine o_aload K X121 at_345 (pc' := 347) rfl rfl rfl ?_
              refine o_aload K X121 at_347 (pc' := 349) rfl rfl rfl ?_
              refine o_virtual K X121 (y := (⟨"com/example/phone_conformance_check/phoneconformancecheck/capture/Property", "equals", "(Ljava/lang/Object;)Z"⟩ : MethodName)) (z := (⟨"com/example/phone_conformance_check/phoneconformancecheck/capture/Property", "equals", "(Ljava/lang/Object;)Z"⟩ : MethodName)) (w56 hw) (w57 hw) (fun _ q => notFace_of_selects (args := #[]) (mvT q (w59 hw))) (w59 hw) (w58 hw) (w12 hw) (w60 hw) (by decide) ((((u104_1.ext E113).keep u114_0).keep u115_0).keep u116_0) (rm_peq l Z a0 hw b101 b113 r_102 vb_102 r_103 vb_103 r_114 vb_114 r_115 vb_115 k_102 k_103 k_114 k_115 (oLen i0) (oC0 i0) (oC1 i0) (oLen i0) (oC0 i0) (oC1 i0) (oLen i1) (oC0 i1) (oC1 i1) (oLen i1) (oC0 i1) (oC1 i1) cs h116 ((((u104_1.ext E113).keep u114_0).keep u115_0).keep u116_0) ((((u104_2.ext E113).keep u114_0 nin0).keep u115_0 nin0).keep u116_0 (ninS (Nat.ne_of_lt (Nat.lt_of_lt_of_le (Nat.lt_of_lt_of_le A101.lt (Nat.le_trans (Nat.le_trans u102_0.1 u103_0.1) u104_0.1)) (Nat.le_of_eq g113.symm))) nin0)) ((((u104_3.ext E113).keep u114_0 nin0).keep u115_0 nin0).keep u116_0 (ninS (Nat.ne_of_lt (Nat.lt_of_lt_of_le (Nat.lt_of_lt_of_le A101.lt (Nat.le_trans (Nat.le_trans u102_0.1 u103_0.1) u104_0.1)) (Nat.le_of_eq g113.symm))) nin0)) u116_1 u116_2 u116_3 ((((((u102_2.keep u103_0).keep u104_0).ext E113).keep u114_0).keep u115_0).keep u116_0) ((((((u102_3.keep u103_0 nin0).keep u104_0 (ninS (Ne.symm (Nat.ne_of_lt (Nat.lt_of_lt_of_le A101.lt u102_1))) nin0)).ext E113).keep u114_0 nin0).keep u115_0 nin0).keep u116_0 (ninS (Nat.ne_of_lt (Nat.lt_of_lt_of_le (Nat.lt_of_lt_of_le u102_2.lt (Nat.le_trans u103_0.1 u104_0.1)) (Nat.le_of_eq g113.symm))) nin0)) ((((((u102_4.keep u103_0 nin0).keep u104_0 (ninS (Ne.symm (Nat.ne_of_lt (Nat.lt_of_lt_of_le A101.lt u102_1))) nin0)).ext E113).keep u114_0 nin0).keep u115_0 nin0).keep u116_0 (ninS (Nat.ne_of_lt (Nat.lt_of_lt_of_le (Nat.lt_of_lt_of_le u102_2.lt (Nat.le_trans u103_0.1 u104_0.1)) (Nat.le_of_eq g113.symm))) nin0)) ((((((u102_5.keep u103_0 nin0).keep u104_0 (ninS (oNeArr (A101.keep u102_0) (w11 hw) u102_5) nin0)).ext E113).keep u114_0 nin0).keep u115_0 nin0).keep u116_0 (ninS (Nat.ne_of_lt (Nat.lt_of_lt_of_le (Nat.lt_of_lt_of_le u102_5.lt (Nat.le_trans u103_0.1 u104_0.1)) (Nat.le_of_eq g113.symm))) nin0)) (((((u103_2.keep u104_0).ext E113).keep u114_0).keep u115_0).keep u116_0) (((((u103_3.keep u104_0 (ninS (Ne.symm (Nat.ne_of_lt (Nat.lt_of_lt_of_le (Nat.lt_of_lt_of_le A101.lt u102_0.1) u103_1))) nin0)).ext E113).keep u114_0 nin0).keep u115_0 nin0).keep u116_0 (ninS (Nat.ne_of_lt (Nat.lt_of_lt_of_le (Nat.lt_of_lt_of_le u103_2.lt u104_0.1) (Nat.le_of_eq g113.symm))) nin0)) (((((u103_4.keep u104_0 (ninS (Ne.symm (Nat.ne_of_lt (Nat.lt_of_lt_of_le (Nat.lt_of_lt_of_le A101.lt u102_0.1) u103_1))) nin0)).ext E113).keep u114_0 nin0).keep u115_0 nin0).keep u116_0 (ninS (Nat.ne_of_lt (Nat.lt_of_lt_of_le (Nat.lt_of_lt_of_le u103_2.lt u104_0.1) (Nat.le_of_eq g113.symm))) nin0)) (((((u103_5.keep u104_0 (ninS (oNeArr ((A101.keep u102_0).keep u103_0) (w11 hw) u103_5) nin0)).ext E113).keep u114_0 nin0).keep u115_0 nin0).keep u116_0 (ninS (Nat.ne_of_lt (Nat.lt_of_lt_of_le (Nat.lt_of_lt_of_le u103_5.lt u104_0.1) (Nat.le_of_eq g113.symm))) nin0)) ((u114_2.keep u115_0).keep u116_0) ((u114_3.keep u115_0 nin0).keep u116_0 (ninS (Ne.symm (Nat.ne_of_lt (Nat.lt_of_lt_of_le A113.lt u114_1))) nin0)) ((u114_4.keep u115_0 nin0).keep u116_0 (ninS (Ne.symm (Nat.ne_of_lt (Nat.lt_of_lt_of_le A113.lt u114_1))) nin0)) ((u114_5.keep u115_0 nin0).keep u116_0 (ninS (oNeArr (A113.keep u114_0) (w11 hw) u114_5) nin0)) (u115_2.keep u116_0) (u115_3.keep u116_0 (ninS (Ne.symm (Nat.ne_of_lt (Nat.lt_of_lt_of_le (Nat.lt_of_lt_of_le A113.lt u114_0.1) u115_1))) nin0)) (u115_4.keep u116_0 (ninS (Ne.symm (Nat.ne_of_lt (Nat.lt_of_lt_of_le (Nat.lt_of_lt_of_le A113.lt u114_0.1) u115_1))) nin0)) (u115_5.keep u116_0 (ninS (oNeArr ((A113.keep u114_0).keep u115_0) (w11 hw) u115_5) nin0)) (Nat.ne_of_lt (Nat.lt_of_lt_of_le (Nat.lt_of_lt_of_le u102_2.lt (Nat.le_trans (Nat.le_trans u103_0.1 u104_0.1) E113.1)) u114_1)) (Nat.ne_of_lt (Nat.lt_of_lt_of_le (Nat.lt_of_lt_of_le u103_2.lt (Nat.le_trans (Nat.le_trans u104_0.1 E113.1) u114_0.1)) u115_1)) (oChM _) (oChM _) (oChM _) (oChM _) (oLenL _) (oLenL _) (oChM _) (oChM _) (oChM _) (oChM _) (oLenL _) (oLenL _) q4 q5) all0 (by decide) rfl (argsL := [(.ref b113)]) rfl (lenOf pd_law_4 rfl) (W := 0) rfl (by decide) (by decide) (by decide) at_349 (pc' := 352) rfl ?_
              intro v123 T123 h123 FX123 U123
              obtain ⟨rfl, rfl⟩ := U123
              have X123 := FX123 [] (Or.inl rfl) all0
              show oGoes pp ee bb ss Z T123 (mkF mm 352 #[.val (.int i0), .val (.int i1), .val (.int i2), .val (.int i3), .val (.int i4), .val (.int (oLen i0)), .val (.int (oC0 i0)), .val (.int (oC1 i0)), .val (.int (oLen i1)), .val (.int (oC0 i1)), .val (.int (oC1 i1)), .val (.int (if (i4 &&& (1 : Int32)) = (0 : Int32) then (0 : Int32) else (1 : Int32))), .val (.int (if (i4 &&& (2 : Int32)) = (0 : Int32) then (0 : Int32) else (1 : Int32))), .val (.int (oLen i0)), .val (.int (oC0 i0)), .val (.int (oC1 i0)), .val (.int (oLen i1)), .val (.int (oC0 i1)), .val (.int (oC1 i1)), .val (.int (((i4.toUInt32 >>> ((2 : Int32) &&& 31).toUInt32).toInt32) &&& (3 : Int32))), .val (.ref b101), .val (.ref b113), .val (.int (0 : Int32))] [(.int (oSm2 (oSm (oLen i0) (oC0 i0) (oC1 i0) (oLen i0) (oC0 i0) (oC1 i0)) (oSm (oLen i1) (oC0 i1) (oC1 i1) (oLen i1) (oC0 i1) (oC1 i1))))]) _ _ _ _
              refine o_iload K X123 at_352 (pc' := 354) rfl rfl ?_
              refine o_icmp_ne_f K X123 at_354 (pc' := 357) rfl (by have e0 := oSmFn c317_118; have e1 := oSmFp c335_122; simp [oSm2, c317_118, c335_122, e0, e1]) ?_
              refine o_aload K X123 at_357 (pc' := 359) rfl rfl rfl ?_
              refine o_aload K X123 at_359 (pc' := 361) rfl rfl rfl ?_
              refine o_virtual K X123 (y := (⟨"com/example/phone_conformance_check/phoneconformancecheck/capture/Property", "equals", "(Ljava/lang/Object;)Z"⟩ : MethodName)) (z := (⟨"com/example/phone_conformance_check/phoneconformancecheck/capture/Property", "equals", "(Ljava/lang/Object;)Z"⟩ : MethodName)) (w56 hw) (w57 hw) (fun _ q => notFace_of_selects (args := #[]) (mvT q (w59 hw))) (w59 hw) (w58 hw) (w12 hw) (w60 hw) (by decide) u116_1 (rm_peq l Z a0 hw b113 b101 r_114 vb_114 r_115 vb_115 r_102 vb_102 r_103 vb_103 k_114 k_115 k_102 k_103 (oLen i0) (oC0 i0) (oC1 i0) (oLen i0) (oC0 i0) (oC1 i0) (oLen i1) (oC0 i1) (oC1 i1) (oLen i1) (oC0 i1) (oC1 i1) cs h116 u116_1 u116_2 u116_3 ((((u104_1.ext E113).keep u114_0).keep u115_0).keep u116_0) ((((u104_2.ext E113).keep u114_0 nin0).keep u115_0 nin0).keep u116_0 (ninS (Nat.ne_of_lt (Nat.lt_of_lt_of_le (Nat.lt_of_lt_of_le A101.lt (Nat.le_trans (Nat.le_trans u102_0.1 u103_0.1) u104_0.1)) (Nat.le_of_eq g113.symm))) nin0)) ((((u104_3.ext E113).keep u114_0 nin0).keep u115_0 nin0).keep u116_0 (ninS (Nat.ne_of_lt (Nat.lt_of_lt_of_le (Nat.lt_of_lt_of_le A101.lt (Nat.le_trans (Nat.le_trans u102_0.1 u103_0.1) u104_0.1)) (Nat.le_of_eq g113.symm))) nin0)) ((u114_2.keep u115_0).keep u116_0) ((u114_3.keep u115_0 nin0).keep u116_0 (ninS (Ne.symm (Nat.ne_of_lt (Nat.lt_of_lt_of_le A113.lt u114_1))) nin0)) ((u114_4.keep u115_0 nin0).keep u116_0 (ninS (Ne.symm (Nat.ne_of_lt (Nat.lt_of_lt_of_le A113.lt u114_1))) nin0)) ((u114_5.keep u115_0 nin0).keep u116_0 (ninS (oNeArr (A113.keep u114_0) (w11 hw) u114_5) nin0)) (u115_2.keep u116_0) (u115_3.keep u116_0 (ninS (Ne.symm (Nat.ne_of_lt (Nat.lt_of_lt_of_le (Nat.lt_of_lt_of_le A113.lt u114_0.1) u115_1))) nin0)) (u115_4.keep u116_0 (ninS (Ne.symm (Nat.ne_of_lt (Nat.lt_of_lt_of_le (Nat.lt_of_lt_of_le A113.lt u114_0.1) u115_1))) nin0)) (u115_5.keep u116_0 (ninS (oNeArr ((A113.keep u114_0).keep u115_0) (w11 hw) u115_5) nin0)) ((((((u102_2.keep u103_0).keep u104_0).ext E113).keep u114_0).keep u115_0).keep u116_0) ((((((u102_3.keep u103_0 nin0).keep u104_0 (ninS (Ne.symm (Nat.ne_of_lt (Nat.lt_of_lt_of_le A101.lt u102_1))) nin0)).ext E113).keep u114_0 nin0).keep u115_0 nin0).keep u116_0 (ninS (Nat.ne_of_lt (Nat.lt_of_lt_of_le (Nat.lt_of_lt_of_le u102_2.lt (Nat.le_trans u103_0.1 u104_0.1)) (Nat.le_of_eq g113.symm))) nin0)) ((((((u102_4.keep u103_0 nin0).keep u104_0 (ninS (Ne.symm (Nat.ne_of_lt (Nat.lt_of_lt_of_le A101.lt u102_1))) nin0)).ext E113).keep u114_0 nin0).keep u115_0 nin0).keep u116_0 (ninS (Nat.ne_of_lt (Nat.lt_of_lt_of_le (Nat.lt_of_lt_of_le u102_2.lt (Nat.le_trans u103_0.1 u104_0.1)) (Nat.le_of_eq g113.symm))) nin0)) ((((((u102_5.keep u103_0 nin0).keep u104_0 (ninS (oNeArr (A101.keep u102_0) (w11 hw) u102_5) nin0)).ext E113).keep u114_0 nin0).keep u115_0 nin0).keep u116_0 (ninS (Nat.ne_of_lt (Nat.lt_of_lt_of_le (Nat.lt_of_lt_of_le u102_5.lt (Nat.le_trans u103_0.1 u104_0.1)) (Nat.le_of_eq g113.symm))) nin0)) (((((u103_2.keep u104_0).ext E113).keep u114_0).keep u115_0).keep u116_0) (((((u103_3.keep u104_0 (ninS (Ne.symm (Nat.ne_of_lt (Nat.lt_of_lt_of_le (Nat.lt_of_lt_of_le A101.lt u102_0.1) u103_1))) nin0)).ext E113).keep u114_0 nin0).keep u115_0 nin0).keep u116_0 (ninS (Nat.ne_of_lt (Nat.lt_of_lt_of_le (Nat.lt_of_lt_of_le u103_2.lt u104_0.1) (Nat.le_of_eq g113.symm))) nin0)) (((((u103_4.keep u104_0 (ninS (Ne.symm (Nat.ne_of_lt (Nat.lt_of_lt_of_le (Nat.lt_of_lt_of_le A101.lt u102_0.1) u103_1))) nin0)).ext E113).keep u114_0 nin0).keep u115_0 nin0).keep u116_0 (ninS (Nat.ne_of_lt (Nat.lt_of_lt_of_le (Nat.lt_of_lt_of_le u103_2.lt u104_0.1) (Nat.le_of_eq g113.symm))) nin0)) (((((u103_5.keep u104_0 (ninS (oNeArr ((A101.keep u102_0).keep u103_0) (w11 hw) u103_5) nin0)).ext E113).keep u114_0 nin0).keep u115_0 nin0).keep u116_0 (ninS (Nat.ne_of_lt (Nat.lt_of_lt_of_le (Nat.lt_of_lt_of_le u103_5.lt u104_0.1) (Nat.le_of_eq g113.symm))) nin0)) (Ne.symm (Nat.ne_of_lt (Nat.lt_of_lt_of_le (Nat.lt_of_lt_of_le u102_2.lt (Nat.le_trans (Nat.le_trans u103_0.1 u104_0.1) E113.1)) u114_1))) (Ne.symm (Nat.ne_of_lt (Nat.lt_of_lt_of_le (Nat.lt_of_lt_of_le u103_2.lt (Nat.le_trans (Nat.le_trans u104_0.1 E113.1) u114_0.1)) u115_1))) (oChM _) (oChM _) (oChM _) (oChM _) (oLenL _) (oLenL _) (oChM _) (oChM _) (oChM _) (oChM _) (oLenL _) (oLenL _) q4 q5) all0 (by decide) rfl (argsL := [(.ref b101)]) rfl (lenOf pd_law_4 rfl) (W := 0) rfl (by decide) (by decide) (by decide) at_361 (pc' := 364) rfl ?_
              intro v124 T124 h124 FX124 U124
              obtain ⟨rfl, rfl⟩ := U124
              have X124 := FX124 [] (Or.inl rfl) all0
              show oGoes pp ee bb ss Z T124 (mkF mm 364 #[.val (.int i0), .val (.int i1), .val (.int i2), .val (.int i3), .val (.int i4), .val (.int (oLen i0)), .val (.int (oC0 i0)), .val (.int (oC1 i0)), .val (.int (oLen i1)), .val (.int (oC0 i1)), .val (.int (oC1 i1)), .val (.int (if (i4 &&& (1 : Int32)) = (0 : Int32) then (0 : Int32) else (1 : Int32))), .val (.int (if (i4 &&& (2 : Int32)) = (0 : Int32) then (0 : Int32) else (1 : Int32))), .val (.int (oLen i0)), .val (.int (oC0 i0)), .val (.int (oC1 i0)), .val (.int (oLen i1)), .val (.int (oC0 i1)), .val (.int (oC1 i1)), .val (.int (((i4.toUInt32 >>> ((2 : Int32) &&& 31).toUInt32).toInt32) &&& (3 : Int32))), .val (.ref b101), .val (.ref b113), .val (.int (0 : Int32))] [(.int (oSm2 (oSm (oLen i0) (oC0 i0) (oC1 i0) (oLen i0) (oC0 i0) (oC1 i0)) (oSm (oLen i1) (oC0 i1) (oC1 i1) (oLen i1) (oC0 i1) (oC1 i1))))]) _ _ _ _
              refine o_iload K X124 at_364 (pc' := 366) rfl rfl ?_
              refine o_icmp_ne_f K X124 at_366 (pc' := 369) rfl (by have e0 := oSmFn c317_118; have e1 := oSmFp c335_122; simp [oSm2, c317_118, c335_122, e0, e1]) ?_
              refine o_iconst K X124 at_369 (pc' := 370) rfl (z := (1 : Int32)) rfl ?_
              refine o_goto K X124 at_370 (by decide) (pc' := 374) (by decide) ?_
              refine o_ireturnN K X124 .boolean at_374 rfl (by simp) (z' := (1 : Int32)) (by decide) ?_ (by decide) (by decide) (by decide)
              exact rfl
            · refine o_if_eq_f K X121 at_335 (pc' := 338) rfl c335_122 ?_
              refine o_iconst K X121 at_338 (pc' := 339) rfl (z := (1 : Int32)) rfl ?_
              refine o_goto K X121 at_339 (by decide) (pc' := 343) (by decide) ?_
              refine o_istore K X121 at_343 (pc' := 345) rfl (L' := #[.val (.int i0), .val (.int i1), .val (.int i2), .val (.int i3), .val (.int i4), .val (.int (oLen i0)), .val (.int (oC0 i0)), .val (.int (oC1 i0)), .val (.int (oLen i1)), .val (.int (oC0 i1)), .val (.int (oC1 i1)), .val (.int (if (i4 &&& (1 : Int32)) = (0 : Int32) then (0 : Int32) else (1 : Int32))), .val (.int (if (i4 &&& (2 : Int32)) = (0 : Int32) then (0 : Int32) else (1 : Int32))), .val (.int (oLen i0)), .val (.int (oC0 i0)), .val (.int (oC1 i0)), .val (.int (oLen i1)), .val (.int (oC0 i1)), .val (.int (oC1 i1)), .val (.int (((i4.toUInt32 >>> ((2 : Int32) &&& 31).toUInt32).toInt32) &&& (3 : Int32))), .val (.ref b101), .val (.ref b113), .val (.int (1 : Int32))]) rfl ?_
              refine o_aload K X121 at_345 (pc' := 347) rfl rfl rfl ?_
              refine o_aload K X121 at_347 (pc' := 349) rfl rfl rfl ?_
              refine o_virtual K X121 (y := (⟨"com/example/phone_conformance_check/phoneconformancecheck/capture/Property", "equals", "(Ljava/lang/Object;)Z"⟩ : MethodName)) (z := (⟨"com/example/phone_conformance_check/phoneconformancecheck/capture/Property", "equals", "(Ljava/lang/Object;)Z"⟩ : MethodName)) (w56 hw) (w57 hw) (fun _ q => notFace_of_selects (args := #[]) (mvT q (w59 hw))) (w59 hw) (w58 hw) (w12 hw) (w60 hw) (by decide) ((((u104_1.ext E113).keep u114_0).keep u115_0).keep u116_0) (rm_peq l Z a0 hw b101 b113 r_102 vb_102 r_103 vb_103 r_114 vb_114 r_115 vb_115 k_102 k_103 k_114 k_115 (oLen i0) (oC0 i0) (oC1 i0) (oLen i0) (oC0 i0) (oC1 i0) (oLen i1) (oC0 i1) (oC1 i1) (oLen i1) (oC0 i1) (oC1 i1) cs h116 ((((u104_1.ext E113).keep u114_0).keep u115_0).keep u116_0) ((((u104_2.ext E113).keep u114_0 nin0).keep u115_0 nin0).keep u116_0 (ninS (Nat.ne_of_lt (Nat.lt_of_lt_of_le (Nat.lt_of_lt_of_le A101.lt (Nat.le_trans (Nat.le_trans u102_0.1 u103_0.1) u104_0.1)) (Nat.le_of_eq g113.symm))) nin0)) ((((u104_3.ext E113).keep u114_0 nin0).keep u115_0 nin0).keep u116_0 (ninS (Nat.ne_of_lt (Nat.lt_of_lt_of_le (Nat.lt_of_lt_of_le A101.lt (Nat.le_trans (Nat.le_trans u102_0.1 u103_0.1) u104_0.1)) (Nat.le_of_eq g113.symm))) nin0)) u116_1 u116_2 u116_3 ((((((u102_2.keep u103_0).keep u104_0).ext E113).keep u114_0).keep u115_0).keep u116_0) ((((((u102_3.keep u103_0 nin0).keep u104_0 (ninS (Ne.symm (Nat.ne_of_lt (Nat.lt_of_lt_of_le A101.lt u102_1))) nin0)).ext E113).keep u114_0 nin0).keep u115_0 nin0).keep u116_0 (ninS (Nat.ne_of_lt (Nat.lt_of_lt_of_le (Nat.lt_of_lt_of_le u102_2.lt (Nat.le_trans u103_0.1 u104_0.1)) (Nat.le_of_eq g113.symm))) nin0)) ((((((u102_4.keep u103_0 nin0).keep u104_0 (ninS (Ne.symm (Nat.ne_of_lt (Nat.lt_of_lt_of_le A101.lt u102_1))) nin0)).ext E113).keep u114_0 nin0).keep u115_0 nin0).keep u116_0 (ninS (Nat.ne_of_lt (Nat.lt_of_lt_of_le (Nat.lt_of_lt_of_le u102_2.lt (Nat.le_trans u103_0.1 u104_0.1)) (Nat.le_of_eq g113.symm))) nin0)) ((((((u102_5.keep u103_0 nin0).keep u104_0 (ninS (oNeArr (A101.keep u102_0) (w11 hw) u102_5) nin0)).ext E113).keep u114_0 nin0).keep u115_0 nin0).keep u116_0 (ninS (Nat.ne_of_lt (Nat.lt_of_lt_of_le (Nat.lt_of_lt_of_le u102_5.lt (Nat.le_trans u103_0.1 u104_0.1)) (Nat.le_of_eq g113.symm))) nin0)) (((((u103_2.keep u104_0).ext E113).keep u114_0).keep u115_0).keep u116_0) (((((u103_3.keep u104_0 (ninS (Ne.symm (Nat.ne_of_lt (Nat.lt_of_lt_of_le (Nat.lt_of_lt_of_le A101.lt u102_0.1) u103_1))) nin0)).ext E113).keep u114_0 nin0).keep u115_0 nin0).keep u116_0 (ninS (Nat.ne_of_lt (Nat.lt_of_lt_of_le (Nat.lt_of_lt_of_le u103_2.lt u104_0.1) (Nat.le_of_eq g113.symm))) nin0)) (((((u103_4.keep u104_0 (ninS (Ne.symm (Nat.ne_of_lt (Nat.lt_of_lt_of_le (Nat.lt_of_lt_of_le A101.lt u102_0.1) u103_1))) nin0)).ext E113).keep u114_0 nin0).keep u115_0 nin0).keep u116_0 (ninS (Nat.ne_of_lt (Nat.lt_of_lt_of_le (Nat.lt_of_lt_of_le u103_2.lt u104_0.1) (Nat.le_of_eq g113.symm))) nin0)) (((((u103_5.keep u104_0 (ninS (oNeArr ((A101.keep u102_0).keep u103_0) (w11 hw) u103_5) nin0)).ext E113).keep u114_0 nin0).keep u115_0 nin0).keep u116_0 (ninS (Nat.ne_of_lt (Nat.lt_of_lt_of_le (Nat.lt_of_lt_of_le u103_5.lt u104_0.1) (Nat.le_of_eq g113.symm))) nin0)) ((u114_2.keep u115_0).keep u116_0) ((u114_3.keep u115_0 nin0).keep u116_0 (ninS (Ne.symm (Nat.ne_of_lt (Nat.lt_of_lt_of_le A113.lt u114_1))) nin0)) ((u114_4.keep u115_0 nin0).keep u116_0 (ninS (Ne.symm (Nat.ne_of_lt (Nat.lt_of_lt_of_le A113.lt u114_1))) nin0)) ((u114_5.keep u115_0 nin0).keep u116_0 (ninS (oNeArr (A113.keep u114_0) (w11 hw) u114_5) nin0)) (u115_2.keep u116_0) (u115_3.keep u116_0 (ninS (Ne.symm (Nat.ne_of_lt (Nat.lt_of_lt_of_le (Nat.lt_of_lt_of_le A113.lt u114_0.1) u115_1))) nin0)) (u115_4.keep u116_0 (ninS (Ne.symm (Nat.ne_of_lt (Nat.lt_of_lt_of_le (Nat.lt_of_lt_of_le A113.lt u114_0.1) u115_1))) nin0)) (u115_5.keep u116_0 (ninS (oNeArr ((A113.keep u114_0).keep u115_0) (w11 hw) u115_5) nin0)) (Nat.ne_of_lt (Nat.lt_of_lt_of_le (Nat.lt_of_lt_of_le u102_2.lt (Nat.le_trans (Nat.le_trans u103_0.1 u104_0.1) E113.1)) u114_1)) (Nat.ne_of_lt (Nat.lt_of_lt_of_le (Nat.lt_of_lt_of_le u103_2.lt (Nat.le_trans (Nat.le_trans u104_0.1 E113.1) u114_0.1)) u115_1)) (oChM _) (oChM _) (oChM _) (oChM _) (oLenL _) (oLenL _) (oChM _) (oChM _) (oChM _) (oChM _) (oLenL _) (oLenL _) q4 q5) all0 (by decide) rfl (argsL := [(.ref b113)]) rfl (lenOf pd_law_4 rfl) (W := 0) rfl (by decide) (by decide) (by decide) at_349 (pc' := 352) rfl ?_
              intro v125 T125 h125 FX125 U125
              obtain ⟨rfl, rfl⟩ := U125
              have X125 := FX125 [] (Or.inl rfl) all0
              show oGoes pp ee bb ss Z T125 (mkF mm 352 #[.val (.int i0), .val (.int i1), .val (.int i2), .val (.int i3), .val (.int i4), .val (.int (oLen i0)), .val (.int (oC0 i0)), .val (.int (oC1 i0)), .val (.int (oLen i1)), .val (.int (oC0 i1)), .val (.int (oC1 i1)), .val (.int (if (i4 &&& (1 : Int32)) = (0 : Int32) then (0 : Int32) else (1 : Int32))), .val (.int (if (i4 &&& (2 : Int32)) = (0 : Int32) then (0 : Int32) else (1 : Int32))), .val (.int (oLen i0)), .val (.int (oC0 i0)), .val (.int (oC1 i0)), .val (.int (oLen i1)), .val (.int (oC0 i1)), .val (.int (oC1 i1)), .val (.int (((i4.toUInt32 >>> ((2 : Int32) &&& 31).toUInt32).toInt32) &&& (3 : Int32))), .val (.ref b101), .val (.ref b113), .val (.int (1 : Int32))] [(.int (oSm2 (oSm (oLen i0) (oC0 i0) (oC1 i0) (oLen i0) (oC0 i0) (oC1 i0)) (oSm (oLen i1) (oC0 i1) (oC1 i1) (oLen i1) (oC0 i1) (oC1 i1))))]) _ _ _ _
              refine o_iload K X125 at_352 (pc' := 354) rfl rfl ?_
              refine o_icmp_ne_f K X125 at_354 (pc' := 357) rfl (by have e0 := oSmFn c317_118; have e1 := oSmFn c335_122; simp [oSm2, c317_118, c335_122, e0, e1]) ?_
              refine o_aload K X125 at_357 (pc' := 359) rfl rfl rfl ?_
              refine o_aload K X125 at_359 (pc' := 361) rfl rfl rfl ?_
              refine o_virtual K X125 (y := (⟨"com/example/phone_conformance_check/phoneconformancecheck/capture/Property", "equals", "(Ljava/lang/Object;)Z"⟩ : MethodName)) (z := (⟨"com/example/phone_conformance_check/phoneconformancecheck/capture/Property", "equals", "(Ljava/lang/Object;)Z"⟩ : MethodName)) (w56 hw) (w57 hw) (fun _ q => notFace_of_selects (args := #[]) (mvT q (w59 hw))) (w59 hw) (w58 hw) (w12 hw) (w60 hw) (by decide) u116_1 (rm_peq l Z a0 hw b113 b101 r_114 vb_114 r_115 vb_115 r_102 vb_102 r_103 vb_103 k_114 k_115 k_102 k_103 (oLen i0) (oC0 i0) (oC1 i0) (oLen i0) (oC0 i0) (oC1 i0) (oLen i1) (oC0 i1) (oC1 i1) (oLen i1) (oC0 i1) (oC1 i1) cs h116 u116_1 u116_2 u116_3 ((((u104_1.ext E113).keep u114_0).keep u115_0).keep u116_0) ((((u104_2.ext E113).keep u114_0 nin0).keep u115_0 nin0).keep u116_0 (ninS (Nat.ne_of_lt (Nat.lt_of_lt_of_le (Nat.lt_of_lt_of_le A101.lt (Nat.le_trans (Nat.le_trans u102_0.1 u103_0.1) u104_0.1)) (Nat.le_of_eq g113.symm))) nin0)) ((((u104_3.ext E113).keep u114_0 nin0).keep u115_0 nin0).keep u116_0 (ninS (Nat.ne_of_lt (Nat.lt_of_lt_of_le (Nat.lt_of_lt_of_le A101.lt (Nat.le_trans (Nat.le_trans u102_0.1 u103_0.1) u104_0.1)) (Nat.le_of_eq g113.symm))) nin0)) ((u114_2.keep u115_0).keep u116_0) ((u114_3.keep u115_0 nin0).keep u116_0 (ninS (Ne.symm (Nat.ne_of_lt (Nat.lt_of_lt_of_le A113.lt u114_1))) nin0)) ((u114_4.keep u115_0 nin0).keep u116_0 (ninS (Ne.symm (Nat.ne_of_lt (Nat.lt_of_lt_of_le A113.lt u114_1))) nin0)) ((u114_5.keep u115_0 nin0).keep u116_0 (ninS (oNeArr (A113.keep u114_0) (w11 hw) u114_5) nin0)) (u115_2.keep u116_0) (u115_3.keep u116_0 (ninS (Ne.symm (Nat.ne_of_lt (Nat.lt_of_lt_of_le (Nat.lt_of_lt_of_le A113.lt u114_0.1) u115_1))) nin0)) (u115_4.keep u116_0 (ninS (Ne.symm (Nat.ne_of_lt (Nat.lt_of_lt_of_le (Nat.lt_of_lt_of_le A113.lt u114_0.1) u115_1))) nin0)) (u115_5.keep u116_0 (ninS (oNeArr ((A113.keep u114_0).keep u115_0) (w11 hw) u115_5) nin0)) ((((((u102_2.keep u103_0).keep u104_0).ext E113).keep u114_0).keep u115_0).keep u116_0) ((((((u102_3.keep u103_0 nin0).keep u104_0 (ninS (Ne.symm (Nat.ne_of_lt (Nat.lt_of_lt_of_le A101.lt u102_1))) nin0)).ext E113).keep u114_0 nin0).keep u115_0 nin0).keep u116_0 (ninS (Nat.ne_of_lt (Nat.lt_of_lt_of_le (Nat.lt_of_lt_of_le u102_2.lt (Nat.le_trans u103_0.1 u104_0.1)) (Nat.le_of_eq g113.symm))) nin0)) ((((((u102_4.keep u103_0 nin0).keep u104_0 (ninS (Ne.symm (Nat.ne_of_lt (Nat.lt_of_lt_of_le A101.lt u102_1))) nin0)).ext E113).keep u114_0 nin0).keep u115_0 nin0).keep u116_0 (ninS (Nat.ne_of_lt (Nat.lt_of_lt_of_le (Nat.lt_of_lt_of_le u102_2.lt (Nat.le_trans u103_0.1 u104_0.1)) (Nat.le_of_eq g113.symm))) nin0)) ((((((u102_5.keep u103_0 nin0).keep u104_0 (ninS (oNeArr (A101.keep u102_0) (w11 hw) u102_5) nin0)).ext E113).keep u114_0 nin0).keep u115_0 nin0).keep u116_0 (ninS (Nat.ne_of_lt (Nat.lt_of_lt_of_le (Nat.lt_of_lt_of_le u102_5.lt (Nat.le_trans u103_0.1 u104_0.1)) (Nat.le_of_eq g113.symm))) nin0)) (((((u103_2.keep u104_0).ext E113).keep u114_0).keep u115_0).keep u116_0) (((((u103_3.keep u104_0 (ninS (Ne.symm (Nat.ne_of_lt (Nat.lt_of_lt_of_le (Nat.lt_of_lt_of_le A101.lt u102_0.1) u103_1))) nin0)).ext E113).keep u114_0 nin0).keep u115_0 nin0).keep u116_0 (ninS (Nat.ne_of_lt (Nat.lt_of_lt_of_le (Nat.lt_of_lt_of_le u103_2.lt u104_0.1) (Nat.le_of_eq g113.symm))) nin0)) (((((u103_4.keep u104_0 (ninS (Ne.symm (Nat.ne_of_lt (Nat.lt_of_lt_of_le (Nat.lt_of_lt_of_le A101.lt u102_0.1) u103_1))) nin0)).ext E113).keep u114_0 nin0).keep u115_0 nin0).keep u116_0 (ninS (Nat.ne_of_lt (Nat.lt_of_lt_of_le (Nat.lt_of_lt_of_le u103_2.lt u104_0.1) (Nat.le_of_eq g113.symm))) nin0)) (((((u103_5.keep u104_0 (ninS (oNeArr ((A101.keep u102_0).keep u103_0) (w11 hw) u103_5) nin0)).ext E113).keep u114_0 nin0).keep u115_0 nin0).keep u116_0 (ninS (Nat.ne_of_lt (Nat.lt_of_lt_of_le (Nat.lt_of_lt_of_le u103_5.lt u104_0.1) (Nat.le_of_eq g113.symm))) nin0)) (Ne.symm (Nat.ne_of_lt (Nat.lt_of_lt_of_le (Nat.lt_of_lt_of_le u102_2.lt (Nat.le_trans (Nat.le_trans u103_0.1 u104_0.1) E113.1)) u114_1))) (Ne.symm (Nat.ne_of_lt (Nat.lt_of_lt_of_le (Nat.lt_of_lt_of_le u103_2.lt (Nat.le_trans (Nat.le_trans u104_0.1 E113.1) u114_0.1)) u115_1))) (oChM _) (oChM _) (oChM _) (oChM _) (oLenL _) (oLenL _) (oChM _) (oChM _) (oChM _) (oChM _) (oLenL _) (oLenL _) q4 q5) all0 (by decide) rfl (argsL := [(.ref b101)]) rfl (lenOf pd_law_4 rfl) (W := 0) rfl (by decide) (by decide) (by decide) at_361 (pc' := 364) rfl ?_
              intro v126 T126 h126 FX126 U126
              obtain ⟨rfl, rfl⟩ := U126
              have X126 := FX126 [] (Or.inl rfl) all0
              show oGoes pp ee bb ss Z T126 (mkF mm 364 #[.val (.int i0), .val (.int i1), .val (.int i2), .val (.int i3), .val (.int i4), .val (.int (oLen i0)), .val (.int (oC0 i0)), .val (.int (oC1 i0)), .val (.int (oLen i1)), .val (.int (oC0 i1)), .val (.int (oC1 i1)), .val (.int (if (i4 &&& (1 : Int32)) = (0 : Int32) then (0 : Int32) else (1 : Int32))), .val (.int (if (i4 &&& (2 : Int32)) = (0 : Int32) then (0 : Int32) else (1 : Int32))), .val (.int (oLen i0)), .val (.int (oC0 i0)), .val (.int (oC1 i0)), .val (.int (oLen i1)), .val (.int (oC0 i1)), .val (.int (oC1 i1)), .val (.int (((i4.toUInt32 >>> ((2 : Int32) &&& 31).toUInt32).toInt32) &&& (3 : Int32))), .val (.ref b101), .val (.ref b113), .val (.int (1 : Int32))] [(.int (oSm2 (oSm (oLen i0) (oC0 i0) (oC1 i0) (oLen i0) (oC0 i0) (oC1 i0)) (oSm (oLen i1) (oC0 i1) (oC1 i1) (oLen i1) (oC0 i1) (oC1 i1))))]) _ _ _ _
              refine o_iload K X126 at_364 (pc' := 366) rfl rfl ?_
              refine o_icmp_ne_f K X126 at_366 (pc' := 369) rfl (by have e0 := oSmFn c317_118; have e1 := oSmFn c335_122; simp [oSm2, c317_118, c335_122, e0, e1]) ?_
              refine o_iconst K X126 at_369 (pc' := 370) rfl (z := (1 : Int32)) rfl ?_
              refine o_goto K X126 at_370 (by decide) (pc' := 374) (by decide) ?_
              refine o_ireturnN K X126 .boolean at_374 rfl (by simp) (z' := (1 : Int32)) (by decide) ?_ (by decide) (by decide) (by decide)
              exact rfl
theorem own_exactly {args : Array Value} {s : State} {t : Term} {C : String} {idx : List Nat} (q : (Jvm.Cond.exactly t C).value args s none s idx = some true) : ∃ r, t.eval args s none idx s = some (.ref r) ∧ (Exa s s.heap r C) := by
  have h : (Jvm.Cond.exactly t C).holds args s none s idx = true := by simp [Jvm.Cond.holds, q]
  obtain ⟨r, c, cell, k, e1, e2, e3, e4, e5, e6, e7⟩ := Cond.exactly_spec h
  subst e6
  exact ⟨r, e1, cell, k, e3, e2, e4, e5, e7⟩
theorem own_cache {args : Array Value} {s : State} {a : Addr} {k : ClassId} {vc : List Value} (F : oArr s s.heap a k (.object "java/lang/Integer") vc) (hl : vc.length = 256) (ht : (Jvm.Term.static "java/lang/Integer$IntegerCache" "cache" "[Ljava/lang/Integer;").eval args s none [] s = some (.ref a)) (q : (Jvm.Cond.all (Jvm.Term.static "java/lang/Integer$IntegerCache" "cache" "[Ljava/lang/Integer;") (Jvm.Cond.and (Jvm.Cond.exactly (Jvm.Term.elem (Jvm.Term.static "java/lang/Integer$IntegerCache" "cache" "[Ljava/lang/Integer;") (Jvm.Term.index (0 : Nat))) "java/lang/Integer") (Jvm.Cond.eq (Jvm.Term.field (Jvm.Term.elem (Jvm.Term.static "java/lang/Integer$IntegerCache" "cache" "[Ljava/lang/Integer;") (Jvm.Term.index (0 : Nat))) "java/lang/Integer" "value" "I") (Jvm.Term.sub (Jvm.Term.index (0 : Nat)) (Jvm.Term.int (128 : Int32)))))).value args s none s [] = some true) : ∀ j : Int32, ¬ (j < (0 : Int32)) → j < (256 : Int32) → ∃ r : Addr, vc[j.toNatClampNeg]? = some (.ref r) ∧ Exa s s.heap r "java/lang/Integer" := by
  intro j h0 h1
  have e1 := oNat_of h0
  have e2 := Int32.lt_iff_toInt_lt.mp h1
  have e3 : (256 : Int32).toInt = 256 := by decide
  obtain ⟨c, A, -, q2, -⟩ := id F
  have hA := A.fin (U := s) (Vm.Alike.refl _)
  have e := oAll_v q ht hA j.toNatClampNeg (by rw [q2]; simp only [List.size_toArray, hl]; omega)
  obtain ⟨w1, -⟩ := and_e e
  obtain ⟨r, v1, v2⟩ := own_exactly w1
  obtain ⟨-, r2⟩ := elem_in v1 (idx := [j.toNatClampNeg]) ht (j := j) (by have := oNat32 (i := j.toNatClampNeg) (by omega); simp [Term.eval]; exact (back32 h0).1) A.1
  rw [q2] at r2
  exact ⟨r, by simpa using r2, v2⟩
set_option maxRecDepth 65536 in
set_option maxHeartbeats 40000000 in
theorem comes_1 {Post : Tables → Env → Array Value → State → Outcome → State → Prop} (hpost : ∀ tb e args s v u, (limb_1_1.after args s (.returned v) u = true ∧ limb_1_2.after args s (.returned v) u = true ∧ True) → ReturnedEndW s (.returned v) u (Jvm.fieldLocs frame_1_writes args s ++ Jvm.arrayLocs frame_1_arrays args s ++ Jvm.staticLocs frame_1_statics s) 48 3264 → Post tb e args s (.returned v) u) :
    ArmFor flags0 classFile x code maxLocals ret World_1 tables_1 room_1 Calls_1 rest_1 Pre_1 Post := by
  intro l hfl _ _ p e ha hc hk s m args below hf hA hF happ hP
  obtain ⟨hcalls, hrest, hpre⟩ := hP
  obtain ⟨-, -, -, hnamed, -, -, -, hat⟩ := (Spec.applies_iff hf).mp happ
  obtain ⟨hg, hn⟩ := and_e (Cond.before_iff.mp (show (Jvm.Cond.and given_1 narrow_1).before args s = true from hpre))
  obtain ⟨g0, gr0⟩ := and_e hg
  obtain ⟨g1, gr1⟩ := and_e gr0
  obtain ⟨g2, gr2⟩ := and_e gr1
  obtain ⟨g3, gr3⟩ := and_e gr2
  obtain ⟨g4, gr4⟩ := and_e gr3
  obtain ⟨w_0, w_1, w_2, w_3, w_4, rfl⟩ : ∃ w_0 w_1 w_2 w_3 w_4 : Value, args = #[w_0, w_1, w_2, w_3, w_4] := by
    have hs : args.size = 5 := by simpa [Jvm.Cond.value] using g0
    obtain ⟨L⟩ := args
    match L, hs with
    | [w_0, w_1, w_2, w_3, w_4], _ => exact ⟨w_0, w_1, w_2, w_3, w_4, rfl⟩
  have hw : oHw s #[w_0, w_1, w_2, w_3, w_4] := fun d (hd : d ∈ tables_1) => atoms_spec (ws := Jvm.Cond.code x code maxLocals ret :: tables_1) hat d (List.mem_cons_of_mem _ hd)
  have hfit : Fit s := fun {y c} hc i hi => by
    obtain ⟨ha, rfl⟩ := Array.getElem?_eq_some_iff.mp hc
    have q := List.all_eq_true.mp ((Array.all_eq_true_iff_forall_mem.mp hF) _ (Array.getElem_mem ha)) i (List.mem_range.mpr hi)
    simpa [Array.getElem?_eq_getElem hi] using q
  obtain ⟨hsets, hown0⟩ := atoms_of _ (rest_1_c_eq ▸ (show rest_1_c.before _ s = true from hrest))
  obtain ⟨i0, ei0⟩ := is_v g1
  obtain rfl : w_0 = (.int i0) := Option.some.inj ei0
  obtain ⟨i1, ei1⟩ := is_v g2
  obtain rfl : w_1 = (.int i1) := Option.some.inj ei1
  obtain ⟨i2, ei2⟩ := is_v g3
  obtain rfl : w_2 = (.int i2) := Option.some.inj ei2
  obtain ⟨i3, ei3⟩ := is_v g4
  obtain rfl : w_3 = (.int i3) := Option.some.inj ei3
  obtain ⟨i4, ei4⟩ := is_v gr4
  obtain rfl : w_4 = (.int i4) := Option.some.inj ei4
  obtain ⟨cs, ecs⟩ := is_v (Cond.before_iff.mp (hsets _ (List.mem_of_getElem? (i := 1) rfl)))
  have Scs := Sta.start ecs (Or.inl (hsets _ (List.mem_of_getElem? (i := 0) rfl)))
  have ncs : ¬ (cs = (0 : Int32)) := oNeInt_v ecs (Cond.before_iff.mp (hsets _ (List.mem_of_getElem? (i := 2) rfl)))
  have Shi := Sta.start (oEqInt_v (Cond.before_iff.mp (hsets _ (List.mem_of_getElem? (i := 12) rfl)))) (Or.inl (hsets _ (List.mem_of_getElem? (i := 10) rfl)))
  have dx1 := (Cond.before_iff.mp (hsets _ (List.mem_of_getElem? (i := 13) rfl)))
  have dx2 := (Cond.before_iff.mp (hsets _ (List.mem_of_getElem? (i := 15) rfl)))
  have dx3 := (Cond.before_iff.mp (hsets _ (List.mem_of_getElem? (i := 16) rfl)))
  obtain ⟨ca, ed, Sca⟩ := oStaRef dx1 (Or.inr ⟨(w89 hw), (hsets _ (List.mem_of_getElem? (i := 11) rfl))⟩)
  obtain ⟨kc, vc, Fc, lc⟩ := oArr_start hfit ed dx1 dx2 (by decide) (n := 256) (by decide)
  have tbc := own_cache Fc lc ed dx3
  have hheld : ∀ q ∈ oEL, Jvm.Lit.constHeld s q.1 q.2 := fun q hq => by
    simp only [oEL, List.mem_cons, List.not_mem_nil, or_false] at hq
    rcases hq with rfl
    · exact hcalls.1 _ (List.mem_of_getElem? (i := 2) rfl)
  have hch : CHv s oEL s.vm s.heap := CHv.start (oEW hw) hheld (hsets _ (List.mem_of_getElem? (i := 2) rfl)) (w31 hw) (w17 hw)
  obtain ⟨n, o, h1, h2, h3, v, L, rfl, ⟨hQ, N, E, hfin⟩, hq⟩ := rm_law l s _ hw i0 i1 i2 i3 i4 ca kc vc cs s.heap Shi Sca Fc tbc Scs ncs tables_1 ⟨Nat.le_refl _, fun _ _ q => q⟩ p e ha hc hk s m _ below hf ((Spec.applies_iff_loose hf).mp happ).1 ⟨rfl, State.Warmed39.refl s, rfl, hch, fun _ q => nomatch q⟩ trivial
  obtain rfl : v = some (.int 1) := hQ
  refine ⟨n, _, h1, h2, h3, hpost _ _ _ _ _ _ ⟨Cond.after_iff.mpr rfl, Cond.after_iff.mpr (eq_i res_at (Term.int_eval (1)) rfl), trivial⟩ ⟨hq.1, hq.2.1, hq.2.2.1, (hq.2.2.2.sift fun y hy => Or.inr (N y hy)).mono (by decide) (by decide)⟩⟩
theorem main_1_1 : Claimed_1_1 := comes_1 fun _ _ _ _ _ _ h hF => ⟨h.1, hF⟩
theorem main_1_2 : Claimed_1_2 := comes_1 fun _ _ _ _ _ _ h hF => ⟨h.2.1, hF⟩
end Jvm.Pilot.@@N@@
namespace Jvm.Pilot.@@N@@
open Jvm Jvm.ClassFile Sem Op Lib Jvm.Free Jvm.Stand Jvm.Pilot.@@N@@.Jvm.D
/-! MADE BY PROGRAM (witnessworld.py) out of the Statement's table words and the real class files: 25 classes; the members and pool entries that the words name. The judged class is class 1, her method 1. -/
namespace start1
open Jvm.ClassFile
def u (s : String) : CpInfo := .utf8 (stringToUtf16 s)
/-- a pool by its gaps: so many unusable entries, then the entry; so many at the end -/
def gap : Nat → List CpInfo → List CpInfo
  | 0, r => r
  | n + 1, r => .unusable :: gap n r
def poolList (es : List (Nat × CpInfo)) (last : Nat) : List CpInfo := es.foldr (fun e r => gap e.1 (e.2 :: r)) (gap last [])
def pool (es : List (Nat × CpInfo)) (last : Nat) : Array CpInfo := ⟨poolList es last⟩
def fileOf (pool : Array CpInfo) (this : Nat) (attrs : Array Attribute := #[]) (ms : Array MethodInfo := #[]) (fl : Nat := 33) (sup : Nat := 0) (ifs : Array Nat := #[]) (fds : Array FieldInfo := #[]) : ClassFile where
  minorVersion := 0
  majorVersion := 65
  constantPool := pool
  accessFlags := fl
  thisClass := this
  superClass := sup
  interfaces := ifs
  fields := fds
  methods := ms
  attributes := attrs
def plain (name : String) (sup : Option ClassId) : Class where
  name := name
  kind := .ordinary
  loader := none
  accessFlags := 33
  super := sup
  interfaces := #[]
  cf := none
  fields := #[]
  methods := #[]
  instanceTypes := #[]
  staticTypes := #[]
  resolved := #[]
  callSites := []
  init := .initialized
  statics := none
  mirror := none

def pool0 : Array CpInfo := pool [(5, u "<init>"), (0, u "()V"), (1, .class_ 10), (1, u "java/lang/Object")] 113

def k0c0 : Code := { maxStack := 0, maxLocals := 1, code := object_method_1_code, exceptionTable := #[], attributes := #[] }
def k0m0 : Method := { name := "<init>", desc := "()V", sig := { parameters := [], returnType := none }, accessFlags := 1, code := some k0c0 }
/-- java/lang/Object -/
def k0 : Class := { plain "java/lang/Object" none with
  accessFlags := 33
  interfaces := #[]
  cf := some (fileOf pool0 8 #[] #[{ accessFlags := 1, nameIndex := 5, descriptorIndex := 6, attributes := #[] }] 33 0 #[] #[])
  fields := #[]
  methods := #[k0m0]
  instanceTypes := #[]
  staticTypes := #[]
  resolved := Array.replicate 124 none
  statics := none }

def pool1 : Array CpInfo := pool [(2, .class_ 4), (1, u "java/lang/Object"), (0, u "<init>"), (0, u "()V"), (0, .methodref 8 9), (0, .class_ 10), (0, .nameAndType 11 12), (0, u "com/example/phone_conformance_check/phoneconformancecheck/capture/PropertyEqualsPinLaw"), (0, u "len"), (0, u "(I)I"), (0, .methodref 8 14), (0, .nameAndType 15 16), (0, u "c0"), (0, u "(I)C"), (0, .methodref 8 18), (0, .nameAndType 19 16), (0, u "c1"), (0, .class_ 21), (0, u "com/example/phone_conformance_check/phoneconformancecheck/capture/Property"), (0, .methodref 8 23), (0, .nameAndType 24 25), (0, u "mk"), (0, u "(ICC)Ljava/lang/String;"), (0, .methodref 20 27), (0, .nameAndType 5 28), (0, u "(Ljava/lang/String;Ljava/lang/String;)V"), (0, .methodref 20 30), (0, .nameAndType 31 32), (0, u "equals"), (0, u "(Ljava/lang/Object;)Z"), (0, .methodref 34 35), (0, .class_ 36), (0, .nameAndType 37 38), (0, u "java/lang/Integer"), (0, u "valueOf"), (0, u "(I)Ljava/lang/Integer;"), (0, .methodref 8 40), (0, .nameAndType 41 42), (0, u "same"), (0, u "(ICCICC)Z"), (0, .class_ 44), (0, u "java/lang/String"), (0, .methodref 43 46), (0, .nameAndType 5 47), (0, u "([C)V"), (2, u "law"), (0, u "(IIIII)Z")] 3

def k1m0 : Method := { name := "<init>", desc := "()V", sig := { parameters := [], returnType := none }, accessFlags := 1, code := none }
def k1c1 : Code := { maxStack := 6, maxLocals := 23, code := code, exceptionTable := #[], attributes := #[] }
def k1m1 : Method := { name := "law", desc := "(IIIII)Z", sig := { parameters := [.int, .int, .int, .int, .int], returnType := some .boolean }, accessFlags := 9, code := some k1c1 }
def k1c2 : Code := { maxStack := 2, maxLocals := 1, code := method_3_code, exceptionTable := #[], attributes := #[] }
def k1m2 : Method := { name := "len", desc := "(I)I", sig := { parameters := [.int], returnType := some .int }, accessFlags := 10, code := some k1c2 }
def k1c3 : Code := { maxStack := 2, maxLocals := 1, code := method_4_code, exceptionTable := #[], attributes := #[] }
def k1m3 : Method := { name := "c0", desc := "(I)C", sig := { parameters := [.int], returnType := some .char }, accessFlags := 10, code := some k1c3 }
def k1c4 : Code := { maxStack := 2, maxLocals := 1, code := method_5_code, exceptionTable := #[], attributes := #[] }
def k1m4 : Method := { name := "c1", desc := "(I)C", sig := { parameters := [.int], returnType := some .char }, accessFlags := 10, code := some k1c4 }
def k1c5 : Code := { maxStack := 6, maxLocals := 3, code := method_6_code, exceptionTable := #[], attributes := #[] }
def k1m5 : Method := { name := "mk", desc := "(ICC)Ljava/lang/String;", sig := { parameters := [.int, .char, .char], returnType := some (.object "java/lang/String") }, accessFlags := 10, code := some k1c5 }
def k1c6 : Code := { maxStack := 2, maxLocals := 6, code := method_7_code, exceptionTable := #[], attributes := #[] }
def k1m6 : Method := { name := "same", desc := "(ICCICC)Z", sig := { parameters := [.int, .char, .char, .int, .char, .char], returnType := some .boolean }, accessFlags := 10, code := some k1c6 }
/-- com/example/phone_conformance_check/phoneconformancecheck/capture/PropertyEqualsPinLaw -/
def k1 : Class := { plain "com/example/phone_conformance_check/phoneconformancecheck/capture/PropertyEqualsPinLaw" (some 0) with
  accessFlags := 49
  interfaces := #[]
  cf := some (fileOf pool1 8 #[] #[{ accessFlags := 1, nameIndex := 5, descriptorIndex := 6, attributes := #[] }, { accessFlags := 9, nameIndex := 50, descriptorIndex := 51, attributes := #[] }, { accessFlags := 10, nameIndex := 11, descriptorIndex := 12, attributes := #[] }, { accessFlags := 10, nameIndex := 15, descriptorIndex := 16, attributes := #[] }, { accessFlags := 10, nameIndex := 19, descriptorIndex := 16, attributes := #[] }, { accessFlags := 10, nameIndex := 24, descriptorIndex := 25, attributes := #[] }, { accessFlags := 10, nameIndex := 41, descriptorIndex := 42, attributes := #[] }] 49 2 #[] #[])
  fields := #[]
  methods := #[k1m0, k1m1, k1m2, k1m3, k1m4, k1m5, k1m6]
  instanceTypes := #[]
  staticTypes := #[]
  resolved := Array.replicate 55 none
  statics := none }

def pool2 : Array CpInfo := pool [(1, .methodref 2 3), (0, .class_ 4), (0, .nameAndType 5 6), (0, u "java/lang/Object"), (0, u "<init>"), (0, u "()V"), (0, .string 8), (0, u "name"), (0, .methodref 10 11), (0, .class_ 12), (0, .nameAndType 13 14), (0, u "java/util/Objects"), (0, u "requireNonNull"), (0, u "(Ljava/lang/Object;Ljava/lang/String;)Ljava/lang/Object;"), (0, .class_ 16), (0, u "java/lang/String"), (0, .fieldref 18 19), (0, .class_ 20), (0, .nameAndType 8 21), (0, u "com/example/phone_conformance_check/phoneconformancecheck/capture/Property"), (0, u "Ljava/lang/String;"), (0, .string 23), (0, u "value"), (0, .fieldref 18 25), (0, .nameAndType 23 21), (20, u "NAME_CHARACTERS"), (0, u "[Z"), (6, .methodref 15 55), (0, .nameAndType 56 57), (0, u "equals"), (0, u "(Ljava/lang/Object;)Z"), (16, u "NAME_PUNCTUATION"), (1, u "(Ljava/lang/String;Ljava/lang/String;)V")] 43

def k2c0 : Code := { maxStack := 3, maxLocals := 3, code := prog_16_method_1_code, exceptionTable := #[], attributes := #[] }
def k2m0 : Method := { name := "<init>", desc := "(Ljava/lang/String;Ljava/lang/String;)V", sig := { parameters := [(.object "java/lang/String"), (.object "java/lang/String")], returnType := none }, accessFlags := 1, code := some k2c0 }
def k2c1 : Code := { maxStack := 2, maxLocals := 3, code := prog_16_method_7_code, exceptionTable := #[], attributes := #[] }
def k2m1 : Method := { name := "equals", desc := "(Ljava/lang/Object;)Z", sig := { parameters := [(.object "java/lang/Object")], returnType := some .boolean }, accessFlags := 1, code := some k2c1 }
/-- com/example/phone_conformance_check/phoneconformancecheck/capture/Property -/
def k2 : Class := { plain "com/example/phone_conformance_check/phoneconformancecheck/capture/Property" (some 0) with
  accessFlags := 33
  interfaces := #[]
  cf := some (fileOf pool2 18 #[] #[{ accessFlags := 1, nameIndex := 5, descriptorIndex := 76, attributes := #[] }, { accessFlags := 1, nameIndex := 56, descriptorIndex := 57, attributes := #[] }] 33 2 #[] #[{ accessFlags := 26, nameIndex := 74, descriptorIndex := 21, attributes := #[] }, { accessFlags := 26, nameIndex := 46, descriptorIndex := 47, attributes := #[] }, { accessFlags := 18, nameIndex := 8, descriptorIndex := 21, attributes := #[] }, { accessFlags := 18, nameIndex := 23, descriptorIndex := 21, attributes := #[] }])
  fields := #[{ name := "NAME_PUNCTUATION", type := (.object "java/lang/String"), accessFlags := 26, slot := 0, constantValue := 0 }, { name := "NAME_CHARACTERS", type := (.array .boolean), accessFlags := 26, slot := 1, constantValue := 0 }, { name := "name", type := (.object "java/lang/String"), accessFlags := 18, slot := 0, constantValue := 0 }, { name := "value", type := (.object "java/lang/String"), accessFlags := 18, slot := 1, constantValue := 0 }]
  methods := #[k2m0, k2m1]
  instanceTypes := #[(.object "java/lang/String"), (.object "java/lang/String")]
  staticTypes := #[(.object "java/lang/String"), (.array .boolean)]
  resolved := Array.replicate 120 none
  statics := none }

def pool3 : Array CpInfo := pool [(1, .class_ 2), (0, u "java/io/Serializable"), (0, .class_ 4), (0, u "java/lang/Object")] 2

/-- java/io/Serializable -/
def k3 : Class := { plain "java/io/Serializable" (some 0) with
  accessFlags := 1537
  interfaces := #[]
  cf := some (fileOf pool3 1 #[] #[] 1537 3 #[] #[])
  fields := #[]
  methods := #[]
  instanceTypes := #[]
  staticTypes := #[]
  resolved := Array.replicate 7 none
  statics := none }

def pool4 : Array CpInfo := pool [(1, .class_ 2), (0, u "java/lang/Comparable"), (0, .class_ 4), (0, u "java/lang/Object")] 7

/-- java/lang/Comparable -/
def k4 : Class := { plain "java/lang/Comparable" (some 0) with
  accessFlags := 1537
  interfaces := #[]
  cf := some (fileOf pool4 1 #[] #[] 1537 3 #[] #[])
  fields := #[]
  methods := #[]
  instanceTypes := #[]
  staticTypes := #[]
  resolved := Array.replicate 12 none
  statics := none }

def pool5 : Array CpInfo := pool [(2, .class_ 4), (1, u "java/lang/CharSequence"), (42, .class_ 48), (0, u "java/lang/CharSequence$1CodePointIterator"), (10, .class_ 60), (0, u "java/lang/CharSequence$1CharIterator"), (5, .class_ 67), (0, u "java/lang/Object")] 63

/-- java/lang/CharSequence -/
def k5 : Class := { plain "java/lang/CharSequence" (some 0) with
  accessFlags := 1537
  interfaces := #[]
  cf := some (fileOf pool5 2 #[.nestMembers #[47, 59]] #[] 1537 66 #[] #[])
  fields := #[]
  methods := #[]
  instanceTypes := #[]
  staticTypes := #[]
  resolved := Array.replicate 131 none
  statics := none }

def pool6 : Array CpInfo := pool [(1, .class_ 2), (0, u "java/lang/constant/Constable"), (0, .class_ 4), (0, u "java/lang/Object")] 6

/-- java/lang/constant/Constable -/
def k6 : Class := { plain "java/lang/constant/Constable" (some 0) with
  accessFlags := 1537
  interfaces := #[]
  cf := some (fileOf pool6 1 #[] #[] 1537 3 #[] #[])
  fields := #[]
  methods := #[]
  instanceTypes := #[]
  staticTypes := #[]
  resolved := Array.replicate 11 none
  statics := none }

def pool7 : Array CpInfo := pool [(1, .class_ 2), (0, u "java/lang/constant/ConstantDesc"), (0, .class_ 4), (0, u "java/lang/Object")] 32

/-- java/lang/constant/ConstantDesc -/
def k7 : Class := { plain "java/lang/constant/ConstantDesc" (some 0) with
  accessFlags := 1537
  interfaces := #[]
  cf := some (fileOf pool7 1 #[] #[] 1537 3 #[] #[])
  fields := #[]
  methods := #[]
  instanceTypes := #[]
  staticTypes := #[]
  resolved := Array.replicate 37 none
  statics := none }

def pool8 : Array CpInfo := pool [(1, .methodref 2 3), (0, .class_ 4), (0, .nameAndType 5 6), (0, u "java/lang/Object"), (0, u "<init>"), (0, u "()V"), (0, .string 8), (0, u ""), (0, .fieldref 10 11), (0, .class_ 12), (0, .nameAndType 13 14), (0, u "java/lang/String"), (0, u "value"), (0, u "[B"), (0, .fieldref 10 16), (0, .nameAndType 17 18), (0, u "coder"), (0, u "B"), (2, u "hash"), (0, u "I"), (2, u "hashIsZero"), (0, u "Z"), (0, .methodref 10 28), (0, .nameAndType 5 29), (0, u "([CIILjava/lang/Void;)V"), (8, .fieldref 10 39), (0, .nameAndType 40 26), (0, u "COMPACT_STRINGS"), (1, .class_ 44), (1, u "java/lang/StringUTF16"), (0, u "compress"), (1, .methodref 42 48), (0, .nameAndType 49 50), (0, u "coderFromArrayLen"), (0, u "([BI)B"), (56, .class_ 109), (1, u "java/lang/StringLatin1"), (67, .methodref 42 178), (0, .nameAndType 45 179), (0, u "([CII)[B"), (361, .methodref 107 542), (0, .nameAndType 543 544), (0, u "equals"), (0, u "([B[B)Z"), (28, u "(Ljava/lang/Object;)Z"), (1, .class_ 576), (0, u "java/lang/CharSequence"), (22, u "CASE_INSENSITIVE_ORDER"), (0, u "Ljava/util/Comparator;"), (409, u "([C)V"), (90, u "serialPersistentFields"), (0, u "[Ljava/io/ObjectStreamField;"), (0, .class_ 1104), (0, u "java/lang/String$CaseInsensitiveComparator"), (1, .class_ 1107), (0, u "java/io/Serializable"), (0, .class_ 1109), (0, u "java/lang/Comparable"), (0, .class_ 1111), (0, u "java/lang/constant/Constable"), (0, .class_ 1113), (0, u "java/lang/constant/ConstantDesc"), (2, u "serialVersionUID"), (0, u "J"), (3, u "REPL"), (0, u "C"), (2, u "LATIN1"), (1, u "UTF16")] 323

def k8m0 : Method := { name := "<init>", desc := "()V", sig := { parameters := [], returnType := none }, accessFlags := 1, code := none }
def k8c1 : Code := { maxStack := 5, maxLocals := 2, code := jdk_42_method_3_code, exceptionTable := #[], attributes := #[] }
def k8m1 : Method := { name := "<init>", desc := "([C)V", sig := { parameters := [(.array .char)], returnType := none }, accessFlags := 1, code := some k8c1 }
def k8c2 : Code := { maxStack := 2, maxLocals := 3, code := jdk_42_method_66_code, exceptionTable := #[], attributes := #[] }
def k8m2 : Method := { name := "equals", desc := "(Ljava/lang/Object;)Z", sig := { parameters := [(.object "java/lang/Object")], returnType := some .boolean }, accessFlags := 1, code := some k8c2 }
def k8c3 : Code := { maxStack := 4, maxLocals := 6, code := jdk_42_method_149_code, exceptionTable := #[], attributes := #[] }
def k8m3 : Method := { name := "<init>", desc := "([CIILjava/lang/Void;)V", sig := { parameters := [(.array .char), .int, .int, (.object "java/lang/Void")], returnType := none }, accessFlags := 2, code := some k8c3 }
/-- java/lang/String -/
def k8 : Class := { plain "java/lang/String" (some 0) with
  accessFlags := 49
  interfaces := #[3, 4, 5, 6, 7]
  cf := some (fileOf pool8 10 #[.nestMembers #[1103]] #[{ accessFlags := 1, nameIndex := 5, descriptorIndex := 6, attributes := #[] }, { accessFlags := 1, nameIndex := 5, descriptorIndex := 1010, attributes := #[] }, { accessFlags := 1, nameIndex := 543, descriptorIndex := 573, attributes := #[] }, { accessFlags := 2, nameIndex := 5, descriptorIndex := 29, attributes := #[] }] 49 2 #[1106, 1108, 575, 1110, 1112] #[{ accessFlags := 18, nameIndex := 13, descriptorIndex := 14, attributes := #[] }, { accessFlags := 18, nameIndex := 17, descriptorIndex := 18, attributes := #[] }, { accessFlags := 2, nameIndex := 21, descriptorIndex := 22, attributes := #[] }, { accessFlags := 2, nameIndex := 25, descriptorIndex := 26, attributes := #[] }, { accessFlags := 26, nameIndex := 1116, descriptorIndex := 1117, attributes := #[] }, { accessFlags := 24, nameIndex := 40, descriptorIndex := 26, attributes := #[] }, { accessFlags := 26, nameIndex := 1101, descriptorIndex := 1102, attributes := #[] }, { accessFlags := 26, nameIndex := 1121, descriptorIndex := 1122, attributes := #[] }, { accessFlags := 25, nameIndex := 599, descriptorIndex := 600, attributes := #[] }, { accessFlags := 24, nameIndex := 1125, descriptorIndex := 18, attributes := #[] }, { accessFlags := 24, nameIndex := 1127, descriptorIndex := 18, attributes := #[] }])
  fields := #[{ name := "value", type := (.array .byte), accessFlags := 18, slot := 0, constantValue := 0 }, { name := "coder", type := .byte, accessFlags := 18, slot := 1, constantValue := 0 }, { name := "hash", type := .int, accessFlags := 2, slot := 2, constantValue := 0 }, { name := "hashIsZero", type := .boolean, accessFlags := 2, slot := 3, constantValue := 0 }, { name := "serialVersionUID", type := .long, accessFlags := 26, slot := 0, constantValue := 0 }, { name := "COMPACT_STRINGS", type := .boolean, accessFlags := 24, slot := 1, constantValue := 0 }, { name := "serialPersistentFields", type := (.array (.object "java/io/ObjectStreamField")), accessFlags := 26, slot := 2, constantValue := 0 }, { name := "REPL", type := .char, accessFlags := 26, slot := 3, constantValue := 0 }, { name := "CASE_INSENSITIVE_ORDER", type := (.object "java/util/Comparator"), accessFlags := 25, slot := 4, constantValue := 0 }, { name := "LATIN1", type := .byte, accessFlags := 24, slot := 5, constantValue := 0 }, { name := "UTF16", type := .byte, accessFlags := 24, slot := 6, constantValue := 0 }]
  methods := #[k8m0, k8m1, k8m2, k8m3]
  instanceTypes := #[(.array .byte), .byte, .int, .boolean]
  staticTypes := #[.long, .boolean, (.array (.object "java/io/ObjectStreamField")), .char, (.object "java/util/Comparator"), .byte, .byte]
  resolved := Array.replicate 1451 none
  statics := some 0 }

def pool9 : Array CpInfo := pool [(2, .class_ 4), (1, u "java/lang/Object"), (0, u "<init>"), (0, u "()V"), (35, .class_ 44), (1, u "java/util/Objects"), (0, u "requireNonNull"), (48, u "(Ljava/lang/Object;Ljava/lang/String;)Ljava/lang/Object;")] 89

def k9m0 : Method := { name := "<init>", desc := "()V", sig := { parameters := [], returnType := none }, accessFlags := 2, code := none }
def k9c1 : Code := { maxStack := 3, maxLocals := 2, code := jdk_31_method_11_code, exceptionTable := #[], attributes := #[] }
def k9m1 : Method := { name := "requireNonNull", desc := "(Ljava/lang/Object;Ljava/lang/String;)Ljava/lang/Object;", sig := { parameters := [(.object "java/lang/Object"), (.object "java/lang/String")], returnType := some (.object "java/lang/Object") }, accessFlags := 9, code := some k9c1 }
/-- java/util/Objects -/
def k9 : Class := { plain "java/util/Objects" (some 0) with
  accessFlags := 49
  interfaces := #[]
  cf := some (fileOf pool9 42 #[] #[{ accessFlags := 2, nameIndex := 5, descriptorIndex := 6, attributes := #[] }, { accessFlags := 9, nameIndex := 45, descriptorIndex := 94, attributes := #[] }] 49 2 #[] #[])
  fields := #[]
  methods := #[k9m0, k9m1]
  instanceTypes := #[]
  staticTypes := #[]
  resolved := Array.replicate 184 none
  statics := none }

def pool10 : Array CpInfo := pool [(4, .class_ 6), (1, u "java/lang/Object"), (0, u "<init>"), (0, u "()V"), (5, .class_ 16), (1, u "java/lang/StringLatin1"), (104, u "$assertionsDisabled"), (0, u "Z"), (98, .class_ 223), (1, u "java/lang/StringLatin1$LinesSpliterator"), (57, u "equals"), (0, u "([B[B)Z"), (107, .class_ 391), (0, u "java/lang/StringLatin1$CharsSpliterator")] 3

def k10m0 : Method := { name := "<init>", desc := "()V", sig := { parameters := [], returnType := none }, accessFlags := 0, code := none }
def k10c1 : Code := { maxStack := 3, maxLocals := 3, code := jdk_43_method_13_code, exceptionTable := #[], attributes := #[] }
def k10m1 : Method := { name := "equals", desc := "([B[B)Z", sig := { parameters := [(.array .byte), (.array .byte)], returnType := some .boolean }, accessFlags := 9, code := some k10c1 }
/-- java/lang/StringLatin1 -/
def k10 : Class := { plain "java/lang/StringLatin1" (some 0) with
  accessFlags := 48
  interfaces := #[]
  cf := some (fileOf pool10 14 #[.nestMembers #[390, 221]] #[{ accessFlags := 0, nameIndex := 7, descriptorIndex := 8, attributes := #[] }, { accessFlags := 9, nameIndex := 281, descriptorIndex := 282, attributes := #[] }] 48 4 #[] #[{ accessFlags := 4120, nameIndex := 121, descriptorIndex := 122, attributes := #[] }])
  fields := #[{ name := "$assertionsDisabled", type := .boolean, accessFlags := 4120, slot := 0, constantValue := 0 }]
  methods := #[k10m0, k10m1]
  instanceTypes := #[]
  staticTypes := #[.boolean]
  resolved := Array.replicate 395 none
  statics := none }

def pool11 : Array CpInfo := pool [(6, .class_ 8), (1, u "java/lang/Object"), (0, u "<init>"), (0, u "()V"), (1, .class_ 14), (1, u "java/lang/StringUTF16"), (31, u "$assertionsDisabled"), (0, u "Z"), (13, u "HI_BYTE_SHIFT"), (0, u "I"), (2, u "LO_BYTE_SHIFT"), (49, .methodref 12 116), (0, .nameAndType 117 118), (0, u "compress"), (0, u "([CI[BII)I"), (3, u "([CII)[B"), (138, u "coderFromArrayLen"), (0, u "([BI)B"), (106, .class_ 371), (1, u "java/lang/StringUTF16$LinesSpliterator"), (58, u "MAX_LENGTH"), (196, .class_ 628), (0, u "java/lang/StringUTF16$CodePointsSpliterator"), (0, .class_ 630), (0, u "java/lang/StringUTF16$CharsSpliterator")] 4

def k11m0 : Method := { name := "<init>", desc := "()V", sig := { parameters := [], returnType := none }, accessFlags := 0, code := none }
def k11c1 : Code := { maxStack := 2, maxLocals := 2, code := jdk_52_method_15_code, exceptionTable := #[], attributes := #[] }
def k11m1 : Method := { name := "coderFromArrayLen", desc := "([BI)B", sig := { parameters := [(.array .byte), .int], returnType := some .byte }, accessFlags := 8, code := some k11c1 }
def k11c2 : Code := { maxStack := 5, maxLocals := 6, code := jdk_52_method_16_code, exceptionTable := #[], attributes := #[] }
def k11m2 : Method := { name := "compress", desc := "([CII)[B", sig := { parameters := [(.array .char), .int, .int], returnType := some (.array .byte) }, accessFlags := 9, code := some k11c2 }
def k11c3 : Code := { maxStack := 3, maxLocals := 7, code := jdk_52_method_21_code, exceptionTable := #[], attributes := #[] }
def k11m3 : Method := { name := "compress", desc := "([CI[BII)I", sig := { parameters := [(.array .char), .int, (.array .byte), .int, .int], returnType := some .int }, accessFlags := 9, code := some k11c3 }
/-- java/lang/StringUTF16 -/
def k11 : Class := { plain "java/lang/StringUTF16" (some 0) with
  accessFlags := 48
  interfaces := #[]
  cf := some (fileOf pool11 12 #[.nestMembers #[627, 629, 369]] #[{ accessFlags := 0, nameIndex := 9, descriptorIndex := 10, attributes := #[] }, { accessFlags := 8, nameIndex := 261, descriptorIndex := 262, attributes := #[] }, { accessFlags := 9, nameIndex := 117, descriptorIndex := 122, attributes := #[] }, { accessFlags := 9, nameIndex := 117, descriptorIndex := 118, attributes := #[] }] 48 6 #[] #[{ accessFlags := 26, nameIndex := 61, descriptorIndex := 62, attributes := #[] }, { accessFlags := 26, nameIndex := 65, descriptorIndex := 62, attributes := #[] }, { accessFlags := 24, nameIndex := 430, descriptorIndex := 62, attributes := #[] }, { accessFlags := 4120, nameIndex := 46, descriptorIndex := 47, attributes := #[] }])
  fields := #[{ name := "HI_BYTE_SHIFT", type := .int, accessFlags := 26, slot := 0, constantValue := 0 }, { name := "LO_BYTE_SHIFT", type := .int, accessFlags := 26, slot := 1, constantValue := 0 }, { name := "MAX_LENGTH", type := .int, accessFlags := 24, slot := 2, constantValue := 0 }, { name := "$assertionsDisabled", type := .boolean, accessFlags := 4120, slot := 3, constantValue := 0 }]
  methods := #[k11m0, k11m1, k11m2, k11m3]
  instanceTypes := #[]
  staticTypes := #[.int, .int, .int, .boolean]
  resolved := Array.replicate 635 none
  statics := none }

def pool12 : Array CpInfo := pool [(1, .methodref 2 3), (0, .class_ 4), (0, .nameAndType 5 6), (0, u "java/lang/Object"), (0, u "<init>"), (0, u "()V"), (1, .class_ 10), (1, u "java/lang/Number"), (2, .class_ 14), (0, u "java/io/Serializable"), (0, u "serialVersionUID"), (0, u "J")] 20

def k12c0 : Code := { maxStack := 1, maxLocals := 1, code := jdk_18_method_1_code, exceptionTable := #[], attributes := #[] }
def k12m0 : Method := { name := "<init>", desc := "()V", sig := { parameters := [], returnType := none }, accessFlags := 1, code := some k12c0 }
/-- java/lang/Number -/
def k12 : Class := { plain "java/lang/Number" (some 0) with
  accessFlags := 1057
  interfaces := #[3]
  cf := some (fileOf pool12 8 #[] #[{ accessFlags := 1, nameIndex := 5, descriptorIndex := 6, attributes := #[] }] 1057 2 #[13] #[{ accessFlags := 26, nameIndex := 15, descriptorIndex := 16, attributes := #[] }])
  fields := #[{ name := "serialVersionUID", type := .long, accessFlags := 26, slot := 0, constantValue := 0 }]
  methods := #[k12m0]
  instanceTypes := #[]
  staticTypes := #[.long]
  resolved := Array.replicate 37 none
  statics := none }

def pool13 : Array CpInfo := pool [(1, .class_ 2), (0, u "java/lang/Integer"), (16, u "digits"), (0, u "[C"), (46, u "<init>"), (17, u "DigitOnes"), (0, u "[B"), (2, u "DigitTens"), (10, .nameAndType 67 101), (0, u "()V"), (85, u "valueOf"), (0, u "(I)Ljava/lang/Integer;"), (0, .class_ 190), (0, u "java/lang/Integer$IntegerCache"), (0, .fieldref 189 192), (0, .nameAndType 193 194), (0, u "high"), (0, u "I"), (0, .fieldref 189 196), (0, .nameAndType 197 198), (0, u "cache"), (0, u "[Ljava/lang/Integer;"), (0, .methodref 1 200), (0, .nameAndType 67 201), (0, u "(I)V"), (0, .methodref 203 100), (0, .class_ 204), (0, u "java/lang/Number"), (0, .fieldref 1 206), (0, .nameAndType 207 194), (0, u "value"), (94, u "TYPE"), (0, u "Ljava/lang/Class;"), (0, .class_ 305), (0, u "java/lang/Comparable"), (0, .class_ 307), (0, u "java/lang/constant/Constable"), (0, .class_ 309), (0, u "java/lang/constant/ConstantDesc"), (0, u "MIN_VALUE"), (1, u "MAX_VALUE"), (3, u "SIZE"), (1, u "BYTES"), (1, u "serialVersionUID"), (0, u "J")] 131

def k13c0 : Code := { maxStack := 3, maxLocals := 1, code := jdk_33_method_22_code, exceptionTable := #[], attributes := #[] }
def k13m0 : Method := { name := "valueOf", desc := "(I)Ljava/lang/Integer;", sig := { parameters := [.int], returnType := some (.object "java/lang/Integer") }, accessFlags := 9, code := some k13c0 }
def k13c1 : Code := { maxStack := 2, maxLocals := 2, code := jdk_33_method_23_code, exceptionTable := #[], attributes := #[] }
def k13m1 : Method := { name := "<init>", desc := "(I)V", sig := { parameters := [.int], returnType := none }, accessFlags := 1, code := some k13c1 }
/-- java/lang/Integer -/
def k13 : Class := { plain "java/lang/Integer" (some 12) with
  accessFlags := 49
  interfaces := #[4, 6, 7]
  cf := some (fileOf pool13 1 #[.nestMembers #[189]] #[{ accessFlags := 9, nameIndex := 187, descriptorIndex := 188, attributes := #[] }, { accessFlags := 1, nameIndex := 67, descriptorIndex := 201, attributes := #[] }] 49 203 #[304, 306, 308] #[{ accessFlags := 25, nameIndex := 310, descriptorIndex := 194, attributes := #[] }, { accessFlags := 25, nameIndex := 312, descriptorIndex := 194, attributes := #[] }, { accessFlags := 25, nameIndex := 302, descriptorIndex := 303, attributes := #[] }, { accessFlags := 24, nameIndex := 19, descriptorIndex := 20, attributes := #[] }, { accessFlags := 24, nameIndex := 89, descriptorIndex := 86, attributes := #[] }, { accessFlags := 24, nameIndex := 85, descriptorIndex := 86, attributes := #[] }, { accessFlags := 18, nameIndex := 207, descriptorIndex := 194, attributes := #[] }, { accessFlags := 25, nameIndex := 316, descriptorIndex := 194, attributes := #[] }, { accessFlags := 25, nameIndex := 318, descriptorIndex := 194, attributes := #[] }, { accessFlags := 26, nameIndex := 320, descriptorIndex := 321, attributes := #[] }])
  fields := #[{ name := "MIN_VALUE", type := .int, accessFlags := 25, slot := 0, constantValue := 0 }, { name := "MAX_VALUE", type := .int, accessFlags := 25, slot := 1, constantValue := 0 }, { name := "TYPE", type := (.object "java/lang/Class"), accessFlags := 25, slot := 2, constantValue := 0 }, { name := "digits", type := (.array .char), accessFlags := 24, slot := 3, constantValue := 0 }, { name := "DigitTens", type := (.array .byte), accessFlags := 24, slot := 4, constantValue := 0 }, { name := "DigitOnes", type := (.array .byte), accessFlags := 24, slot := 5, constantValue := 0 }, { name := "value", type := .int, accessFlags := 18, slot := 0, constantValue := 0 }, { name := "SIZE", type := .int, accessFlags := 25, slot := 6, constantValue := 0 }, { name := "BYTES", type := .int, accessFlags := 25, slot := 7, constantValue := 0 }, { name := "serialVersionUID", type := .long, accessFlags := 26, slot := 8, constantValue := 0 }]
  methods := #[k13m0, k13m1]
  instanceTypes := #[.int]
  staticTypes := #[.int, .int, (.object "java/lang/Class"), (.array .char), (.array .byte), (.array .byte), .int, .int, .long]
  resolved := Array.replicate 453 none
  statics := none }

def pool14 : Array CpInfo := pool [(2, .class_ 4), (1, u "java/lang/Object"), (0, u "<init>"), (0, u "()V"), (0, .class_ 8), (0, u "java/lang/Integer"), (7, .class_ 18), (1, u "java/lang/Integer$IntegerCache"), (0, u "$assertionsDisabled"), (0, u "Z"), (26, u "high"), (0, u "I"), (8, u "archivedCache"), (0, u "[Ljava/lang/Integer;"), (12, u "cache"), (0, u "low")] 27

def k14m0 : Method := { name := "<init>", desc := "()V", sig := { parameters := [], returnType := none }, accessFlags := 2, code := none }
/-- java/lang/Integer$IntegerCache -/
def k14 : Class := { plain "java/lang/Integer$IntegerCache" (some 0) with
  accessFlags := 48
  interfaces := #[]
  cf := some (fileOf pool14 16 #[.nestHost 7] #[{ accessFlags := 2, nameIndex := 5, descriptorIndex := 6, attributes := #[] }] 48 2 #[] #[{ accessFlags := 24, nameIndex := 72, descriptorIndex := 48, attributes := #[] }, { accessFlags := 24, nameIndex := 47, descriptorIndex := 48, attributes := #[] }, { accessFlags := 24, nameIndex := 71, descriptorIndex := 58, attributes := #[] }, { accessFlags := 8, nameIndex := 57, descriptorIndex := 58, attributes := #[] }, { accessFlags := 4120, nameIndex := 19, descriptorIndex := 20, attributes := #[] }])
  fields := #[{ name := "low", type := .int, accessFlags := 24, slot := 0, constantValue := 0 }, { name := "high", type := .int, accessFlags := 24, slot := 1, constantValue := 0 }, { name := "cache", type := (.array (.object "java/lang/Integer")), accessFlags := 24, slot := 2, constantValue := 0 }, { name := "archivedCache", type := (.array (.object "java/lang/Integer")), accessFlags := 8, slot := 3, constantValue := 0 }, { name := "$assertionsDisabled", type := .boolean, accessFlags := 4120, slot := 4, constantValue := 0 }]
  methods := #[k14m0]
  instanceTypes := #[]
  staticTypes := #[.int, .int, (.array (.object "java/lang/Integer")), (.array (.object "java/lang/Integer")), .boolean]
  resolved := Array.replicate 100 none
  statics := some 1 }

def pool15 : Array CpInfo := pool [(2, .class_ 4), (1, u "java/lang/Object"), (0, u "<init>"), (0, u "()V"), (17, .class_ 26), (1, u "jdk/internal/util/Preconditions"), (28, .class_ 56), (0, u "jdk/internal/util/Preconditions$4"), (57, .class_ 115), (0, u "jdk/internal/util/Preconditions$1"), (7, u "SIOOBE_FORMATTER"), (0, u "Ljava/util/function/BiFunction;"), (0, .class_ 126), (0, u "jdk/internal/util/Preconditions$2"), (3, u "AIOOBE_FORMATTER"), (0, .class_ 132), (0, u "jdk/internal/util/Preconditions$3"), (3, u "IOOBE_FORMATTER")] 57

def k15m0 : Method := { name := "<init>", desc := "()V", sig := { parameters := [], returnType := none }, accessFlags := 1, code := none }
/-- jdk/internal/util/Preconditions -/
def k15 : Class := { plain "jdk/internal/util/Preconditions" (some 0) with
  accessFlags := 33
  interfaces := #[]
  cf := some (fileOf pool15 24 #[.nestMembers #[55, 131, 125, 114]] #[{ accessFlags := 1, nameIndex := 5, descriptorIndex := 6, attributes := #[] }] 33 2 #[] #[{ accessFlags := 25, nameIndex := 123, descriptorIndex := 124, attributes := #[] }, { accessFlags := 25, nameIndex := 130, descriptorIndex := 124, attributes := #[] }, { accessFlags := 25, nameIndex := 136, descriptorIndex := 124, attributes := #[] }])
  fields := #[{ name := "SIOOBE_FORMATTER", type := (.object "java/util/function/BiFunction"), accessFlags := 25, slot := 0, constantValue := 0 }, { name := "AIOOBE_FORMATTER", type := (.object "java/util/function/BiFunction"), accessFlags := 25, slot := 1, constantValue := 0 }, { name := "IOOBE_FORMATTER", type := (.object "java/util/function/BiFunction"), accessFlags := 25, slot := 2, constantValue := 0 }]
  methods := #[k15m0]
  instanceTypes := #[]
  staticTypes := #[(.object "java/util/function/BiFunction"), (.object "java/util/function/BiFunction"), (.object "java/util/function/BiFunction")]
  resolved := Array.replicate 194 none
  statics := some 2 }

def pool16 : Array CpInfo := pool [(9, u "<init>"), (6, .class_ 18), (1, u "java/lang/Object"), (0, u "()V"), (1, .class_ 23), (1, u "jdk/internal/util/ArraysSupport"), (0, u "LOG2_ARRAY_LONG_INDEX_SCALE"), (0, u "I"), (2, u "U"), (0, u "Ljdk/internal/misc/Unsafe;"), (8, u "BIG_ENDIAN"), (0, u "Z"), (8, u "LOG2_BYTE_BIT_SIZE"), (4, u "LOG2_ARRAY_INT_INDEX_SCALE"), (54, u "JLA"), (0, u "Ljdk/internal/access/JavaLangAccess;"), (11, u "LOG2_ARRAY_BOOLEAN_INDEX_SCALE"), (9, u "LOG2_ARRAY_BYTE_INDEX_SCALE"), (5, u "LOG2_ARRAY_CHAR_INDEX_SCALE"), (5, u "LOG2_ARRAY_SHORT_INDEX_SCALE"), (18, u "LOG2_ARRAY_FLOAT_INDEX_SCALE"), (24, u "LOG2_ARRAY_DOUBLE_INDEX_SCALE"), (89, u "T_BOOLEAN"), (2, u "T_CHAR"), (1, u "T_FLOAT"), (1, u "T_DOUBLE"), (1, u "T_BYTE"), (1, u "T_SHORT"), (1, u "T_INT"), (1, u "T_LONG"), (1, u "SOFT_MAX_ARRAY_LENGTH")] 83

def k16m0 : Method := { name := "<init>", desc := "()V", sig := { parameters := [], returnType := none }, accessFlags := 2, code := none }
/-- jdk/internal/util/ArraysSupport -/
def k16 : Class := { plain "jdk/internal/util/ArraysSupport" (some 0) with
  accessFlags := 33
  interfaces := #[]
  cf := some (fileOf pool16 21 #[] #[{ accessFlags := 2, nameIndex := 9, descriptorIndex := 19, attributes := #[] }] 33 16 #[] #[{ accessFlags := 24, nameIndex := 28, descriptorIndex := 29, attributes := #[] }, { accessFlags := 26, nameIndex := 38, descriptorIndex := 39, attributes := #[] }, { accessFlags := 25, nameIndex := 121, descriptorIndex := 25, attributes := #[] }, { accessFlags := 25, nameIndex := 131, descriptorIndex := 25, attributes := #[] }, { accessFlags := 25, nameIndex := 137, descriptorIndex := 25, attributes := #[] }, { accessFlags := 25, nameIndex := 143, descriptorIndex := 25, attributes := #[] }, { accessFlags := 25, nameIndex := 53, descriptorIndex := 25, attributes := #[] }, { accessFlags := 25, nameIndex := 24, descriptorIndex := 25, attributes := #[] }, { accessFlags := 25, nameIndex := 162, descriptorIndex := 25, attributes := #[] }, { accessFlags := 25, nameIndex := 187, descriptorIndex := 25, attributes := #[] }, { accessFlags := 26, nameIndex := 48, descriptorIndex := 25, attributes := #[] }, { accessFlags := 25, nameIndex := 277, descriptorIndex := 25, attributes := #[] }, { accessFlags := 25, nameIndex := 280, descriptorIndex := 25, attributes := #[] }, { accessFlags := 25, nameIndex := 282, descriptorIndex := 25, attributes := #[] }, { accessFlags := 25, nameIndex := 284, descriptorIndex := 25, attributes := #[] }, { accessFlags := 25, nameIndex := 286, descriptorIndex := 25, attributes := #[] }, { accessFlags := 25, nameIndex := 288, descriptorIndex := 25, attributes := #[] }, { accessFlags := 25, nameIndex := 290, descriptorIndex := 25, attributes := #[] }, { accessFlags := 25, nameIndex := 292, descriptorIndex := 25, attributes := #[] }, { accessFlags := 26, nameIndex := 108, descriptorIndex := 109, attributes := #[] }, { accessFlags := 25, nameIndex := 294, descriptorIndex := 25, attributes := #[] }])
  fields := #[{ name := "U", type := (.object "jdk/internal/misc/Unsafe"), accessFlags := 24, slot := 0, constantValue := 0 }, { name := "BIG_ENDIAN", type := .boolean, accessFlags := 26, slot := 1, constantValue := 0 }, { name := "LOG2_ARRAY_BOOLEAN_INDEX_SCALE", type := .int, accessFlags := 25, slot := 2, constantValue := 0 }, { name := "LOG2_ARRAY_BYTE_INDEX_SCALE", type := .int, accessFlags := 25, slot := 3, constantValue := 0 }, { name := "LOG2_ARRAY_CHAR_INDEX_SCALE", type := .int, accessFlags := 25, slot := 4, constantValue := 0 }, { name := "LOG2_ARRAY_SHORT_INDEX_SCALE", type := .int, accessFlags := 25, slot := 5, constantValue := 0 }, { name := "LOG2_ARRAY_INT_INDEX_SCALE", type := .int, accessFlags := 25, slot := 6, constantValue := 0 }, { name := "LOG2_ARRAY_LONG_INDEX_SCALE", type := .int, accessFlags := 25, slot := 7, constantValue := 0 }, { name := "LOG2_ARRAY_FLOAT_INDEX_SCALE", type := .int, accessFlags := 25, slot := 8, constantValue := 0 }, { name := "LOG2_ARRAY_DOUBLE_INDEX_SCALE", type := .int, accessFlags := 25, slot := 9, constantValue := 0 }, { name := "LOG2_BYTE_BIT_SIZE", type := .int, accessFlags := 26, slot := 10, constantValue := 0 }, { name := "T_BOOLEAN", type := .int, accessFlags := 25, slot := 11, constantValue := 0 }, { name := "T_CHAR", type := .int, accessFlags := 25, slot := 12, constantValue := 0 }, { name := "T_FLOAT", type := .int, accessFlags := 25, slot := 13, constantValue := 0 }, { name := "T_DOUBLE", type := .int, accessFlags := 25, slot := 14, constantValue := 0 }, { name := "T_BYTE", type := .int, accessFlags := 25, slot := 15, constantValue := 0 }, { name := "T_SHORT", type := .int, accessFlags := 25, slot := 16, constantValue := 0 }, { name := "T_INT", type := .int, accessFlags := 25, slot := 17, constantValue := 0 }, { name := "T_LONG", type := .int, accessFlags := 25, slot := 18, constantValue := 0 }, { name := "JLA", type := (.object "jdk/internal/access/JavaLangAccess"), accessFlags := 26, slot := 19, constantValue := 0 }, { name := "SOFT_MAX_ARRAY_LENGTH", type := .int, accessFlags := 25, slot := 20, constantValue := 0 }]
  methods := #[k16m0]
  instanceTypes := #[]
  staticTypes := #[(.object "jdk/internal/misc/Unsafe"), .boolean, .int, .int, .int, .int, .int, .int, .int, .int, .int, .int, .int, .int, .int, .int, .int, .int, .int, (.object "jdk/internal/access/JavaLangAccess"), .int]
  resolved := Array.replicate 378 none
  statics := none }

def pool17 : Array CpInfo := pool [(1, u "java/lang/Cloneable"), (0, .class_ 1), (0, u "java/lang/Object"), (0, .class_ 3)] 3

/-- java/lang/Cloneable -/
def k17 : Class := { plain "java/lang/Cloneable" (some 0) with
  accessFlags := 1537
  interfaces := #[]
  cf := some (fileOf pool17 2 #[] #[] 1537 4 #[] #[])
  fields := #[]
  methods := #[]
  instanceTypes := #[]
  staticTypes := #[]
  resolved := Array.replicate 8 none
  statics := none }

/-- the primitive byte -/
def k18 : Class := { plain "byte" none with kind := .primitive 'B', accessFlags := 0x411 }
/-- [B -/
def k19 : Class := { plain "[B" (some 0) with kind := .array 18 .byte, interfaces := #[17, 3], accessFlags := 1041 }

/-- the primitive char -/
def k20 : Class := { plain "char" none with kind := .primitive 'C', accessFlags := 0x411 }
/-- [C -/
def k21 : Class := { plain "[C" (some 0) with kind := .array 20 .char, interfaces := #[17, 3], accessFlags := 1041 }

/-- the primitive int -/
def k22 : Class := { plain "int" none with kind := .primitive 'I', accessFlags := 0x411 }
/-- [I -/
def k23 : Class := { plain "[I" (some 0) with kind := .array 22 .int, interfaces := #[17, 3], accessFlags := 1041 }

/-- [Ljava/lang/Integer; -/
def k24 : Class := { plain "[Ljava/lang/Integer;" (some 0) with kind := .array 13 (.object "java/lang/Integer"), interfaces := #[17, 3], accessFlags := 1041 }

def heap : Heap := #[{ cls := 8, slots := #[.long 0, .int 1, .null, .int 0, .null, .int 0, .int 0], vm := .statics 8 },
  { cls := 14, slots := #[.int 0, .int 127, .ref 3, .null, .int 0], vm := .statics 14 },
  { cls := 15, slots := #[.null, .null, .null], vm := .statics 15 },
  { cls := 24, slots := #[.ref 4, .ref 5, .ref 6, .ref 7, .ref 8, .ref 9, .ref 10, .ref 11, .ref 12, .ref 13, .ref 14, .ref 15, .ref 16, .ref 17, .ref 18, .ref 19, .ref 20, .ref 21, .ref 22, .ref 23, .ref 24, .ref 25, .ref 26, .ref 27, .ref 28, .ref 29, .ref 30, .ref 31, .ref 32, .ref 33, .ref 34, .ref 35, .ref 36, .ref 37, .ref 38, .ref 39, .ref 40, .ref 41, .ref 42, .ref 43, .ref 44, .ref 45, .ref 46, .ref 47, .ref 48, .ref 49, .ref 50, .ref 51, .ref 52, .ref 53, .ref 54, .ref 55, .ref 56, .ref 57, .ref 58, .ref 59, .ref 60, .ref 61, .ref 62, .ref 63, .ref 64, .ref 65, .ref 66, .ref 67, .ref 68, .ref 69, .ref 70, .ref 71, .ref 72, .ref 73, .ref 74, .ref 75, .ref 76, .ref 77, .ref 78, .ref 79, .ref 80, .ref 81, .ref 82, .ref 83, .ref 84, .ref 85, .ref 86, .ref 87, .ref 88, .ref 89, .ref 90, .ref 91, .ref 92, .ref 93, .ref 94, .ref 95, .ref 96, .ref 97, .ref 98, .ref 99, .ref 100, .ref 101, .ref 102, .ref 103, .ref 104, .ref 105, .ref 106, .ref 107, .ref 108, .ref 109, .ref 110, .ref 111, .ref 112, .ref 113, .ref 114, .ref 115, .ref 116, .ref 117, .ref 118, .ref 119, .ref 120, .ref 121, .ref 122, .ref 123, .ref 124, .ref 125, .ref 126, .ref 127, .ref 128, .ref 129, .ref 130, .ref 131, .ref 132, .ref 133, .ref 134, .ref 135, .ref 136, .ref 137, .ref 138, .ref 139, .ref 140, .ref 141, .ref 142, .ref 143, .ref 144, .ref 145, .ref 146, .ref 147, .ref 148, .ref 149, .ref 150, .ref 151, .ref 152, .ref 153, .ref 154, .ref 155, .ref 156, .ref 157, .ref 158, .ref 159, .ref 160, .ref 161, .ref 162, .ref 163, .ref 164, .ref 165, .ref 166, .ref 167, .ref 168, .ref 169, .ref 170, .ref 171, .ref 172, .ref 173, .ref 174, .ref 175, .ref 176, .ref 177, .ref 178, .ref 179, .ref 180, .ref 181, .ref 182, .ref 183, .ref 184, .ref 185, .ref 186, .ref 187, .ref 188, .ref 189, .ref 190, .ref 191, .ref 192, .ref 193, .ref 194, .ref 195, .ref 196, .ref 197, .ref 198, .ref 199, .ref 200, .ref 201, .ref 202, .ref 203, .ref 204, .ref 205, .ref 206, .ref 207, .ref 208, .ref 209, .ref 210, .ref 211, .ref 212, .ref 213, .ref 214, .ref 215, .ref 216, .ref 217, .ref 218, .ref 219, .ref 220, .ref 221, .ref 222, .ref 223, .ref 224, .ref 225, .ref 226, .ref 227, .ref 228, .ref 229, .ref 230, .ref 231, .ref 232, .ref 233, .ref 234, .ref 235, .ref 236, .ref 237, .ref 238, .ref 239, .ref 240, .ref 241, .ref 242, .ref 243, .ref 244, .ref 245, .ref 246, .ref 247, .ref 248, .ref 249, .ref 250, .ref 251, .ref 252, .ref 253, .ref 254, .ref 255, .ref 256, .ref 257, .ref 258, .ref 259], vm := .none },
  { cls := 13, slots := #[.int (-128)], vm := .none },
  { cls := 13, slots := #[.int (-127)], vm := .none },
  { cls := 13, slots := #[.int (-126)], vm := .none },
  { cls := 13, slots := #[.int (-125)], vm := .none },
  { cls := 13, slots := #[.int (-124)], vm := .none },
  { cls := 13, slots := #[.int (-123)], vm := .none },
  { cls := 13, slots := #[.int (-122)], vm := .none },
  { cls := 13, slots := #[.int (-121)], vm := .none },
  { cls := 13, slots := #[.int (-120)], vm := .none },
  { cls := 13, slots := #[.int (-119)], vm := .none },
  { cls := 13, slots := #[.int (-118)], vm := .none },
  { cls := 13, slots := #[.int (-117)], vm := .none },
  { cls := 13, slots := #[.int (-116)], vm := .none },
  { cls := 13, slots := #[.int (-115)], vm := .none },
  { cls := 13, slots := #[.int (-114)], vm := .none },
  { cls := 13, slots := #[.int (-113)], vm := .none },
  { cls := 13, slots := #[.int (-112)], vm := .none },
  { cls := 13, slots := #[.int (-111)], vm := .none },
  { cls := 13, slots := #[.int (-110)], vm := .none },
  { cls := 13, slots := #[.int (-109)], vm := .none },
  { cls := 13, slots := #[.int (-108)], vm := .none },
  { cls := 13, slots := #[.int (-107)], vm := .none },
  { cls := 13, slots := #[.int (-106)], vm := .none },
  { cls := 13, slots := #[.int (-105)], vm := .none },
  { cls := 13, slots := #[.int (-104)], vm := .none },
  { cls := 13, slots := #[.int (-103)], vm := .none },
  { cls := 13, slots := #[.int (-102)], vm := .none },
  { cls := 13, slots := #[.int (-101)], vm := .none },
  { cls := 13, slots := #[.int (-100)], vm := .none },
  { cls := 13, slots := #[.int (-99)], vm := .none },
  { cls := 13, slots := #[.int (-98)], vm := .none },
  { cls := 13, slots := #[.int (-97)], vm := .none },
  { cls := 13, slots := #[.int (-96)], vm := .none },
  { cls := 13, slots := #[.int (-95)], vm := .none },
  { cls := 13, slots := #[.int (-94)], vm := .none },
  { cls := 13, slots := #[.int (-93)], vm := .none },
  { cls := 13, slots := #[.int (-92)], vm := .none },
  { cls := 13, slots := #[.int (-91)], vm := .none },
  { cls := 13, slots := #[.int (-90)], vm := .none },
  { cls := 13, slots := #[.int (-89)], vm := .none },
  { cls := 13, slots := #[.int (-88)], vm := .none },
  { cls := 13, slots := #[.int (-87)], vm := .none },
  { cls := 13, slots := #[.int (-86)], vm := .none },
  { cls := 13, slots := #[.int (-85)], vm := .none },
  { cls := 13, slots := #[.int (-84)], vm := .none },
  { cls := 13, slots := #[.int (-83)], vm := .none },
  { cls := 13, slots := #[.int (-82)], vm := .none },
  { cls := 13, slots := #[.int (-81)], vm := .none },
  { cls := 13, slots := #[.int (-80)], vm := .none },
  { cls := 13, slots := #[.int (-79)], vm := .none },
  { cls := 13, slots := #[.int (-78)], vm := .none },
  { cls := 13, slots := #[.int (-77)], vm := .none },
  { cls := 13, slots := #[.int (-76)], vm := .none },
  { cls := 13, slots := #[.int (-75)], vm := .none },
  { cls := 13, slots := #[.int (-74)], vm := .none },
  { cls := 13, slots := #[.int (-73)], vm := .none },
  { cls := 13, slots := #[.int (-72)], vm := .none },
  { cls := 13, slots := #[.int (-71)], vm := .none },
  { cls := 13, slots := #[.int (-70)], vm := .none },
  { cls := 13, slots := #[.int (-69)], vm := .none },
  { cls := 13, slots := #[.int (-68)], vm := .none },
  { cls := 13, slots := #[.int (-67)], vm := .none },
  { cls := 13, slots := #[.int (-66)], vm := .none },
  { cls := 13, slots := #[.int (-65)], vm := .none },
  { cls := 13, slots := #[.int (-64)], vm := .none },
  { cls := 13, slots := #[.int (-63)], vm := .none },
  { cls := 13, slots := #[.int (-62)], vm := .none },
  { cls := 13, slots := #[.int (-61)], vm := .none },
  { cls := 13, slots := #[.int (-60)], vm := .none },
  { cls := 13, slots := #[.int (-59)], vm := .none },
  { cls := 13, slots := #[.int (-58)], vm := .none },
  { cls := 13, slots := #[.int (-57)], vm := .none },
  { cls := 13, slots := #[.int (-56)], vm := .none },
  { cls := 13, slots := #[.int (-55)], vm := .none },
  { cls := 13, slots := #[.int (-54)], vm := .none },
  { cls := 13, slots := #[.int (-53)], vm := .none },
  { cls := 13, slots := #[.int (-52)], vm := .none },
  { cls := 13, slots := #[.int (-51)], vm := .none },
  { cls := 13, slots := #[.int (-50)], vm := .none },
  { cls := 13, slots := #[.int (-49)], vm := .none },
  { cls := 13, slots := #[.int (-48)], vm := .none },
  { cls := 13, slots := #[.int (-47)], vm := .none },
  { cls := 13, slots := #[.int (-46)], vm := .none },
  { cls := 13, slots := #[.int (-45)], vm := .none },
  { cls := 13, slots := #[.int (-44)], vm := .none },
  { cls := 13, slots := #[.int (-43)], vm := .none },
  { cls := 13, slots := #[.int (-42)], vm := .none },
  { cls := 13, slots := #[.int (-41)], vm := .none },
  { cls := 13, slots := #[.int (-40)], vm := .none },
  { cls := 13, slots := #[.int (-39)], vm := .none },
  { cls := 13, slots := #[.int (-38)], vm := .none },
  { cls := 13, slots := #[.int (-37)], vm := .none },
  { cls := 13, slots := #[.int (-36)], vm := .none },
  { cls := 13, slots := #[.int (-35)], vm := .none },
  { cls := 13, slots := #[.int (-34)], vm := .none },
  { cls := 13, slots := #[.int (-33)], vm := .none },
  { cls := 13, slots := #[.int (-32)], vm := .none },
  { cls := 13, slots := #[.int (-31)], vm := .none },
  { cls := 13, slots := #[.int (-30)], vm := .none },
  { cls := 13, slots := #[.int (-29)], vm := .none },
  { cls := 13, slots := #[.int (-28)], vm := .none },
  { cls := 13, slots := #[.int (-27)], vm := .none },
  { cls := 13, slots := #[.int (-26)], vm := .none },
  { cls := 13, slots := #[.int (-25)], vm := .none },
  { cls := 13, slots := #[.int (-24)], vm := .none },
  { cls := 13, slots := #[.int (-23)], vm := .none },
  { cls := 13, slots := #[.int (-22)], vm := .none },
  { cls := 13, slots := #[.int (-21)], vm := .none },
  { cls := 13, slots := #[.int (-20)], vm := .none },
  { cls := 13, slots := #[.int (-19)], vm := .none },
  { cls := 13, slots := #[.int (-18)], vm := .none },
  { cls := 13, slots := #[.int (-17)], vm := .none },
  { cls := 13, slots := #[.int (-16)], vm := .none },
  { cls := 13, slots := #[.int (-15)], vm := .none },
  { cls := 13, slots := #[.int (-14)], vm := .none },
  { cls := 13, slots := #[.int (-13)], vm := .none },
  { cls := 13, slots := #[.int (-12)], vm := .none },
  { cls := 13, slots := #[.int (-11)], vm := .none },
  { cls := 13, slots := #[.int (-10)], vm := .none },
  { cls := 13, slots := #[.int (-9)], vm := .none },
  { cls := 13, slots := #[.int (-8)], vm := .none },
  { cls := 13, slots := #[.int (-7)], vm := .none },
  { cls := 13, slots := #[.int (-6)], vm := .none },
  { cls := 13, slots := #[.int (-5)], vm := .none },
  { cls := 13, slots := #[.int (-4)], vm := .none },
  { cls := 13, slots := #[.int (-3)], vm := .none },
  { cls := 13, slots := #[.int (-2)], vm := .none },
  { cls := 13, slots := #[.int (-1)], vm := .none },
  { cls := 13, slots := #[.int (0)], vm := .none },
  { cls := 13, slots := #[.int (1)], vm := .none },
  { cls := 13, slots := #[.int (2)], vm := .none },
  { cls := 13, slots := #[.int (3)], vm := .none },
  { cls := 13, slots := #[.int (4)], vm := .none },
  { cls := 13, slots := #[.int (5)], vm := .none },
  { cls := 13, slots := #[.int (6)], vm := .none },
  { cls := 13, slots := #[.int (7)], vm := .none },
  { cls := 13, slots := #[.int (8)], vm := .none },
  { cls := 13, slots := #[.int (9)], vm := .none },
  { cls := 13, slots := #[.int (10)], vm := .none },
  { cls := 13, slots := #[.int (11)], vm := .none },
  { cls := 13, slots := #[.int (12)], vm := .none },
  { cls := 13, slots := #[.int (13)], vm := .none },
  { cls := 13, slots := #[.int (14)], vm := .none },
  { cls := 13, slots := #[.int (15)], vm := .none },
  { cls := 13, slots := #[.int (16)], vm := .none },
  { cls := 13, slots := #[.int (17)], vm := .none },
  { cls := 13, slots := #[.int (18)], vm := .none },
  { cls := 13, slots := #[.int (19)], vm := .none },
  { cls := 13, slots := #[.int (20)], vm := .none },
  { cls := 13, slots := #[.int (21)], vm := .none },
  { cls := 13, slots := #[.int (22)], vm := .none },
  { cls := 13, slots := #[.int (23)], vm := .none },
  { cls := 13, slots := #[.int (24)], vm := .none },
  { cls := 13, slots := #[.int (25)], vm := .none },
  { cls := 13, slots := #[.int (26)], vm := .none },
  { cls := 13, slots := #[.int (27)], vm := .none },
  { cls := 13, slots := #[.int (28)], vm := .none },
  { cls := 13, slots := #[.int (29)], vm := .none },
  { cls := 13, slots := #[.int (30)], vm := .none },
  { cls := 13, slots := #[.int (31)], vm := .none },
  { cls := 13, slots := #[.int (32)], vm := .none },
  { cls := 13, slots := #[.int (33)], vm := .none },
  { cls := 13, slots := #[.int (34)], vm := .none },
  { cls := 13, slots := #[.int (35)], vm := .none },
  { cls := 13, slots := #[.int (36)], vm := .none },
  { cls := 13, slots := #[.int (37)], vm := .none },
  { cls := 13, slots := #[.int (38)], vm := .none },
  { cls := 13, slots := #[.int (39)], vm := .none },
  { cls := 13, slots := #[.int (40)], vm := .none },
  { cls := 13, slots := #[.int (41)], vm := .none },
  { cls := 13, slots := #[.int (42)], vm := .none },
  { cls := 13, slots := #[.int (43)], vm := .none },
  { cls := 13, slots := #[.int (44)], vm := .none },
  { cls := 13, slots := #[.int (45)], vm := .none },
  { cls := 13, slots := #[.int (46)], vm := .none },
  { cls := 13, slots := #[.int (47)], vm := .none },
  { cls := 13, slots := #[.int (48)], vm := .none },
  { cls := 13, slots := #[.int (49)], vm := .none },
  { cls := 13, slots := #[.int (50)], vm := .none },
  { cls := 13, slots := #[.int (51)], vm := .none },
  { cls := 13, slots := #[.int (52)], vm := .none },
  { cls := 13, slots := #[.int (53)], vm := .none },
  { cls := 13, slots := #[.int (54)], vm := .none },
  { cls := 13, slots := #[.int (55)], vm := .none },
  { cls := 13, slots := #[.int (56)], vm := .none },
  { cls := 13, slots := #[.int (57)], vm := .none },
  { cls := 13, slots := #[.int (58)], vm := .none },
  { cls := 13, slots := #[.int (59)], vm := .none },
  { cls := 13, slots := #[.int (60)], vm := .none },
  { cls := 13, slots := #[.int (61)], vm := .none },
  { cls := 13, slots := #[.int (62)], vm := .none },
  { cls := 13, slots := #[.int (63)], vm := .none },
  { cls := 13, slots := #[.int (64)], vm := .none },
  { cls := 13, slots := #[.int (65)], vm := .none },
  { cls := 13, slots := #[.int (66)], vm := .none },
  { cls := 13, slots := #[.int (67)], vm := .none },
  { cls := 13, slots := #[.int (68)], vm := .none },
  { cls := 13, slots := #[.int (69)], vm := .none },
  { cls := 13, slots := #[.int (70)], vm := .none },
  { cls := 13, slots := #[.int (71)], vm := .none },
  { cls := 13, slots := #[.int (72)], vm := .none },
  { cls := 13, slots := #[.int (73)], vm := .none },
  { cls := 13, slots := #[.int (74)], vm := .none },
  { cls := 13, slots := #[.int (75)], vm := .none },
  { cls := 13, slots := #[.int (76)], vm := .none },
  { cls := 13, slots := #[.int (77)], vm := .none },
  { cls := 13, slots := #[.int (78)], vm := .none },
  { cls := 13, slots := #[.int (79)], vm := .none },
  { cls := 13, slots := #[.int (80)], vm := .none },
  { cls := 13, slots := #[.int (81)], vm := .none },
  { cls := 13, slots := #[.int (82)], vm := .none },
  { cls := 13, slots := #[.int (83)], vm := .none },
  { cls := 13, slots := #[.int (84)], vm := .none },
  { cls := 13, slots := #[.int (85)], vm := .none },
  { cls := 13, slots := #[.int (86)], vm := .none },
  { cls := 13, slots := #[.int (87)], vm := .none },
  { cls := 13, slots := #[.int (88)], vm := .none },
  { cls := 13, slots := #[.int (89)], vm := .none },
  { cls := 13, slots := #[.int (90)], vm := .none },
  { cls := 13, slots := #[.int (91)], vm := .none },
  { cls := 13, slots := #[.int (92)], vm := .none },
  { cls := 13, slots := #[.int (93)], vm := .none },
  { cls := 13, slots := #[.int (94)], vm := .none },
  { cls := 13, slots := #[.int (95)], vm := .none },
  { cls := 13, slots := #[.int (96)], vm := .none },
  { cls := 13, slots := #[.int (97)], vm := .none },
  { cls := 13, slots := #[.int (98)], vm := .none },
  { cls := 13, slots := #[.int (99)], vm := .none },
  { cls := 13, slots := #[.int (100)], vm := .none },
  { cls := 13, slots := #[.int (101)], vm := .none },
  { cls := 13, slots := #[.int (102)], vm := .none },
  { cls := 13, slots := #[.int (103)], vm := .none },
  { cls := 13, slots := #[.int (104)], vm := .none },
  { cls := 13, slots := #[.int (105)], vm := .none },
  { cls := 13, slots := #[.int (106)], vm := .none },
  { cls := 13, slots := #[.int (107)], vm := .none },
  { cls := 13, slots := #[.int (108)], vm := .none },
  { cls := 13, slots := #[.int (109)], vm := .none },
  { cls := 13, slots := #[.int (110)], vm := .none },
  { cls := 13, slots := #[.int (111)], vm := .none },
  { cls := 13, slots := #[.int (112)], vm := .none },
  { cls := 13, slots := #[.int (113)], vm := .none },
  { cls := 13, slots := #[.int (114)], vm := .none },
  { cls := 13, slots := #[.int (115)], vm := .none },
  { cls := 13, slots := #[.int (116)], vm := .none },
  { cls := 13, slots := #[.int (117)], vm := .none },
  { cls := 13, slots := #[.int (118)], vm := .none },
  { cls := 13, slots := #[.int (119)], vm := .none },
  { cls := 13, slots := #[.int (120)], vm := .none },
  { cls := 13, slots := #[.int (121)], vm := .none },
  { cls := 13, slots := #[.int (122)], vm := .none },
  { cls := 13, slots := #[.int (123)], vm := .none },
  { cls := 13, slots := #[.int (124)], vm := .none },
  { cls := 13, slots := #[.int (125)], vm := .none },
  { cls := 13, slots := #[.int (126)], vm := .none },
  { cls := 13, slots := #[.int (127)], vm := .none }]
def classes : Array Class := #[k0, k1, k2, k3, k4, k5, k6, k7, k8, k9, k10, k11, k12, k13, k14, k15, k16, k17, k18, k19, k20, k21, k22, k23, k24]
def interned : List (Array UInt16 × Addr) := []
def slotsUsed : Nat := 527
def theMethod : MethodId := ⟨1, 1⟩
def args0 : Array Value := #[.int 5, .int 1, .int 3, .int 2, .int 1]
def aboutOver (below : List Frame) : State where
  vm := { classes := classes, interned := interned.toArray }
  heap := heap
  slotsUsed := slotsUsed
  threads := #[{ frames := .invoking theMethod args0 :: below }]
def below0 : List Frame := [.native { method := ⟨0, 0⟩, args := #[] }]
def about1 : State := aboutOver below0
def p0 : Program := .bare "" "" ""
def e0 : Env := launch0.env 0 0 0
theorem w_frames : about1.frames = Frame.invoking theMethod args0 :: below0 := rfl
set_option maxRecDepth 65536 in
theorem w_args : argsFit about1.vm theMethod args0 = true := by decide +kernel
set_option maxRecDepth 65536 in
theorem w_heap : heapFits about1 = true := by decide +kernel
set_option maxRecDepth 65536 in
theorem w_runnable : about1.curStatus? = some .runnable := by decide +kernel
set_option maxRecDepth 65536 in
theorem w_alone : about1.alone = true := by decide +kernel
set_option maxRecDepth 65536 in
theorem w_named : about1.methodNamed? x = some theMethod := by decide +kernel
set_option maxRecDepth 65536 in
theorem w_hears : about1.hears theMethod below0 = true := by decide +kernel
set_option maxRecDepth 65536 in
theorem w_ripe : about1.ripe theMethod args0 below0 = true := by decide +kernel
theorem w_running : about1.status = .running := rfl
set_option maxRecDepth 65536 in
theorem w_room : about1.hasRoom e0.platform room_1 = true :=
  launch0.hasRoom_least _ room_1 (by decide +kernel) (by decide +kernel) (by decide +kernel) (by decide +kernel) (by decide +kernel) (by decide +kernel)
theorem allAtoms_all (ts : List Jvm.Cond) (a : Array Jvm.Value) (st : Jvm.State) : (allAtoms ts).before a st = ts.all (fun c => c.before a st) := by
  induction ts with
  | nil => rfl
  | cons c t ih =>
    show (Jvm.Cond.and c (allAtoms t)).before a st = _
    rw [Jvm.Cond.before_and, ih, List.all_cons]
def words1 : List Jvm.Cond := Jvm.Cond.code x code maxLocals ret :: tables_1
/-- a 'code' word, met by the world's own term for the bytes: nothing is compared byte by byte -/
theorem code_word {y : MethodName} {bytes : ByteArray} {mx : Nat} {rt : Option FieldType} {a : Array Value} {s : State} {m : MethodId} {meth : Method} {c : Code} (h1 : s.methodNamed? y = some m) (h2 : s.vm.method? m = some meth) (h3 : meth.code = some c) (h4 : c.code = bytes)
    (h5 : (c.maxLocals == mx && c.exceptionTable.isEmpty && decide (c.maxStack ≤ mostOperands) && decide (meth.sig.returnType = rt) && !meth.locks && decide (parseMethodDescriptor y.desc = some meth.sig)) = true) : (Jvm.Cond.code y bytes mx rt).before a s = true := by
  simp only [Bool.and_eq_true, beq_iff_eq, Bool.not_eq_true', decide_eq_true_eq] at h5
  obtain ⟨⟨⟨⟨⟨g1, g2⟩, g3⟩, g4⟩, g5⟩, g6⟩ := h5
  simp [Cond.before, Cond.holds, Cond.value, h1, h2, h3, h4, g1, g2, g3, g4, g5, g6]
def isCode : Jvm.Cond → Bool
  | .code _ _ _ _ => true
  | _ => false
theorem all_split {L : List Jvm.Cond} {P : Jvm.Cond → Bool} (h1 : L.all (fun c => isCode c || P c) = true) (h2 : ∀ c ∈ L.filter isCode, P c = true) : L.all P = true := by
  refine List.all_eq_true.mpr fun c hc => ?_
  have h := List.all_eq_true.mp h1 c hc
  rcases Bool.eq_false_or_eq_true (isCode c) with hi | hi
  · exact h2 c (List.mem_filter.mpr ⟨hc, hi⟩)
  · simpa [hi] using h
set_option maxRecDepth 65536 in
theorem w_c0 : (Jvm.Cond.code x code maxLocals ret).before args0 about1 = true := code_word (m := ⟨1, 1⟩) (meth := k1m1) (c := k1c1) (by decide +kernel) rfl rfl rfl (by decide +kernel)
set_option maxRecDepth 65536 in
theorem w_c1 : (Jvm.Cond.code ({ cls := "com/example/phone_conformance_check/phoneconformancecheck/capture/PropertyEqualsPinLaw", name := "len", desc := "(I)I" } : Jvm.MethodName) method_3_code (1 : Nat) (Option.some Jvm.ClassFile.FieldType.int)).before args0 about1 = true := code_word (m := ⟨1, 2⟩) (meth := k1m2) (c := k1c2) (by decide +kernel) rfl rfl rfl (by decide +kernel)
set_option maxRecDepth 65536 in
theorem w_c2 : (Jvm.Cond.code ({ cls := "com/example/phone_conformance_check/phoneconformancecheck/capture/PropertyEqualsPinLaw", name := "c0", desc := "(I)C" } : Jvm.MethodName) method_4_code (1 : Nat) (Option.some Jvm.ClassFile.FieldType.char)).before args0 about1 = true := code_word (m := ⟨1, 3⟩) (meth := k1m3) (c := k1c3) (by decide +kernel) rfl rfl rfl (by decide +kernel)
set_option maxRecDepth 65536 in
theorem w_c3 : (Jvm.Cond.code ({ cls := "com/example/phone_conformance_check/phoneconformancecheck/capture/PropertyEqualsPinLaw", name := "c1", desc := "(I)C" } : Jvm.MethodName) method_5_code (1 : Nat) (Option.some Jvm.ClassFile.FieldType.char)).before args0 about1 = true := code_word (m := ⟨1, 4⟩) (meth := k1m4) (c := k1c4) (by decide +kernel) rfl rfl rfl (by decide +kernel)
set_option maxRecDepth 65536 in
theorem w_c4 : (Jvm.Cond.code ({ cls := "com/example/phone_conformance_check/phoneconformancecheck/capture/PropertyEqualsPinLaw", name := "mk", desc := "(ICC)Ljava/lang/String;" } : Jvm.MethodName) method_6_code (3 : Nat) (Option.some (Jvm.ClassFile.FieldType.object "java/lang/String"))).before args0 about1 = true := code_word (m := ⟨1, 5⟩) (meth := k1m5) (c := k1c5) (by decide +kernel) rfl rfl rfl (by decide +kernel)
set_option maxRecDepth 65536 in
theorem w_c5 : (Jvm.Cond.code ({ cls := "java/lang/String", name := "<init>", desc := "([C)V" } : Jvm.MethodName) jdk_42_method_3_code (2 : Nat) (Option.none : Option Jvm.ClassFile.FieldType)).before args0 about1 = true := code_word (m := ⟨8, 1⟩) (meth := k8m1) (c := k8c1) (by decide +kernel) rfl rfl rfl (by decide +kernel)
set_option maxRecDepth 65536 in
theorem w_c6 : (Jvm.Cond.code ({ cls := "java/lang/String", name := "<init>", desc := "([CIILjava/lang/Void;)V" } : Jvm.MethodName) jdk_42_method_149_code (6 : Nat) (Option.none : Option Jvm.ClassFile.FieldType)).before args0 about1 = true := code_word (m := ⟨8, 3⟩) (meth := k8m3) (c := k8c3) (by decide +kernel) rfl rfl rfl (by decide +kernel)
set_option maxRecDepth 65536 in
theorem w_c7 : (Jvm.Cond.code ({ cls := "java/lang/Object", name := "<init>", desc := "()V" } : Jvm.MethodName) object_method_1_code (1 : Nat) (Option.none : Option Jvm.ClassFile.FieldType)).before args0 about1 = true := code_word (m := ⟨0, 0⟩) (meth := k0m0) (c := k0c0) (by decide +kernel) rfl rfl rfl (by decide +kernel)
set_option maxRecDepth 65536 in
theorem w_c8 : (Jvm.Cond.code ({ cls := "com/example/phone_conformance_check/phoneconformancecheck/capture/Property", name := "<init>", desc := "(Ljava/lang/String;Ljava/lang/String;)V" } : Jvm.MethodName) prog_16_method_1_code (3 : Nat) (Option.none : Option Jvm.ClassFile.FieldType)).before args0 about1 = true := code_word (m := ⟨2, 0⟩) (meth := k2m0) (c := k2c0) (by decide +kernel) rfl rfl rfl (by decide +kernel)
set_option maxRecDepth 65536 in
theorem w_c9 : (Jvm.Cond.code ({ cls := "java/util/Objects", name := "requireNonNull", desc := "(Ljava/lang/Object;Ljava/lang/String;)Ljava/lang/Object;" } : Jvm.MethodName) jdk_31_method_11_code (2 : Nat) (Option.some (Jvm.ClassFile.FieldType.object "java/lang/Object"))).before args0 about1 = true := code_word (m := ⟨9, 1⟩) (meth := k9m1) (c := k9c1) (by decide +kernel) rfl rfl rfl (by decide +kernel)
set_option maxRecDepth 65536 in
theorem w_c10 : (Jvm.Cond.code ({ cls := "com/example/phone_conformance_check/phoneconformancecheck/capture/PropertyEqualsPinLaw", name := "same", desc := "(ICCICC)Z" } : Jvm.MethodName) method_7_code (6 : Nat) (Option.some Jvm.ClassFile.FieldType.boolean)).before args0 about1 = true := code_word (m := ⟨1, 6⟩) (meth := k1m6) (c := k1c6) (by decide +kernel) rfl rfl rfl (by decide +kernel)
set_option maxRecDepth 65536 in
theorem w_c11 : (Jvm.Cond.code ({ cls := "com/example/phone_conformance_check/phoneconformancecheck/capture/Property", name := "equals", desc := "(Ljava/lang/Object;)Z" } : Jvm.MethodName) prog_16_method_7_code (3 : Nat) (Option.some Jvm.ClassFile.FieldType.boolean)).before args0 about1 = true := code_word (m := ⟨2, 1⟩) (meth := k2m1) (c := k2c1) (by decide +kernel) rfl rfl rfl (by decide +kernel)
set_option maxRecDepth 65536 in
theorem w_c12 : (Jvm.Cond.code ({ cls := "java/lang/String", name := "equals", desc := "(Ljava/lang/Object;)Z" } : Jvm.MethodName) jdk_42_method_66_code (3 : Nat) (Option.some Jvm.ClassFile.FieldType.boolean)).before args0 about1 = true := code_word (m := ⟨8, 2⟩) (meth := k8m2) (c := k8c2) (by decide +kernel) rfl rfl rfl (by decide +kernel)
set_option maxRecDepth 65536 in
theorem w_c13 : (Jvm.Cond.code ({ cls := "java/lang/StringLatin1", name := "equals", desc := "([B[B)Z" } : Jvm.MethodName) jdk_43_method_13_code (3 : Nat) (Option.some Jvm.ClassFile.FieldType.boolean)).before args0 about1 = true := code_word (m := ⟨10, 1⟩) (meth := k10m1) (c := k10c1) (by decide +kernel) rfl rfl rfl (by decide +kernel)
set_option maxRecDepth 65536 in
theorem w_c14 : (Jvm.Cond.code ({ cls := "java/lang/StringUTF16", name := "compress", desc := "([CII)[B" } : Jvm.MethodName) jdk_52_method_16_code (6 : Nat) (Option.some (Jvm.ClassFile.FieldType.array Jvm.ClassFile.FieldType.byte))).before args0 about1 = true := code_word (m := ⟨11, 2⟩) (meth := k11m2) (c := k11c2) (by decide +kernel) rfl rfl rfl (by decide +kernel)
set_option maxRecDepth 65536 in
theorem w_c15 : (Jvm.Cond.code ({ cls := "java/lang/StringUTF16", name := "compress", desc := "([CI[BII)I" } : Jvm.MethodName) jdk_52_method_21_code (7 : Nat) (Option.some Jvm.ClassFile.FieldType.int)).before args0 about1 = true := code_word (m := ⟨11, 3⟩) (meth := k11m3) (c := k11c3) (by decide +kernel) rfl rfl rfl (by decide +kernel)
set_option maxRecDepth 65536 in
theorem w_c16 : (Jvm.Cond.code ({ cls := "java/lang/StringUTF16", name := "coderFromArrayLen", desc := "([BI)B" } : Jvm.MethodName) jdk_52_method_15_code (2 : Nat) (Option.some Jvm.ClassFile.FieldType.byte)).before args0 about1 = true := code_word (m := ⟨11, 1⟩) (meth := k11m1) (c := k11c1) (by decide +kernel) rfl rfl rfl (by decide +kernel)
set_option maxRecDepth 65536 in
theorem w_c17 : (Jvm.Cond.code ({ cls := "java/lang/Integer", name := "valueOf", desc := "(I)Ljava/lang/Integer;" } : Jvm.MethodName) jdk_33_method_22_code (1 : Nat) (Option.some (Jvm.ClassFile.FieldType.object "java/lang/Integer"))).before args0 about1 = true := code_word (m := ⟨13, 0⟩) (meth := k13m0) (c := k13c0) (by decide +kernel) rfl rfl rfl (by decide +kernel)
set_option maxRecDepth 65536 in
theorem w_c18 : (Jvm.Cond.code ({ cls := "java/lang/Integer", name := "<init>", desc := "(I)V" } : Jvm.MethodName) jdk_33_method_23_code (2 : Nat) (Option.none : Option Jvm.ClassFile.FieldType)).before args0 about1 = true := code_word (m := ⟨13, 1⟩) (meth := k13m1) (c := k13c1) (by decide +kernel) rfl rfl rfl (by decide +kernel)
set_option maxRecDepth 65536 in
theorem w_c19 : (Jvm.Cond.code ({ cls := "java/lang/Number", name := "<init>", desc := "()V" } : Jvm.MethodName) jdk_18_method_1_code (1 : Nat) (Option.none : Option Jvm.ClassFile.FieldType)).before args0 about1 = true := code_word (m := ⟨12, 0⟩) (meth := k12m0) (c := k12c0) (by decide +kernel) rfl rfl rfl (by decide +kernel)
def codes1 : List Jvm.Cond := [Jvm.Cond.code x code maxLocals ret, Jvm.Cond.code ({ cls := "com/example/phone_conformance_check/phoneconformancecheck/capture/PropertyEqualsPinLaw", name := "len", desc := "(I)I" } : Jvm.MethodName) method_3_code (1 : Nat) (Option.some Jvm.ClassFile.FieldType.int), Jvm.Cond.code ({ cls := "com/example/phone_conformance_check/phoneconformancecheck/capture/PropertyEqualsPinLaw", name := "c0", desc := "(I)C" } : Jvm.MethodName) method_4_code (1 : Nat) (Option.some Jvm.ClassFile.FieldType.char), Jvm.Cond.code ({ cls := "com/example/phone_conformance_check/phoneconformancecheck/capture/PropertyEqualsPinLaw", name := "c1", desc := "(I)C" } : Jvm.MethodName) method_5_code (1 : Nat) (Option.some Jvm.ClassFile.FieldType.char), Jvm.Cond.code ({ cls := "com/example/phone_conformance_check/phoneconformancecheck/capture/PropertyEqualsPinLaw", name := "mk", desc := "(ICC)Ljava/lang/String;" } : Jvm.MethodName) method_6_code (3 : Nat) (Option.some (Jvm.ClassFile.FieldType.object "java/lang/String")), Jvm.Cond.code ({ cls := "java/lang/String", name := "<init>", desc := "([C)V" } : Jvm.MethodName) jdk_42_method_3_code (2 : Nat) (Option.none : Option Jvm.ClassFile.FieldType), Jvm.Cond.code ({ cls := "java/lang/String", name := "<init>", desc := "([CIILjava/lang/Void;)V" } : Jvm.MethodName) jdk_42_method_149_code (6 : Nat) (Option.none : Option Jvm.ClassFile.FieldType), Jvm.Cond.code ({ cls := "java/lang/Object", name := "<init>", desc := "()V" } : Jvm.MethodName) object_method_1_code (1 : Nat) (Option.none : Option Jvm.ClassFile.FieldType), Jvm.Cond.code ({ cls := "com/example/phone_conformance_check/phoneconformancecheck/capture/Property", name := "<init>", desc := "(Ljava/lang/String;Ljava/lang/String;)V" } : Jvm.MethodName) prog_16_method_1_code (3 : Nat) (Option.none : Option Jvm.ClassFile.FieldType), Jvm.Cond.code ({ cls := "java/util/Objects", name := "requireNonNull", desc := "(Ljava/lang/Object;Ljava/lang/String;)Ljava/lang/Object;" } : Jvm.MethodName) jdk_31_method_11_code (2 : Nat) (Option.some (Jvm.ClassFile.FieldType.object "java/lang/Object")), Jvm.Cond.code ({ cls := "com/example/phone_conformance_check/phoneconformancecheck/capture/PropertyEqualsPinLaw", name := "same", desc := "(ICCICC)Z" } : Jvm.MethodName) method_7_code (6 : Nat) (Option.some Jvm.ClassFile.FieldType.boolean), Jvm.Cond.code ({ cls := "com/example/phone_conformance_check/phoneconformancecheck/capture/Property", name := "equals", desc := "(Ljava/lang/Object;)Z" } : Jvm.MethodName) prog_16_method_7_code (3 : Nat) (Option.some Jvm.ClassFile.FieldType.boolean), Jvm.Cond.code ({ cls := "java/lang/String", name := "equals", desc := "(Ljava/lang/Object;)Z" } : Jvm.MethodName) jdk_42_method_66_code (3 : Nat) (Option.some Jvm.ClassFile.FieldType.boolean), Jvm.Cond.code ({ cls := "java/lang/StringLatin1", name := "equals", desc := "([B[B)Z" } : Jvm.MethodName) jdk_43_method_13_code (3 : Nat) (Option.some Jvm.ClassFile.FieldType.boolean), Jvm.Cond.code ({ cls := "java/lang/StringUTF16", name := "compress", desc := "([CII)[B" } : Jvm.MethodName) jdk_52_method_16_code (6 : Nat) (Option.some (Jvm.ClassFile.FieldType.array Jvm.ClassFile.FieldType.byte)), Jvm.Cond.code ({ cls := "java/lang/StringUTF16", name := "compress", desc := "([CI[BII)I" } : Jvm.MethodName) jdk_52_method_21_code (7 : Nat) (Option.some Jvm.ClassFile.FieldType.int), Jvm.Cond.code ({ cls := "java/lang/StringUTF16", name := "coderFromArrayLen", desc := "([BI)B" } : Jvm.MethodName) jdk_52_method_15_code (2 : Nat) (Option.some Jvm.ClassFile.FieldType.byte), Jvm.Cond.code ({ cls := "java/lang/Integer", name := "valueOf", desc := "(I)Ljava/lang/Integer;" } : Jvm.MethodName) jdk_33_method_22_code (1 : Nat) (Option.some (Jvm.ClassFile.FieldType.object "java/lang/Integer")), Jvm.Cond.code ({ cls := "java/lang/Integer", name := "<init>", desc := "(I)V" } : Jvm.MethodName) jdk_33_method_23_code (2 : Nat) (Option.none : Option Jvm.ClassFile.FieldType), Jvm.Cond.code ({ cls := "java/lang/Number", name := "<init>", desc := "()V" } : Jvm.MethodName) jdk_18_method_1_code (1 : Nat) (Option.none : Option Jvm.ClassFile.FieldType)]
set_option maxRecDepth 65536 in
theorem codes_eq : words1.filter isCode = codes1 := rfl
theorem w_codes : ∀ c ∈ words1.filter isCode, c.before args0 about1 = true := by
  rw [codes_eq]
  intro c hc
  simp only [codes1, List.mem_cons, List.not_mem_nil, or_false] at hc
  rcases hc with rfl | rfl | rfl | rfl | rfl | rfl | rfl | rfl | rfl | rfl | rfl | rfl | rfl | rfl | rfl | rfl | rfl | rfl | rfl | rfl
  · exact w_c0
  · exact w_c1
  · exact w_c2
  · exact w_c3
  · exact w_c4
  · exact w_c5
  · exact w_c6
  · exact w_c7
  · exact w_c8
  · exact w_c9
  · exact w_c10
  · exact w_c11
  · exact w_c12
  · exact w_c13
  · exact w_c14
  · exact w_c15
  · exact w_c16
  · exact w_c17
  · exact w_c18
  · exact w_c19
set_option maxRecDepth 65536 in
theorem w_t1 : (words1.take 24).all (fun c => isCode c || c.before args0 about1) = true := by decide +kernel
set_option maxRecDepth 65536 in
theorem w_t2 : ((words1.drop 24).take 24).all (fun c => isCode c || c.before args0 about1) = true := by decide +kernel
set_option maxRecDepth 65536 in
theorem w_t3 : (((words1.drop 24).drop 24).take 24).all (fun c => isCode c || c.before args0 about1) = true := by decide +kernel
set_option maxRecDepth 65536 in
theorem w_t4 : ((((words1.drop 24).drop 24).drop 24).take 24).all (fun c => isCode c || c.before args0 about1) = true := by decide +kernel
set_option maxRecDepth 65536 in
theorem w_t5 : ((((words1.drop 24).drop 24).drop 24).drop 24).all (fun c => isCode c || c.before args0 about1) = true := by decide +kernel
theorem w_tables : (allAtoms (Jvm.Cond.code x code maxLocals ret :: tables_1)).before args0 about1 = true := by
  rw [allAtoms_all]
  show words1.all (fun c => c.before args0 about1) = true
  refine all_split ?_ w_codes
  rw [← List.take_append_drop 24 words1, List.all_append, w_t1, ← List.take_append_drop 24 (words1.drop 24), List.all_append, w_t2, ← List.take_append_drop 24 ((words1.drop 24).drop 24), List.all_append, w_t3, ← List.take_append_drop 24 (((words1.drop 24).drop 24).drop 24), List.all_append, w_t4, w_t5]
  rfl
set_option maxRecDepth 65536 in
theorem w_rest : rest_1_c.before args0 about1 = true := by decide +kernel
set_option maxRecDepth 65536 in
theorem w_case : (Jvm.Cond.and given_1 narrow_1).before args0 about1 = true := by decide +kernel
set_option maxRecDepth 65536 in
theorem w_consts : constsHeld consts_1 about1 := Jvm.Lit.constsHeldB_iff.mp (by decide +kernel)
theorem w_applies : (headSpec (Jvm.Cond.code x code maxLocals ret :: tables_1) room_1).applies x e0.platform about1 = true :=
  (Spec.applies_iff w_frames).mpr ⟨w_running, w_runnable, w_alone, w_named, w_hears, w_ripe, w_room, w_tables⟩
theorem atStart : AtStart classFile x code maxLocals ret World_1 tables_1 room_1 Calls_1 rest_1 Pre_1 launch0 p0 e0 about1 theMethod args0 below0 :=
  ⟨lists_1, trivial, launch0.admits_env _ _ _, launch0.least_env, fairChoices_fair.cas, fairChoices_fair.clock, w_frames, w_args, w_heap, w_applies, ⟨w_consts, trivial⟩, w_rest, w_case⟩
end start1
theorem witness_1 : WitnessClaimed_1 := ⟨start1.p0, start1.e0, start1.about1, start1.theMethod, start1.args0, start1.below0, start1.atStart⟩
end Jvm.Pilot.@@N@@
