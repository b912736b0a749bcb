import JvmDerived
import JvmDerived.Pilot.@@N@@Statement
import JvmDerived.Pilot.@@N@@Code
set_option linter.unusedVariables false
set_option linter.unusedSimpArgs false
namespace Jvm.Pilot.@@N@@
open Jvm Jvm.ClassFile Sem Op Lib Jvm.Free Jvm.Stand Jvm.LawKit Jvm.RoadKit Bundle Jvm.Pilot.@@N@@.Jvm.D
def oEL : List (String × Nat) := [("com/example/latticube/latticube/csv/QuotedTextReadPinLaw", 26)]
/-! the setting of a body's walk, a point of it, and 'it comes to its end' -/
/-! the literals' invariant (the library's CHv): whatever is booked for an entry of oEL says its text; sf: cells that are no booked ones; ld: may this body have loaded a literal -/
def oI (Z s : State) (vm0 : Vm) (h : Heap) (sf : List Addr) (ld : Bool) : Prop := CHv Z oEL vm0 h ∧ (∀ x ∈ sf, x < h.size ∧ Safe Z oEL vm0 h x) ∧ s.heap.size ≤ h.size ∧ ∀ y, Bk Z oEL vm0 h y → Bk Z oEL s.vm s.heap y ∨ (ld = true ∧ s.heap.size ≤ y)
def oFin (Z s t : State) (lg : Bool) : Prop := CHv Z oEL t.vm t.heap ∧ ∀ y, Bk Z oEL t.vm t.heap y → Bk Z oEL s.vm s.heap y ∨ (lg = true ∧ s.heap.size ≤ y)
def oCtx (p : Program) (s : State) (m : MethodId) (meth : Method) (c : Code) (Z : State) (own : String) (cb : ByteArray) (ml : Nat) (nm : String) (rt : Option FieldType) (yy : MethodName) : Prop :=
  p.tables.exec = Jvm.exec ∧ Z.Warmed39 s.vm ∧ c.code = cb ∧ c.maxLocals = ml ∧ s.vm.findClass own = some m.cls ∧ meth.name = nm ∧ meth.sig.returnType = rt ∧ meth.locks = false ∧ s.methodNamed? yy = some m ∧ ∃ a0, EW Z a0 oEL
def oSt (p : Program) (l : Launch) (e : Env) (R : Room) (s : State) (m : MethodId) (args : Array Value) (below : List Frame) (meth : Method) (c : Code) (Z T : State) (h : Heap) (cells slots : Nat) (sf : List Addr) (ld : Bool) : Prop :=
  ∃ vm0 k0, s.Since vm0 k0 ∧ k0 ≤ h.size ∧ ∃ locs, Stand p l e R (s.setVm vm0) m args below meth c T locs cells slots ∧ T.heap = h ∧ Fr Z.heap.size locs ∧ Ext Z.heap h ∧ oI Z s vm0 h sf ld
def oGoes (p : Program) (e : Env) (below : List Frame) (s Z T : State) (f : JFrame) (Q : Option Value → Heap → Prop) (cl sl : Nat) (lg : Bool) : Prop :=
  ∃ t o, Steps p.tables e below (T.setTop f) t ∧ t.status = .running ∧ Ended t below o ∧ ∃ v L, o = .returned v ∧ Q v t.heap ∧ Fr Z.heap.size L ∧ Ext Z.heap t.heap ∧ oFin Z s t lg ∧ ReturnedEndW s o t L cl sl
/-- a body's contract: called with 'as' at the heap h0 it returns, and Q says what it leaves -/
def oMet (l : Launch) (Z : State) (y : MethodName) (cb : ByteArray) (ml : Nat) (rt : Option FieldType) (rm : Room) (ws : List Jvm.Cond) (as : Array Value) (h0 : Heap) (Q : Option Value → Heap → Prop) (sf : List Addr) (lg : Bool) : Prop :=
  Ext Z.heap h0 → MetFree l y (head1 (Jvm.Cond.code y cb ml rt :: ws) rm) (fun a U => a = as ∧ Z.Warmed39 U.vm ∧ U.heap = h0 ∧ CHv Z oEL U.vm h0 ∧ ∀ x ∈ sf, x < h0.size ∧ Safe Z oEL U.vm h0 x) (fun _ _ _ _ _ => True)
    (fun _ U o U' => ∃ v L, o = .returned v ∧ (Q v U'.heap ∧ Fr Z.heap.size L ∧ Ext Z.heap U'.heap ∧ oFin Z U U' lg) ∧ ReturnedEndW U o U' L rm.cells rm.slots)
section Own
variable {p : Program} {l : Launch} {e : Env} {R : Room} {s : State} {m : MethodId} {args : Array Value} {below : List Frame} {meth : Method} {c : Code} {Z T : State} {h : Heap} {cells slots cl sl : Nat} {own nm : String} {cb : ByteArray} {yy : MethodName} {ml : Nat} {rt : Option FieldType} {Q : Option Value → Heap → Prop} {L L' : Array Slot} {S : List Value} {pc pc' : Nat} {a0 : Array Value} {sf : List Addr} {ld lg lf : Bool}
def vI (z : Int32) : Slot := .val (.int z)
def vJ (z : Int64) : Slot := .val (.long z)
def vR (a : Addr) : Slot := .val (.ref a)
def vN : Slot := .val .null
def uS : Slot := .unset
def sS : Slot := .second
theorem oLe {b x : Nat} (h : b = x) : x ≤ b := Nat.le_of_eq h.symm
theorem oLz {a b x : Nat} (h1 : a < x) (h2 : x ≤ b) : a ≠ b := Nat.ne_of_lt (Nat.lt_of_lt_of_le h1 h2)
theorem oLn {a b x y : Nat} (h1 : a < x) (h2 : x ≤ y) (h3 : y ≤ b) : a ≠ b := Nat.ne_of_lt (Nat.lt_of_lt_of_le (Nat.lt_of_lt_of_le h1 h2) h3)
theorem oLsz {a b x : Nat} (h1 : a < x) (h2 : x ≤ b) : b ≠ a := Ne.symm (oLz h1 h2)
theorem oLsn {a b x y : Nat} (h1 : a < x) (h2 : x ≤ y) (h3 : y ≤ b) : b ≠ a := Ne.symm (oLn h1 h2 h3)
theorem me0 {α : Type} {a : α} {l : List α} : a ∈ a :: l := List.mem_cons_self
theorem me1 {α : Type} {a0 a1 : α} {l : List α} : a1 ∈ a0 :: a1 :: l := List.mem_cons_of_mem _ me0
theorem me2 {α : Type} {a0 a1 a2 : α} {l : List α} : a2 ∈ a0 :: a1 :: a2 :: l := List.mem_cons_of_mem _ me1
theorem oGoes.go {T' : State} {f f' : JFrame} (g : oGoes p e below s Z T' f' Q cl sl lg) (st : ∀ t, Steps p.tables e below (T'.setTop f') t → Steps p.tables e below (T.setTop f) t) : oGoes p e below s Z T f Q cl sl lg := by
  obtain ⟨t, o, h1, r⟩ := g
  exact ⟨t, o, st t h1, r⟩
theorem oWz {vm0 : Vm} {k0 : Nat} (K : oCtx p s m meth c Z own cb ml nm rt yy) (hS : s.Since vm0 k0) : Z.Warmed39 (s.setVm vm0).vm := State.Warmed39.trans K.2.1 hS.1
theorem oWo {vm0 : Vm} {k0 : Nat} (K : oCtx p s m meth c Z own cb ml nm rt yy) (hS : s.Since vm0 k0) : (s.setVm vm0).vm.findClass own = some m.cls := (hS.1.alike.findClass _ _).trans K.2.2.2.2.1
theorem oSt.mono (X : oSt p l e R s m args below meth c Z T h cells slots sf ld) {c' n' : Nat} (hc : cells ≤ c') (hn : slots ≤ n') {ld' : Bool} (hl : ld = true → ld' = true) {sf' : List Addr} (hs : ∀ x ∈ sf', x ∈ sf) : oSt p l e R s m args below meth c Z T h c' n' sf' ld' := by
  obtain ⟨vm0, k0, hS, hk, locs, X, r1, r2, r3, J⟩ := X
  exact ⟨vm0, k0, hS, hk, locs, ⟨X.admits, X.cas, X.clock, X.frames, X.room, X.hears, X.method, X.code, X.here, X.tail, X.warmed, X.limits, X.bytes, X.same.mono hc hn⟩, r1, r2, r3, J.1, fun x hx => J.2.1 x (hs x hx), J.2.2.1, fun y B => (J.2.2.2 y B).imp id fun t => ⟨hl t.1, t.2⟩⟩
theorem oSt.ext0 (X : oSt p l e R s m args below meth c Z T h cells slots sf ld) : Ext Z.heap h := by obtain ⟨_, _, _, _, _, _, _, _, E, _⟩ := X; exact E
theorem oExt_wr {h h' : Heap} {a : Addr} {k : Nat} {v : Value} (E : Ext Z.heap h) (W : Wr h h' a k v) (q : Z.heap.size ≤ a) : Ext Z.heap h' :=
  (Old.wr (n0 := Z.heap.size) ⟨rfl, E⟩ W q).2
theorem oExt_trans {h1 h2 h3 : Heap} (E : Ext h1 h2) (E' : Ext h2 h3) : Ext h1 h3 := ⟨Nat.le_trans E.1 E'.1, fun a c q => E'.2 a c (E.2 a c q)⟩
theorem oExaLt {a : Addr} {C : String} (E : Exa Z h a C) : a < h.size := by
  obtain ⟨_, _, e, _⟩ := E
  exact (Array.getElem?_eq_some_iff.mp e).1
theorem oI.wr {vm0 : Vm} {h' : Heap} {a : Addr} {k : Nat} {v : Value} (J : oI Z s vm0 h sf ld) (W : Wr h h' a k v) (hsf : a ∈ sf) : oI Z s vm0 h' sf ld := by
  have q := CHv.wrStep W (J.2.1 a hsf).2 J.1
  have g := (Keep.of_wr W).1
  exact ⟨q.1, fun x hx => ⟨Nat.lt_of_lt_of_le (J.2.1 x hx).1 g, fun B => (J.2.1 x hx).2 (q.2 x B)⟩, Nat.le_trans J.2.2.1 g, fun y B => J.2.2.2 y (q.2 y B)⟩
theorem oI.keep {vm0 : Vm} {h' : Heap} {ws : List Addr} (J : oI Z s vm0 h sf ld) (W : Keep h h' ws) (hsf : ∀ x ∈ ws, x ∈ sf) : oI Z s vm0 h' sf ld := by
  have q := CHv.keepStep W (fun x hx => (J.2.1 x (hsf x hx)).2) J.1
  exact ⟨q.1, fun x hx => ⟨Nat.lt_of_lt_of_le (J.2.1 x hx).1 W.1, fun B => (J.2.1 x hx).2 (q.2 x B)⟩, Nat.le_trans J.2.2.1 W.1, fun y B => J.2.2.2 y (q.2 y B)⟩
theorem oI.new {vm0 : Vm} {h' : Heap} {b : Addr} (J : oI Z s vm0 h sf ld) (E : Ext h h') (hb : h.size ≤ b) (hb' : b < h'.size) : oI Z s vm0 h' (b :: sf) ld := by
  have q := J.1.step (h' := h') fun _ _ _ q => E.2 _ _ q
  refine ⟨q.1, fun x hx => ?_, Nat.le_trans J.2.2.1 E.1, fun y B => J.2.2.2 y (q.2 y B)⟩
  rcases List.mem_cons.mp hx with rfl | hx
  · exact ⟨hb', fun B => Safe.new hb (q.2 _ B)⟩
  · exact ⟨Nat.lt_of_lt_of_le (J.2.1 x hx).1 E.1, fun B => (J.2.1 x hx).2 (q.2 x B)⟩
theorem oI.load {vm0 vm1 : Vm} {h' : Heap} (J : oI Z s vm0 h sf ld) (C : CHr Z oEL vm0 h vm1 h') : oI Z s vm1 h' sf true := by
  refine ⟨C.1, fun x hx => ⟨Nat.lt_of_lt_of_le (J.2.1 x hx).1 C.2.1, CHr.safe C (J.2.1 x hx).1 (J.2.1 x hx).2⟩, Nat.le_trans J.2.2.1 C.2.1, fun y B => ?_⟩
  rcases C.2.2 y B with q | q
  · exact (J.2.2.2 y q).imp id fun r => ⟨rfl, r.2⟩
  · exact Or.inr ⟨rfl, Nat.le_trans J.2.2.1 q⟩
theorem oI.call {vm0 vm1 : Vm} {h' : Heap} (J : oI Z s vm0 h sf ld) (C : CHv Z oEL vm1 h') (g : h.size ≤ h'.size) (B : ∀ y, Bk Z oEL vm1 h' y → Bk Z oEL vm0 h y ∨ (lf = true ∧ h.size ≤ y)) (rs : List Addr) (h1 : lf = false ∨ rs = []) (h2 : ∀ r ∈ rs, h.size ≤ r ∧ r < h'.size) : oI Z s vm1 h' (rs ++ sf) (ld || lf) := by
  refine ⟨C, fun x hx => ?_, Nat.le_trans J.2.2.1 g, fun y b => ?_⟩
  · rcases List.mem_append.mp hx with hx | hx
    · refine ⟨(h2 x hx).2, fun b => ?_⟩
      rcases h1 with h1 | h1
      · rcases B x b with q | q
        · exact Safe.new (h2 x hx).1 q
        · rw [h1] at q; exact absurd q.1 (by decide)
      · rw [h1] at hx; cases hx
    · refine ⟨Nat.lt_of_lt_of_le (J.2.1 x hx).1 g, fun b => ?_⟩
      rcases B x b with q | q
      · exact (J.2.1 x hx).2 q
      · exact absurd (J.2.1 x hx).1 (Nat.not_lt.mpr q.2)
  · rcases B y b with q | q
    · rcases J.2.2.2 y q with r | r
      · exact Or.inl r
      · exact Or.inr ⟨by rw [r.1]; rfl, r.2⟩
    · exact Or.inr ⟨by rw [q.1]; simp, Nat.le_trans J.2.2.1 q.2⟩
theorem oBackH {y : MethodName} {bytes : ByteArray} {maxL : Nat} {ret : Option FieldType} {rm : Room} {len W : Nat} {as' : Array Value} {Qc : Option Value → Heap → Prop} {vm0 : Vm} {sfc : List Addr} (hM : oMet l Z y bytes maxL ret rm [] as' h Qc sfc lf) (E : Ext Z.heap h) (hE : ∃ a0, EW Z a0 oEL) (H : CHv Z oEL vm0 h) (hs : ∀ x ∈ sfc, x < h.size ∧ Safe Z oEL vm0 h x)
    (hZ : Z.Warmed39 (s.setVm vm0).vm) (wc : (Jvm.Cond.code y bytes maxL ret).before a0 Z = true) (wz : (Jvm.Cond.initialized y.cls).before a0 Z = true) (hf : rm.frames + 1 ≤ R.frames) (hl : W + (maxL + 11) + rm.locals ≤ R.locals) :
    BackS l R p e below (s.setVm vm0) args y len W (fun A a => a = as' ∧ A.U.heap = h ∧ A.cells + rm.cells ≤ R.cells ∧ A.slots + rm.slots ≤ R.slots)
      (fun A _ v B => ∃ L, (Qc v B.U.heap ∧ Fr Z.heap.size L ∧ Ext Z.heap B.U.heap ∧ CHv Z oEL B.U.vm B.U.heap ∧ ∀ y, Bk Z oEL B.U.vm B.U.heap y → Bk Z oEL vm0 h y ∨ (lf = true ∧ h.size ≤ y)) ∧ B.locs = A.locs ++ L ∧ B.cells = A.cells + rm.cells ∧ B.slots = A.slots + rm.slots) := by
  obtain ⟨a1, hE⟩ := hE
  exact BackS.of_freeW (bytes := bytes) (maxL := maxL) (ret := ret) (E := fun _ first o t L k n => k = rm.cells ∧ n = rm.slots ∧ (∃ v, o = .returned v ∧ Qc v t.heap ∧ Fr Z.heap.size L ∧ Ext Z.heap t.heap) ∧ oFin Z first t lf) (hM E) hf hl
    (fun m meth c A a Y hp => have hU : Z.Warmed39 A.U.vm := wtrans (s := s.setVm vm0) hZ Y.warmed
      ⟨by show (Cond.and _ .tt).before a A.U = true; rw [Cond.before_and, mv hU wc]; rfl, mv hU wc, mv hU wz, hp.2.2.1, hp.2.2.2⟩)
    (fun m meth c A a g mk Y hp => ⟨hp.1, wtrans (s := s.setVm vm0) hZ Y.warmed, hp.2.1, (CHv.at Y hZ hE H).1, fun x hx => ⟨(hs x hx).1, CHr.safe (CHv.at Y hZ hE H) (hs x hx).1 (hs x hx).2⟩⟩) (fun _ _ _ _ _ _ _ _ _ => trivial)
    (fun _ _ _ _ ⟨v, L, h1, ⟨h2, h3, h4, h5⟩, h6⟩ => ⟨L, _, _, h6, rfl, rfl, ⟨v, h1, h2, h3, h4⟩, h5⟩)
    (fun m meth c A a g mk v t L k n Y hp _ _ ⟨e1, e2, ⟨v', e3, e4, e5, e6⟩, e7⟩ => by
      cases e3; subst e1 e2
      refine ⟨L, ⟨e4, e5, e6, e7.1, fun y B => ?_⟩, rfl, rfl, rfl⟩
      have hh : A.U.heap = h := hp.2.1
      rcases e7.2 y B with q | q
      · have q' : Bk Z oEL A.U.vm A.U.heap y := q
        rw [hh] at q'
        rcases (CHv.at Y hZ hE H).2.2 y q' with r | r
        · exact Or.inl r
        · exact absurd q' (Safe.new r)
      · have q2 : A.U.heap.size ≤ y := q.2
        rw [hh] at q2
        exact Or.inr ⟨q.1, q2⟩)
theorem oEnter (hE : EW Z a0 oEL) {y : MethodName} {ws : List Jvm.Cond} {rm : Room} {as : Array Value} {h0 : Heap} (hx : plainFor y = true) (ho : y.cls = own) (hn : y.name = nm) {L : Array Slot} (hf : ∀ m, entryFrame m as ml = mkF m 0 L [])
    (body : ∀ p e s m below meth c T, oCtx p s m meth c Z own cb ml nm rt y → oSt p l e rm s m as below meth c Z T h0 0 0 sf false → oGoes p e below s Z T (mkF m 0 L []) Q rm.cells rm.slots lg) : oMet l Z y cb ml rt rm ws as h0 Q sf lg := by
  intro E
  subst ho hn
  refine MetFree.of_bodySF hx hisR ?_
  intro p e s m args below meth c s₁ Bd hml0 hP hK
  obtain ⟨rfl, hZ, hh, hCH, hSf⟩ := hP
  have e0 : s₁.heap = h0 := by rw [← hh, Bd.state]; rfl
  obtain ⟨t, o, h1, h2, h3, v, L', h4, h5, h6, h7, h9, h8⟩ := body p e s m below meth c s₁ ⟨Bd.exec, hZ, Bd.bytes, hml0, findClass_of_methodNamed Bd.named, (name_of_methodNamed Bd.named Bd.method).1, Bd.returns, BodyLoose.notSynchronized Bd, Bd.named, _, hE⟩ ⟨s.vm, 0, State.WarmedH.since (State.WarmedH.refl s) 0, Nat.zero_le _, [], Stand.of_body Bd, e0, Fr.nil _, E, hCH, hSf, Nat.le_of_eq (congrArg Array.size hh), fun y B => Or.inl (by rw [hh]; exact B)⟩
  exact ⟨t, o, castTop (hf m) h1, h2, h3, v, L', h4, ⟨h5, h6, h7, h9⟩, h8⟩
theorem oLeave (K : oCtx p s m meth c Z own cb ml nm rt yy) (X : oSt p l e R s m args below meth c Z T h cells slots sf ld) (rv : Option Value) (hv : meth.sig.returnType = none → rv = none) (hlk : meth.locks = false) (hQ : Q rv h) (hc : cells ≤ cl) (hs : slots ≤ sl) (hld : ld = true → lg = true) {f : JFrame}
    (st : ∀ fs, (∀ (f : JFrame) (acts : List Action), f.method = m → f.locked = none → f.entered = [] → (doReturn e (T.setTop f) acts rv).1 = T.setFrames fs) → Steps p.tables e below (T.setTop f) (T.setFrames fs)) : oGoes p e below s Z T f Q cl sl lg := by
  obtain ⟨vm0, k0, hS, hk, locs, X, eT, N, E, J⟩ := X
  have hZ := oWz K hS
  obtain ⟨a1, hE⟩ := K.2.2.2.2.2.2.2.2.2
  have CA := CHv.at X hZ hE J.1
  obtain ⟨fs, hr, hrun, hended, hW, hsame⟩ := X.leave (v := rv) hv hlk
  have e2 : (T.setFrames fs).heap = h := eT
  refine ⟨_, _, st fs hr, hrun, hended, _, locs, rfl, ?_, N, ?_, ?_, ?_⟩
  · rw [e2]; exact hQ
  · rw [e2]; exact E
  · refine ⟨by rw [e2]; exact CA.1, fun y B => ?_⟩
    rw [e2] at B
    have B' : Bk Z oEL T.vm h y := B
    rcases CA.2.2 y B' with r | r
    · exact (J.2.2.2 y r).imp id fun t => ⟨hld t.1, t.2⟩
    · exact absurd B' (Safe.new r)
  · have h2 : s.Since (T.setFrames fs).vm (T.setFrames fs).heap.size := hS.trans (hW.since _) (by rw [e2]; exact hk)
    exact ⟨⟨_, rfl⟩, h2.1, h2.2, (hsame.setVm s.vm).mono hc hs⟩
theorem o_return (K : oCtx p s m meth c Z own cb ml nm rt yy) (X : oSt p l e R s m args below meth c Z T h cells slots sf ld) (hd : decode cb pc = .ok (.return_, 1)) (hrt : rt = none) (hQ : Q none h) (hc : cells ≤ cl) (hs : slots ≤ sl) (hld : ld = true → lg = true) : oGoes p e below s Z T (mkF m pc L []) Q cl sl lg := by
  refine oLeave K X none (fun _ => rfl) K.2.2.2.2.2.2.2.1 hQ hc hs hld fun fs hr => ?_
  obtain ⟨vm0, k0, hS, hk, locs, X, eT, N, E, J⟩ := X
  have hZ := oWz K hS
  have hown := oWo K hS
  exact X.returnOut K.1 (K.2.2.2.2.2.2.1.trans hrt) (hb K.2.2.1 hd) hr
theorem o_ireturnN (K : oCtx p s m meth c Z own cb ml nm rt yy) (X : oSt p l e R s m args below meth c Z T h cells slots sf ld) (t : FieldType) {z z' : Int32} (hd : decode cb pc = .ok (.ireturn, 1)) (hrt : rt = some t) (ht : t = .boolean ∨ t = .byte ∨ t = .char ∨ t = .short) (hz : nar t z = z') (hQ : Q (some (.int z')) h) (hc : cells ≤ cl) (hs : slots ≤ sl) (hld : ld = true → lg = true) : oGoes p e below s Z T (mkF m pc L (.int z :: S)) Q cl sl lg := by
  subst hz
  have hr0 : meth.sig.returnType = some t := K.2.2.2.2.2.2.1.trans hrt
  refine oLeave K X (some (.int (nar t z))) (fun q => by rw [hr0] at q; cases q) K.2.2.2.2.2.2.2.1 hQ hc hs hld fun fs hr => ?_
  obtain ⟨vm0, k0, hS, hk, locs, X, eT, N, E, J⟩ := X
  have hZ := oWz K hS
  have hown := oWo K hS
  exact retN X K.1 (t := t) hr0 ht (hb K.2.2.1 hd) hr
theorem o_ireturn (K : oCtx p s m meth c Z own cb ml nm rt yy) (X : oSt p l e R s m args below meth c Z T h cells slots sf ld) {z : Int32} (hd : decode cb pc = .ok (.ireturn, 1)) (hrt : rt = some .int) (hQ : Q (some (.int z)) h) (hc : cells ≤ cl) (hs : slots ≤ sl) (hld : ld = true → lg = true) : oGoes p e below s Z T (mkF m pc L (.int z :: S)) Q cl sl lg := by
  have hr0 : meth.sig.returnType = some .int := K.2.2.2.2.2.2.1.trans hrt
  refine oLeave K X (some (.int z)) (fun q => by rw [hr0] at q; cases q) K.2.2.2.2.2.2.2.1 hQ hc hs hld fun fs hl => ?_
  obtain ⟨vm0, k0, hS, hk, locs, X, eT, N, E, J⟩ := X
  have hZ := oWz K hS
  have hown := oWo K hS
  have hm' : T.vm.method? m = some meth := X.method'
  have hn : narrow .int (.int z) = .int z := rfl
  have hd' := hb K.2.2.1 hd
  have hx := K.1
  show Steps p.tables e below (T.setTop { method := m, pc := pc, locals := L, stack := _ :: S, locked := none }) _
  jvm_step X.here [X.here.top, hx, hd', hm', hr0, hn]
  first | (intro acts; rw [hl _ acts rfl rfl rfl]) | rw [hl _ _ rfl rfl rfl]
  exact Steps.refl _
theorem o_areturn (K : oCtx p s m meth c Z own cb ml nm rt yy) (X : oSt p l e R s m args below meth c Z T h cells slots sf ld) {t : FieldType} {v : Value} (hd : decode cb pc = .ok (.areturn, 1)) (hrt : rt = some t) (ht : t.isReference = true) (hv : v.isRef = true) (hQ : Q (some v) h) (hc : cells ≤ cl) (hs : slots ≤ sl) (hld : ld = true → lg = true) : oGoes p e below s Z T (mkF m pc L (v :: S)) Q cl sl lg := by
  have hr0 : meth.sig.returnType = some t := K.2.2.2.2.2.2.1.trans hrt
  refine oLeave K X (some v) (fun q => by rw [hr0] at q; cases q) K.2.2.2.2.2.2.2.1 hQ hc hs hld fun fs hl => ?_
  obtain ⟨vm0, k0, hS, hk, locs, X, eT, N, E, J⟩ := X
  have hZ := oWz K hS
  have hown := oWo K hS
  have hm' : T.vm.method? m = some meth := X.method'
  have hd' := hb K.2.2.1 hd
  have hx := K.1
  show Steps p.tables e below (T.setTop { method := m, pc := pc, locals := L, stack := _ :: S, locked := none }) _
  jvm_step X.here [X.here.top, hx, hd', hm', hr0, ht, hv]
  first | (intro acts; rw [hl _ acts rfl rfl rfl]) | rw [hl _ _ rfl rfl rfl]
  exact Steps.refl _
theorem o_iload (K : oCtx p s m meth c Z own cb ml nm rt yy) (X : oSt p l e R s m args below meth c Z T h cells slots sf ld) {k : Nat} {v : Int32} (hd : decode cb pc = .ok (.iload k, 2)) (hp : pc + 2 = pc') (hl : L[k]? = some (.val (.int v))) (g : oGoes p e below s Z T (mkF m pc' L (.int v :: S)) Q cl sl lg) : oGoes p e below s Z T (mkF m pc L S) Q cl sl lg := by
  obtain ⟨vm0, k0, hS, hk, locs, X, eT, N, E, J⟩ := X
  have hZ := oWz K hS
  have hown := oWo K hS
  subst hp
  exact g.go fun t r => XS.iload X.here K.1 rfl (hb K.2.2.1 hd) hl r
theorem o_iloadN (K : oCtx p s m meth c Z own cb ml nm rt yy) (X : oSt p l e R s m args below meth c Z T h cells slots sf ld) {k : Fin 4} {v : Int32} (hd : decode cb pc = .ok (.iload_n k, 1)) (hp : pc + 1 = pc') (hl : L[k.val]? = some (.val (.int v))) (g : oGoes p e below s Z T (mkF m pc' L (.int v :: S)) Q cl sl lg) : oGoes p e below s Z T (mkF m pc L S) Q cl sl lg := by
  obtain ⟨vm0, k0, hS, hk, locs, X, eT, N, E, J⟩ := X
  have hZ := oWz K hS
  have hown := oWo K hS
  subst hp
  exact g.go fun t r => XS.iloadN X.here K.1 rfl (hb K.2.2.1 hd) hl r
theorem o_istore (K : oCtx p s m meth c Z own cb ml nm rt yy) (X : oSt p l e R s m args below meth c Z T h cells slots sf ld) {k : Nat} {v : Int32} (hd : decode cb pc = .ok (.istore k, 2)) (hp : pc + 2 = pc') (hl : storeLocals L k (.int v) = some L') (g : oGoes p e below s Z T (mkF m pc' L' S) Q cl sl lg) : oGoes p e below s Z T (mkF m pc L (.int v :: S)) Q cl sl lg := by
  obtain ⟨vm0, k0, hS, hk, locs, X, eT, N, E, J⟩ := X
  have hZ := oWz K hS
  have hown := oWo K hS
  subst hp
  exact g.go fun t r => XS.istore X.here K.1 rfl (hb K.2.2.1 hd) rfl hl r
theorem o_istoreN (K : oCtx p s m meth c Z own cb ml nm rt yy) (X : oSt p l e R s m args below meth c Z T h cells slots sf ld) {k : Fin 4} {v : Int32} (hd : decode cb pc = .ok (.istore_n k, 1)) (hp : pc + 1 = pc') (hl : storeLocals L k.val (.int v) = some L') (g : oGoes p e below s Z T (mkF m pc' L' S) Q cl sl lg) : oGoes p e below s Z T (mkF m pc L (.int v :: S)) Q cl sl lg := by
  obtain ⟨vm0, k0, hS, hk, locs, X, eT, N, E, J⟩ := X
  have hZ := oWz K hS
  have hown := oWo K hS
  subst hp
  exact g.go fun t r => XS.istoreN X.here K.1 rfl (hb K.2.2.1 hd) rfl hl r
theorem o_lloadN (K : oCtx p s m meth c Z own cb ml nm rt yy) (X : oSt p l e R s m args below meth c Z T h cells slots sf ld) {k : Fin 4} {v : Int64} (hd : decode cb pc = .ok (.lload_n k, 1)) (hp : pc + 1 = pc') (hl : L[k.val]? = some (.val (.long v))) (g : oGoes p e below s Z T (mkF m pc' L (.long v :: S)) Q cl sl lg) : oGoes p e below s Z T (mkF m pc L S) Q cl sl lg := by
  obtain ⟨vm0, k0, hS, hk, locs, X, eT, N, E, J⟩ := X
  have hZ := oWz K hS
  have hown := oWo K hS
  subst hp
  exact g.go fun t r => XS.lloadN X.here K.1 rfl (hb K.2.2.1 hd) hl r
theorem o_aload (K : oCtx p s m meth c Z own cb ml nm rt yy) (X : oSt p l e R s m args below meth c Z T h cells slots sf ld) {k : Nat} {v : Value} (hd : decode cb pc = .ok (.aload k, 2)) (hp : pc + 2 = pc') (hl : L[k]? = some (.val v)) (hv : v.isRef = true) (g : oGoes p e below s Z T (mkF m pc' L (v :: S)) Q cl sl lg) : oGoes p e below s Z T (mkF m pc L S) Q cl sl lg := by
  obtain ⟨vm0, k0, hS, hk, locs, X, eT, N, E, J⟩ := X
  have hZ := oWz K hS
  have hown := oWo K hS
  subst hp
  exact g.go fun t r => XS.aload X.here K.1 rfl (hb K.2.2.1 hd) hl hv r
theorem o_aloadN (K : oCtx p s m meth c Z own cb ml nm rt yy) (X : oSt p l e R s m args below meth c Z T h cells slots sf ld) {k : Fin 4} {v : Value} (hd : decode cb pc = .ok (.aload_n k, 1)) (hp : pc + 1 = pc') (hl : L[k.val]? = some (.val v)) (hv : v.isRef = true) (g : oGoes p e below s Z T (mkF m pc' L (v :: S)) Q cl sl lg) : oGoes p e below s Z T (mkF m pc L S) Q cl sl lg := by
  obtain ⟨vm0, k0, hS, hk, locs, X, eT, N, E, J⟩ := X
  have hZ := oWz K hS
  have hown := oWo K hS
  subst hp
  exact g.go fun t r => XS.aloadN X.here K.1 rfl (hb K.2.2.1 hd) hl hv r
theorem o_astore (K : oCtx p s m meth c Z own cb ml nm rt yy) (X : oSt p l e R s m args below meth c Z T h cells slots sf ld) {k : Nat} {v : Value} (hd : decode cb pc = .ok (.astore k, 2)) (hp : pc + 2 = pc') (hv : v.isRef = true) (hl : storeLocals L k v = some L') (g : oGoes p e below s Z T (mkF m pc' L' S) Q cl sl lg) : oGoes p e below s Z T (mkF m pc L (v :: S)) Q cl sl lg := by
  obtain ⟨vm0, k0, hS, hk, locs, X, eT, N, E, J⟩ := X
  have hZ := oWz K hS
  have hown := oWo K hS
  subst hp
  exact g.go fun t r => XS.astore X.here K.1 rfl (hb K.2.2.1 hd) rfl hv hl r
theorem o_astoreN (K : oCtx p s m meth c Z own cb ml nm rt yy) (X : oSt p l e R s m args below meth c Z T h cells slots sf ld) {k : Fin 4} {v : Value} (hd : decode cb pc = .ok (.astore_n k, 1)) (hp : pc + 1 = pc') (hv : v.isRef = true) (hl : storeLocals L k.val v = some L') (g : oGoes p e below s Z T (mkF m pc' L' S) Q cl sl lg) : oGoes p e below s Z T (mkF m pc L (v :: S)) Q cl sl lg := by
  obtain ⟨vm0, k0, hS, hk, locs, X, eT, N, E, J⟩ := X
  have hZ := oWz K hS
  have hown := oWo K hS
  subst hp
  exact g.go fun t r => XS.astoreN X.here K.1 rfl (hb K.2.2.1 hd) rfl hv hl r
theorem o_iconst (K : oCtx p s m meth c Z own cb ml nm rt yy) (X : oSt p l e R s m args below meth c Z T h cells slots sf ld) {i : Int} {z : Int32} (hd : decode cb pc = .ok (.iconst i, 1)) (hp : pc + 1 = pc') (hz : Int32.ofInt i = z) (g : oGoes p e below s Z T (mkF m pc' L (.int z :: S)) Q cl sl lg) : oGoes p e below s Z T (mkF m pc L S) Q cl sl lg := by
  obtain ⟨vm0, k0, hS, hk, locs, X, eT, N, E, J⟩ := X
  have hZ := oWz K hS
  have hown := oWo K hS
  subst hp
  exact g.go fun t r => XS.iconst X.here K.1 rfl (hb K.2.2.1 hd) (hz ▸ r)
theorem o_bipush (K : oCtx p s m meth c Z own cb ml nm rt yy) (X : oSt p l e R s m args below meth c Z T h cells slots sf ld) {i : Int} {z : Int32} (hd : decode cb pc = .ok (.bipush i, 2)) (hp : pc + 2 = pc') (hz : (Int8.ofInt i).toInt32 = z) (g : oGoes p e below s Z T (mkF m pc' L (.int z :: S)) Q cl sl lg) : oGoes p e below s Z T (mkF m pc L S) Q cl sl lg := by
  obtain ⟨vm0, k0, hS, hk, locs, X, eT, N, E, J⟩ := X
  have hZ := oWz K hS
  have hown := oWo K hS
  subst hp
  exact g.go fun t r => XS.bipush X.here K.1 rfl (hb K.2.2.1 hd) (hz ▸ r)
theorem o_sipush (K : oCtx p s m meth c Z own cb ml nm rt yy) (X : oSt p l e R s m args below meth c Z T h cells slots sf ld) {i : Int} {z : Int32} (hd : decode cb pc = .ok (.sipush i, 3)) (hp : pc + 3 = pc') (hz : (Int16.ofInt i).toInt32 = z) (g : oGoes p e below s Z T (mkF m pc' L (.int z :: S)) Q cl sl lg) : oGoes p e below s Z T (mkF m pc L S) Q cl sl lg := by
  obtain ⟨vm0, k0, hS, hk, locs, X, eT, N, E, J⟩ := X
  have hZ := oWz K hS
  have hown := oWo K hS
  subst hp
  exact g.go fun t r => XS.sipush X.here K.1 rfl (hb K.2.2.1 hd) (hz ▸ r)
theorem o_aconst_null (K : oCtx p s m meth c Z own cb ml nm rt yy) (X : oSt p l e R s m args below meth c Z T h cells slots sf ld)  (hd : decode cb pc = .ok (.aconst_null, 1)) (hp : pc + 1 = pc') (g : oGoes p e below s Z T (mkF m pc' L (.null :: S)) Q cl sl lg) : oGoes p e below s Z T (mkF m pc L S) Q cl sl lg := by
  obtain ⟨vm0, k0, hS, hk, locs, X, eT, N, E, J⟩ := X
  have hZ := oWz K hS
  have hown := oWo K hS
  subst hp
  exact g.go fun t r => XS.aconstNull X.here K.1 rfl (hb K.2.2.1 hd) r
theorem o_iadd (K : oCtx p s m meth c Z own cb ml nm rt yy) (X : oSt p l e R s m args below meth c Z T h cells slots sf ld) {x y z : Int32} (hd : decode cb pc = .ok (.iadd, 1)) (hp : pc + 1 = pc') (hz : x + y = z) (g : oGoes p e below s Z T (mkF m pc' L (.int z :: S)) Q cl sl lg) : oGoes p e below s Z T (mkF m pc L (.int y :: .int x :: S)) Q cl sl lg := by
  obtain ⟨vm0, k0, hS, hk, locs, X, eT, N, E, J⟩ := X
  have hZ := oWz K hS
  have hown := oWo K hS
  subst hp
  exact g.go fun t r => XS.iadd X.here K.1 rfl (hb K.2.2.1 hd) rfl (hz ▸ r)
theorem o_isub (K : oCtx p s m meth c Z own cb ml nm rt yy) (X : oSt p l e R s m args below meth c Z T h cells slots sf ld) {x y z : Int32} (hd : decode cb pc = .ok (.isub, 1)) (hp : pc + 1 = pc') (hz : x - y = z) (g : oGoes p e below s Z T (mkF m pc' L (.int z :: S)) Q cl sl lg) : oGoes p e below s Z T (mkF m pc L (.int y :: .int x :: S)) Q cl sl lg := by
  obtain ⟨vm0, k0, hS, hk, locs, X, eT, N, E, J⟩ := X
  have hZ := oWz K hS
  have hown := oWo K hS
  subst hp
  exact g.go fun t r => XS.isub X.here K.1 rfl (hb K.2.2.1 hd) rfl (hz ▸ r)
theorem o_iand (K : oCtx p s m meth c Z own cb ml nm rt yy) (X : oSt p l e R s m args below meth c Z T h cells slots sf ld) {x y z : Int32} (hd : decode cb pc = .ok (.iand, 1)) (hp : pc + 1 = pc') (hz : x &&& y = z) (g : oGoes p e below s Z T (mkF m pc' L (.int z :: S)) Q cl sl lg) : oGoes p e below s Z T (mkF m pc L (.int y :: .int x :: S)) Q cl sl lg := by
  obtain ⟨vm0, k0, hS, hk, locs, X, eT, N, E, J⟩ := X
  have hZ := oWz K hS
  have hown := oWo K hS
  subst hp
  exact g.go fun t r => XS.iand X.here K.1 rfl (hb K.2.2.1 hd) rfl (hz ▸ r)
theorem o_land (K : oCtx p s m meth c Z own cb ml nm rt yy) (X : oSt p l e R s m args below meth c Z T h cells slots sf ld) {x y z : Int64} (hd : decode cb pc = .ok (.land, 1)) (hp : pc + 1 = pc') (hz : x &&& y = z) (g : oGoes p e below s Z T (mkF m pc' L (.long z :: S)) Q cl sl lg) : oGoes p e below s Z T (mkF m pc L (.long y :: .long x :: S)) Q cl sl lg := by
  obtain ⟨vm0, k0, hS, hk, locs, X, eT, N, E, J⟩ := X
  have hZ := oWz K hS
  have hown := oWo K hS
  subst hp
  exact g.go fun t r => XS.land X.here K.1 rfl (hb K.2.2.1 hd) rfl (hz ▸ r)
theorem o_ishr (K : oCtx p s m meth c Z own cb ml nm rt yy) (X : oSt p l e R s m args below meth c Z T h cells slots sf ld) {x y z : Int32} (hd : decode cb pc = .ok (.ishr, 1)) (hp : pc + 1 = pc') (hz : x >>> (y &&& 31) = z) (g : oGoes p e below s Z T (mkF m pc' L (.int z :: S)) Q cl sl lg) : oGoes p e below s Z T (mkF m pc L (.int y :: .int x :: S)) Q cl sl lg := by
  obtain ⟨vm0, k0, hS, hk, locs, X, eT, N, E, J⟩ := X
  have hZ := oWz K hS
  have hown := oWo K hS
  subst hp
  exact g.go fun t r => XS.ishr X.here K.1 rfl (hb K.2.2.1 hd) rfl (hz ▸ r)
theorem o_iushr (K : oCtx p s m meth c Z own cb ml nm rt yy) (X : oSt p l e R s m args below meth c Z T h cells slots sf ld) {x y z : Int32} (hd : decode cb pc = .ok (.iushr, 1)) (hp : pc + 1 = pc') (hz : (x.toUInt32 >>> (y &&& 31).toUInt32).toInt32 = z) (g : oGoes p e below s Z T (mkF m pc' L (.int z :: S)) Q cl sl lg) : oGoes p e below s Z T (mkF m pc L (.int y :: .int x :: S)) Q cl sl lg := by
  obtain ⟨vm0, k0, hS, hk, locs, X, eT, N, E, J⟩ := X
  have hZ := oWz K hS
  have hown := oWo K hS
  subst hp
  exact g.go fun t r => XS.iushr X.here K.1 rfl (hb K.2.2.1 hd) rfl (hz ▸ r)
theorem o_lushr (K : oCtx p s m meth c Z own cb ml nm rt yy) (X : oSt p l e R s m args below meth c Z T h cells slots sf ld) {x z : Int64} {y : Int32} (hd : decode cb pc = .ok (.lushr, 1)) (hp : pc + 1 = pc') (hz : (x.toUInt64 >>> (y &&& 0x3f).toInt64.toUInt64).toInt64 = z) (g : oGoes p e below s Z T (mkF m pc' L (.long z :: S)) Q cl sl lg) : oGoes p e below s Z T (mkF m pc L (.int y :: .long x :: S)) Q cl sl lg := by
  obtain ⟨vm0, k0, hS, hk, locs, X, eT, N, E, J⟩ := X
  have hZ := oWz K hS
  have hown := oWo K hS
  subst hp
  exact g.go fun t r => XS.lushr X.here K.1 rfl (hb K.2.2.1 hd) rfl (hz ▸ r)
theorem o_i2b (K : oCtx p s m meth c Z own cb ml nm rt yy) (X : oSt p l e R s m args below meth c Z T h cells slots sf ld) {x : Int32} {z : Int32} (hd : decode cb pc = .ok (.i2b, 1)) (hp : pc + 1 = pc') (hz : x.toInt8.toInt32 = z) (g : oGoes p e below s Z T (mkF m pc' L (.int z :: S)) Q cl sl lg) : oGoes p e below s Z T (mkF m pc L (.int x :: S)) Q cl sl lg := by
  obtain ⟨vm0, k0, hS, hk, locs, X, eT, N, E, J⟩ := X
  have hZ := oWz K hS
  have hown := oWo K hS
  subst hp
  exact g.go fun t r => XS.i2b X.here K.1 rfl (hb K.2.2.1 hd) rfl (hz ▸ r)
theorem o_i2c (K : oCtx p s m meth c Z own cb ml nm rt yy) (X : oSt p l e R s m args below meth c Z T h cells slots sf ld) {x : Int32} {z : Int32} (hd : decode cb pc = .ok (.i2c, 1)) (hp : pc + 1 = pc') (hz : x.toUInt32.toUInt16.toUInt32.toInt32 = z) (g : oGoes p e below s Z T (mkF m pc' L (.int z :: S)) Q cl sl lg) : oGoes p e below s Z T (mkF m pc L (.int x :: S)) Q cl sl lg := by
  obtain ⟨vm0, k0, hS, hk, locs, X, eT, N, E, J⟩ := X
  have hZ := oWz K hS
  have hown := oWo K hS
  subst hp
  exact g.go fun t r => XS.i2c X.here K.1 rfl (hb K.2.2.1 hd) rfl (hz ▸ r)
theorem o_l2i (K : oCtx p s m meth c Z own cb ml nm rt yy) (X : oSt p l e R s m args below meth c Z T h cells slots sf ld) {x : Int64} {z : Int32} (hd : decode cb pc = .ok (.l2i, 1)) (hp : pc + 1 = pc') (hz : x.toInt32 = z) (g : oGoes p e below s Z T (mkF m pc' L (.int z :: S)) Q cl sl lg) : oGoes p e below s Z T (mkF m pc L (.long x :: S)) Q cl sl lg := by
  obtain ⟨vm0, k0, hS, hk, locs, X, eT, N, E, J⟩ := X
  have hZ := oWz K hS
  have hown := oWo K hS
  subst hp
  exact g.go fun t r => XS.l2i X.here K.1 rfl (hb K.2.2.1 hd) rfl (hz ▸ r)
theorem o_irem (K : oCtx p s m meth c Z own cb ml nm rt yy) (X : oSt p l e R s m args below meth c Z T h cells slots sf ld) {x y z : Int32} (hd : decode cb pc = .ok (.irem, 1)) (hp : pc + 1 = pc') (hy : y ≠ 0) (hz : x % y = z) (g : oGoes p e below s Z T (mkF m pc' L (.int z :: S)) Q cl sl lg) : oGoes p e below s Z T (mkF m pc L (.int y :: .int x :: S)) Q cl sl lg := by
  obtain ⟨vm0, k0, hS, hk, locs, X, eT, N, E, J⟩ := X
  have hZ := oWz K hS
  have hown := oWo K hS
  subst hp
  exact g.go fun t r => Jvm.RoadKit.iremM (g := mkF m pc L (.int y :: .int x :: S)) X K.1 rfl (hb K.2.2.1 hd) rfl hy (hz ▸ r)
theorem o_iinc (K : oCtx p s m meth c Z own cb ml nm rt yy) (X : oSt p l e R s m args below meth c Z T h cells slots sf ld) {k : Nat} {i : Int} {x : Int32} (hd : decode cb pc = .ok (.iinc k i, 3)) (hp : pc + 3 = pc') (hl : L[k]? = some (.val (.int x))) (hl' : storeLocals L k (.int (x + Int32.ofInt i)) = some L') (g : oGoes p e below s Z T (mkF m pc' L' S) Q cl sl lg) : oGoes p e below s Z T (mkF m pc L S) Q cl sl lg := by
  obtain ⟨vm0, k0, hS, hk, locs, X, eT, N, E, J⟩ := X
  have hZ := oWz K hS
  have hown := oWo K hS
  subst hp
  exact g.go fun t r => XS.iinc X.here K.1 rfl (hb K.2.2.1 hd) hl hl' r
theorem o_dup (K : oCtx p s m meth c Z own cb ml nm rt yy) (X : oSt p l e R s m args below meth c Z T h cells slots sf ld) {v : Value} (hd : decode cb pc = .ok (.dup, 1)) (hp : pc + 1 = pc') (hc : v.category = 1) (g : oGoes p e below s Z T (mkF m pc' L (v :: v :: S)) Q cl sl lg) : oGoes p e below s Z T (mkF m pc L (v :: S)) Q cl sl lg := by
  obtain ⟨vm0, k0, hS, hk, locs, X, eT, N, E, J⟩ := X
  have hZ := oWz K hS
  have hown := oWo K hS
  subst hp
  exact g.go fun t r => XS.dup X.here K.1 rfl (hb K.2.2.1 hd) rfl hc r
theorem o_pop (K : oCtx p s m meth c Z own cb ml nm rt yy) (X : oSt p l e R s m args below meth c Z T h cells slots sf ld) {v : Value} (hd : decode cb pc = .ok (.pop, 1)) (hp : pc + 1 = pc') (hc : v.category = 1) (g : oGoes p e below s Z T (mkF m pc' L S) Q cl sl lg) : oGoes p e below s Z T (mkF m pc L (v :: S)) Q cl sl lg := by
  obtain ⟨vm0, k0, hS, hk, locs, X, eT, N, E, J⟩ := X
  have hZ := oWz K hS
  have hown := oWo K hS
  subst hp
  exact g.go fun t r => XS.pop X.here K.1 rfl (hb K.2.2.1 hd) rfl hc r
theorem o_dup_x1 (K : oCtx p s m meth c Z own cb ml nm rt yy) (X : oSt p l e R s m args below meth c Z T h cells slots sf ld) {v u : Value} (hd : decode cb pc = .ok (.dup_x1, 1)) (hp : pc + 1 = pc') (hc : v.category = 1) (hc2 : u.category = 1) (g : oGoes p e below s Z T (mkF m pc' L (v :: u :: v :: S)) Q cl sl lg) : oGoes p e below s Z T (mkF m pc L (v :: u :: S)) Q cl sl lg := by
  obtain ⟨vm0, k0, hS, hk, locs, X, eT, N, E, J⟩ := X
  have hZ := oWz K hS
  have hown := oWo K hS
  subst hp
  exact g.go fun t r => XS.dupX1 X.here K.1 rfl (hb K.2.2.1 hd) rfl hc hc2 r
theorem o_goto (K : oCtx p s m meth c Z own cb ml nm rt yy) (X : oSt p l e R s m args below meth c Z T h cells slots sf ld) {o : Int} (hd : decode cb pc = .ok (.goto o, 3)) (ho : 0 ≤ (pc : Int) + o) (hp : ((pc : Int) + o).toNat = pc') (g : oGoes p e below s Z T (mkF m pc' L S) Q cl sl lg) : oGoes p e below s Z T (mkF m pc L S) Q cl sl lg := by
  obtain ⟨vm0, k0, hS, hk, locs, X, eT, N, E, J⟩ := X
  have hZ := oWz K hS
  have hown := oWo K hS
  exact g.go fun t r => XS.goto X.here K.1 rfl (pc0 := pc) rfl (hb K.2.2.1 hd) ho hp r
theorem o_icmp_lt_t (K : oCtx p s m meth c Z own cb ml nm rt yy) (X : oSt p l e R s m args below meth c Z T h cells slots sf ld) {x y : Int32} {o : Int} (hd : decode cb pc = .ok (.if_icmp .lt o, 3)) (ho : 0 ≤ (pc : Int) + o) (hp : ((pc : Int) + o).toNat = pc') (hc : x < y) (g : oGoes p e below s Z T (mkF m pc' L S) Q cl sl lg) : oGoes p e below s Z T (mkF m pc L (.int y :: .int x :: S)) Q cl sl lg := by
  obtain ⟨vm0, k0, hS, hk, locs, X, eT, N, E, J⟩ := X
  have hZ := oWz K hS
  have hown := oWo K hS
  exact g.go fun t r => XS.icmpYes X.here K.1 rfl (pc0 := pc) rfl (hb K.2.2.1 hd) rfl (tlt hc).1 ho hp r
theorem o_icmp_lt_f (K : oCtx p s m meth c Z own cb ml nm rt yy) (X : oSt p l e R s m args below meth c Z T h cells slots sf ld) {x y : Int32} {o : Int} (hd : decode cb pc = .ok (.if_icmp .lt o, 3)) (hp : pc + 3 = pc') (hc : ¬ x < y) (g : oGoes p e below s Z T (mkF m pc' L S) Q cl sl lg) : oGoes p e below s Z T (mkF m pc L (.int y :: .int x :: S)) Q cl sl lg := by
  obtain ⟨vm0, k0, hS, hk, locs, X, eT, N, E, J⟩ := X
  have hZ := oWz K hS
  have hown := oWo K hS
  subst hp
  exact g.go fun t r => XS.icmpNo X.here K.1 rfl (hb K.2.2.1 hd) rfl (flt hc).1 r
theorem o_if_lt_f (K : oCtx p s m meth c Z own cb ml nm rt yy) (X : oSt p l e R s m args below meth c Z T h cells slots sf ld) {x : Int32} {o : Int} (hd : decode cb pc = .ok (.ifCond .lt o, 3)) (hp : pc + 3 = pc') (hc : ¬ x < 0) (g : oGoes p e below s Z T (mkF m pc' L S) Q cl sl lg) : oGoes p e below s Z T (mkF m pc L (.int x :: S)) Q cl sl lg := by
  obtain ⟨vm0, k0, hS, hk, locs, X, eT, N, E, J⟩ := X
  have hZ := oWz K hS
  have hown := oWo K hS
  subst hp
  exact g.go fun t r => XS.ifNo X.here K.1 rfl (hb K.2.2.1 hd) rfl ((if0 _ _).trans (flt hc).1) r
theorem o_icmp_ge_t (K : oCtx p s m meth c Z own cb ml nm rt yy) (X : oSt p l e R s m args below meth c Z T h cells slots sf ld) {x y : Int32} {o : Int} (hd : decode cb pc = .ok (.if_icmp .ge o, 3)) (ho : 0 ≤ (pc : Int) + o) (hp : ((pc : Int) + o).toNat = pc') (hc : ¬ x < y) (g : oGoes p e below s Z T (mkF m pc' L S) Q cl sl lg) : oGoes p e below s Z T (mkF m pc L (.int y :: .int x :: S)) Q cl sl lg := by
  obtain ⟨vm0, k0, hS, hk, locs, X, eT, N, E, J⟩ := X
  have hZ := oWz K hS
  have hown := oWo K hS
  exact g.go fun t r => XS.icmpYes X.here K.1 rfl (pc0 := pc) rfl (hb K.2.2.1 hd) rfl (flt hc).2.1 ho hp r
theorem o_icmp_ge_f (K : oCtx p s m meth c Z own cb ml nm rt yy) (X : oSt p l e R s m args below meth c Z T h cells slots sf ld) {x y : Int32} {o : Int} (hd : decode cb pc = .ok (.if_icmp .ge o, 3)) (hp : pc + 3 = pc') (hc : x < y) (g : oGoes p e below s Z T (mkF m pc' L S) Q cl sl lg) : oGoes p e below s Z T (mkF m pc L (.int y :: .int x :: S)) Q cl sl lg := by
  obtain ⟨vm0, k0, hS, hk, locs, X, eT, N, E, J⟩ := X
  have hZ := oWz K hS
  have hown := oWo K hS
  subst hp
  exact g.go fun t r => XS.icmpNo X.here K.1 rfl (hb K.2.2.1 hd) rfl (tlt hc).2.1 r
theorem o_icmp_gt_t (K : oCtx p s m meth c Z own cb ml nm rt yy) (X : oSt p l e R s m args below meth c Z T h cells slots sf ld) {x y : Int32} {o : Int} (hd : decode cb pc = .ok (.if_icmp .gt o, 3)) (ho : 0 ≤ (pc : Int) + o) (hp : ((pc : Int) + o).toNat = pc') (hc : y < x) (g : oGoes p e below s Z T (mkF m pc' L S) Q cl sl lg) : oGoes p e below s Z T (mkF m pc L (.int y :: .int x :: S)) Q cl sl lg := by
  obtain ⟨vm0, k0, hS, hk, locs, X, eT, N, E, J⟩ := X
  have hZ := oWz K hS
  have hown := oWo K hS
  exact g.go fun t r => XS.icmpYes X.here K.1 rfl (pc0 := pc) rfl (hb K.2.2.1 hd) rfl (tlt hc).2.2.1 ho hp r
theorem o_icmp_gt_f (K : oCtx p s m meth c Z own cb ml nm rt yy) (X : oSt p l e R s m args below meth c Z T h cells slots sf ld) {x y : Int32} {o : Int} (hd : decode cb pc = .ok (.if_icmp .gt o, 3)) (hp : pc + 3 = pc') (hc : ¬ y < x) (g : oGoes p e below s Z T (mkF m pc' L S) Q cl sl lg) : oGoes p e below s Z T (mkF m pc L (.int y :: .int x :: S)) Q cl sl lg := by
  obtain ⟨vm0, k0, hS, hk, locs, X, eT, N, E, J⟩ := X
  have hZ := oWz K hS
  have hown := oWo K hS
  subst hp
  exact g.go fun t r => XS.icmpNo X.here K.1 rfl (hb K.2.2.1 hd) rfl (flt hc).2.2.1 r
theorem o_icmp_le_t (K : oCtx p s m meth c Z own cb ml nm rt yy) (X : oSt p l e R s m args below meth c Z T h cells slots sf ld) {x y : Int32} {o : Int} (hd : decode cb pc = .ok (.if_icmp .le o, 3)) (ho : 0 ≤ (pc : Int) + o) (hp : ((pc : Int) + o).toNat = pc') (hc : ¬ y < x) (g : oGoes p e below s Z T (mkF m pc' L S) Q cl sl lg) : oGoes p e below s Z T (mkF m pc L (.int y :: .int x :: S)) Q cl sl lg := by
  obtain ⟨vm0, k0, hS, hk, locs, X, eT, N, E, J⟩ := X
  have hZ := oWz K hS
  have hown := oWo K hS
  exact g.go fun t r => XS.icmpYes X.here K.1 rfl (pc0 := pc) rfl (hb K.2.2.1 hd) rfl (flt hc).2.2.2 ho hp r
theorem o_if_le_t (K : oCtx p s m meth c Z own cb ml nm rt yy) (X : oSt p l e R s m args below meth c Z T h cells slots sf ld) {x : Int32} {o : Int} (hd : decode cb pc = .ok (.ifCond .le o, 3)) (ho : 0 ≤ (pc : Int) + o) (hp : ((pc : Int) + o).toNat = pc') (hc : ¬ 0 < x) (g : oGoes p e below s Z T (mkF m pc' L S) Q cl sl lg) : oGoes p e below s Z T (mkF m pc L (.int x :: S)) Q cl sl lg := by
  obtain ⟨vm0, k0, hS, hk, locs, X, eT, N, E, J⟩ := X
  have hZ := oWz K hS
  have hown := oWo K hS
  exact g.go fun t r => XS.ifYes X.here K.1 rfl (pc0 := pc) rfl (hb K.2.2.1 hd) rfl ((if0 _ _).trans (flt hc).2.2.2) ho hp r
theorem o_icmp_eq_t (K : oCtx p s m meth c Z own cb ml nm rt yy) (X : oSt p l e R s m args below meth c Z T h cells slots sf ld) {x y : Int32} {o : Int} (hd : decode cb pc = .ok (.if_icmp .eq o, 3)) (ho : 0 ≤ (pc : Int) + o) (hp : ((pc : Int) + o).toNat = pc') (hc : x = y) (g : oGoes p e below s Z T (mkF m pc' L S) Q cl sl lg) : oGoes p e below s Z T (mkF m pc L (.int y :: .int x :: S)) Q cl sl lg := by
  obtain ⟨vm0, k0, hS, hk, locs, X, eT, N, E, J⟩ := X
  have hZ := oWz K hS
  have hown := oWo K hS
  exact g.go fun t r => XS.icmpYes X.here K.1 rfl (pc0 := pc) rfl (hb K.2.2.1 hd) rfl (teq hc).1 ho hp r
theorem o_if_eq_t (K : oCtx p s m meth c Z own cb ml nm rt yy) (X : oSt p l e R s m args below meth c Z T h cells slots sf ld) {x : Int32} {o : Int} (hd : decode cb pc = .ok (.ifCond .eq o, 3)) (ho : 0 ≤ (pc : Int) + o) (hp : ((pc : Int) + o).toNat = pc') (hc : x = 0) (g : oGoes p e below s Z T (mkF m pc' L S) Q cl sl lg) : oGoes p e below s Z T (mkF m pc L (.int x :: S)) Q cl sl lg := by
  obtain ⟨vm0, k0, hS, hk, locs, X, eT, N, E, J⟩ := X
  have hZ := oWz K hS
  have hown := oWo K hS
  exact g.go fun t r => XS.ifYes X.here K.1 rfl (pc0 := pc) rfl (hb K.2.2.1 hd) rfl ((if0 _ _).trans (teq hc).1) ho hp r
theorem o_icmp_eq_f (K : oCtx p s m meth c Z own cb ml nm rt yy) (X : oSt p l e R s m args below meth c Z T h cells slots sf ld) {x y : Int32} {o : Int} (hd : decode cb pc = .ok (.if_icmp .eq o, 3)) (hp : pc + 3 = pc') (hc : ¬ x = y) (g : oGoes p e below s Z T (mkF m pc' L S) Q cl sl lg) : oGoes p e below s Z T (mkF m pc L (.int y :: .int x :: S)) Q cl sl lg := by
  obtain ⟨vm0, k0, hS, hk, locs, X, eT, N, E, J⟩ := X
  have hZ := oWz K hS
  have hown := oWo K hS
  subst hp
  exact g.go fun t r => XS.icmpNo X.here K.1 rfl (hb K.2.2.1 hd) rfl (feq hc).1 r
theorem o_if_eq_f (K : oCtx p s m meth c Z own cb ml nm rt yy) (X : oSt p l e R s m args below meth c Z T h cells slots sf ld) {x : Int32} {o : Int} (hd : decode cb pc = .ok (.ifCond .eq o, 3)) (hp : pc + 3 = pc') (hc : ¬ x = 0) (g : oGoes p e below s Z T (mkF m pc' L S) Q cl sl lg) : oGoes p e below s Z T (mkF m pc L (.int x :: S)) Q cl sl lg := by
  obtain ⟨vm0, k0, hS, hk, locs, X, eT, N, E, J⟩ := X
  have hZ := oWz K hS
  have hown := oWo K hS
  subst hp
  exact g.go fun t r => XS.ifNo X.here K.1 rfl (hb K.2.2.1 hd) rfl ((if0 _ _).trans (feq hc).1) r
theorem o_icmp_ne_t (K : oCtx p s m meth c Z own cb ml nm rt yy) (X : oSt p l e R s m args below meth c Z T h cells slots sf ld) {x y : Int32} {o : Int} (hd : decode cb pc = .ok (.if_icmp .ne o, 3)) (ho : 0 ≤ (pc : Int) + o) (hp : ((pc : Int) + o).toNat = pc') (hc : ¬ x = y) (g : oGoes p e below s Z T (mkF m pc' L S) Q cl sl lg) : oGoes p e below s Z T (mkF m pc L (.int y :: .int x :: S)) Q cl sl lg := by
  obtain ⟨vm0, k0, hS, hk, locs, X, eT, N, E, J⟩ := X
  have hZ := oWz K hS
  have hown := oWo K hS
  exact g.go fun t r => XS.icmpYes X.here K.1 rfl (pc0 := pc) rfl (hb K.2.2.1 hd) rfl (feq hc).2 ho hp r
theorem o_if_ne_t (K : oCtx p s m meth c Z own cb ml nm rt yy) (X : oSt p l e R s m args below meth c Z T h cells slots sf ld) {x : Int32} {o : Int} (hd : decode cb pc = .ok (.ifCond .ne o, 3)) (ho : 0 ≤ (pc : Int) + o) (hp : ((pc : Int) + o).toNat = pc') (hc : ¬ x = 0) (g : oGoes p e below s Z T (mkF m pc' L S) Q cl sl lg) : oGoes p e below s Z T (mkF m pc L (.int x :: S)) Q cl sl lg := by
  obtain ⟨vm0, k0, hS, hk, locs, X, eT, N, E, J⟩ := X
  have hZ := oWz K hS
  have hown := oWo K hS
  exact g.go fun t r => XS.ifYes X.here K.1 rfl (pc0 := pc) rfl (hb K.2.2.1 hd) rfl ((if0 _ _).trans (feq hc).2) ho hp r
theorem o_icmp_ne_f (K : oCtx p s m meth c Z own cb ml nm rt yy) (X : oSt p l e R s m args below meth c Z T h cells slots sf ld) {x y : Int32} {o : Int} (hd : decode cb pc = .ok (.if_icmp .ne o, 3)) (hp : pc + 3 = pc') (hc : x = y) (g : oGoes p e below s Z T (mkF m pc' L S) Q cl sl lg) : oGoes p e below s Z T (mkF m pc L (.int y :: .int x :: S)) Q cl sl lg := by
  obtain ⟨vm0, k0, hS, hk, locs, X, eT, N, E, J⟩ := X
  have hZ := oWz K hS
  have hown := oWo K hS
  subst hp
  exact g.go fun t r => XS.icmpNo X.here K.1 rfl (hb K.2.2.1 hd) rfl (teq hc).2 r
theorem o_if_ne_f (K : oCtx p s m meth c Z own cb ml nm rt yy) (X : oSt p l e R s m args below meth c Z T h cells slots sf ld) {x : Int32} {o : Int} (hd : decode cb pc = .ok (.ifCond .ne o, 3)) (hp : pc + 3 = pc') (hc : x = 0) (g : oGoes p e below s Z T (mkF m pc' L S) Q cl sl lg) : oGoes p e below s Z T (mkF m pc L (.int x :: S)) Q cl sl lg := by
  obtain ⟨vm0, k0, hS, hk, locs, X, eT, N, E, J⟩ := X
  have hZ := oWz K hS
  have hown := oWo K hS
  subst hp
  exact g.go fun t r => XS.ifNo X.here K.1 rfl (hb K.2.2.1 hd) rfl ((if0 _ _).trans (teq hc).2) r
theorem o_ifnull_t (K : oCtx p s m meth c Z own cb ml nm rt yy) (X : oSt p l e R s m args below meth c Z T h cells slots sf ld)  {o : Int} (hd : decode cb pc = .ok (.ifnull o, 3)) (ho : 0 ≤ (pc : Int) + o) (hp : ((pc : Int) + o).toNat = pc') (g : oGoes p e below s Z T (mkF m pc' L S) Q cl sl lg) : oGoes p e below s Z T (mkF m pc L (.null :: S)) Q cl sl lg := by
  obtain ⟨vm0, k0, hS, hk, locs, X, eT, N, E, J⟩ := X
  have hZ := oWz K hS
  have hown := oWo K hS
  exact g.go fun t r => XS.ifnullYes X.here K.1 rfl (pc0 := pc) rfl (hb K.2.2.1 hd) rfl ho hp r
theorem o_ifnull_f (K : oCtx p s m meth c Z own cb ml nm rt yy) (X : oSt p l e R s m args below meth c Z T h cells slots sf ld) {b : Addr} {o : Int} (hd : decode cb pc = .ok (.ifnull o, 3)) (hp : pc + 3 = pc') (g : oGoes p e below s Z T (mkF m pc' L S) Q cl sl lg) : oGoes p e below s Z T (mkF m pc L (.ref b :: S)) Q cl sl lg := by
  obtain ⟨vm0, k0, hS, hk, locs, X, eT, N, E, J⟩ := X
  have hZ := oWz K hS
  have hown := oWo K hS
  subst hp
  exact g.go fun t r => XS.ifnullNo X.here K.1 rfl (hb K.2.2.1 hd) rfl r
theorem o_ifnonnull_t (K : oCtx p s m meth c Z own cb ml nm rt yy) (X : oSt p l e R s m args below meth c Z T h cells slots sf ld) {b : Addr} {o : Int} (hd : decode cb pc = .ok (.ifnonnull o, 3)) (ho : 0 ≤ (pc : Int) + o) (hp : ((pc : Int) + o).toNat = pc') (g : oGoes p e below s Z T (mkF m pc' L S) Q cl sl lg) : oGoes p e below s Z T (mkF m pc L (.ref b :: S)) Q cl sl lg := by
  obtain ⟨vm0, k0, hS, hk, locs, X, eT, N, E, J⟩ := X
  have hZ := oWz K hS
  have hown := oWo K hS
  exact g.go fun t r => XS.ifnonnullYes X.here K.1 rfl (pc0 := pc) rfl (hb K.2.2.1 hd) rfl ho hp r
theorem o_acmp (K : oCtx p s m meth c Z own cb ml nm rt yy) (X : oSt p l e R s m args below meth c Z T h cells slots sf ld) {cd : ACond} {x y : Value} {o : Int} (same : Bool) (hd : decode cb pc = .ok (.if_acmp cd o, 3)) (ho : 0 ≤ (pc : Int) + o) (h1 : x.isRef = true) (h2 : y.isRef = true) (hq : decide (x = y) = same) (hp : pc' = if acV cd same = true then ((pc : Int) + o).toNat else pc + 3) (g : oGoes p e below s Z T (mkF m pc' L S) Q cl sl lg) : oGoes p e below s Z T (mkF m pc L (y :: x :: S)) Q cl sl lg := by
  obtain ⟨vm0, k0, hS, hk, locs, X, eT, N, E, J⟩ := X
  have hZ := oWz K hS
  have hown := oWo K hS
  exact g.go fun t r => Jvm.RoadKit.acmp (g := mkF m pc L (y :: x :: S)) X K.1 rfl h1 h2 (pc0 := pc) rfl (hb K.2.2.1 hd) rfl hq ho hp r
theorem o_getfield (K : oCtx p s m meth c Z own cb ml nm rt yy) (X : oSt p l e R s m args below meth c Z T h cells slots sf ld) {R0 O n d host : String} {index : Nat} {a : Addr} {v : Value} (w : (Jvm.Cond.fieldLink own index R0 n d).before a0 Z = true ∨ (Jvm.Cond.fieldLinkNest own index R0 n d host).before a0 Z = true) (via : Via Z R0 O n d) (F : Fld Z h a O n d v) (hd : decode cb pc = .ok (.getfield index, 3)) (hp : pc + 3 = pc')
    (g : ∀ T', oSt p l e R s m args below meth c Z T' h cells slots sf ld → oGoes p e below s Z T' (mkF m pc' L (v :: S)) Q cl sl lg) : oGoes p e below s Z T (mkF m pc L (.ref a :: S)) Q cl sl lg := by
  obtain ⟨vm0, k0, hS, hk, locs, X, eT, N, E, J⟩ := X
  have hZ := oWz K hS
  have hown := oWo K hS
  subst hp
  obtain ⟨T', X', e', st⟩ := getF X K.1 hZ hown w via eT F (g := mkF m pc L (.ref a :: S)) rfl rfl (hb K.2.2.1 hd)
  exact (g T' ⟨vm0, k0, hS, hk, locs, X', e', N, E, J⟩).go st
theorem o_getstatic (K : oCtx p s m meth c Z own cb ml nm rt yy) (X : oSt p l e R s m args below meth c Z T h cells slots sf ld) {R0 O n d host : String} {index : Nat} {v : Value} (w : (Jvm.Cond.fieldLink own index R0 n d).before a0 Z = true ∨ (Jvm.Cond.fieldLinkNest own index R0 n d host).before a0 Z = true) (via : Via Z R0 O n d) (F : Sta Z h O n d v) (hd : decode cb pc = .ok (.getstatic index, 3)) (hp : pc + 3 = pc')
    (g : ∀ T', oSt p l e R s m args below meth c Z T' h cells slots sf ld → oGoes p e below s Z T' (mkF m pc' L (v :: S)) Q cl sl lg) : oGoes p e below s Z T (mkF m pc L S) Q cl sl lg := by
  obtain ⟨vm0, k0, hS, hk, locs, X, eT, N, E, J⟩ := X
  have hZ := oWz K hS
  have hown := oWo K hS
  subst hp
  obtain ⟨T', X', e', st⟩ := getS2 X K.1 hZ hown w via eT F (g := mkF m pc L S) rfl (hb K.2.2.1 hd)
  exact (g T' ⟨vm0, k0, hS, hk, locs, X', e', N, E, J⟩).go st
theorem o_putfield (K : oCtx p s m meth c Z own cb ml nm rt yy) (X : oSt p l e R s m args below meth c Z T h cells slots sf ld) {R0 O n d host C : String} {index kk : Nat} {ty : FieldType} {a : Addr} {v old : Value} (w : (Jvm.Cond.fieldLink own index R0 n d).before a0 Z = true ∨ (Jvm.Cond.fieldLinkNest own index R0 n d host).before a0 Z = true) (via : Via Z R0 O n d) (F : Fld Z h a O n d old) (Ex : Exa Z h a C) (Lz : (Jvm.Cond.lays C O n d).before a0 Z = true ∨ ((Jvm.Cond.laysFinal C O n d).before a0 Z = true ∧ own = O ∧ nm = "<init>")) (wi : (Jvm.Cond.instantiable C kk).before a0 Z = true) (hty : parseFieldDescriptor d = some ty) (hn : narrow ty v = v) (hf : fits ty v = true) (hza : Z.heap.size ≤ a) (hsf : a ∈ sf) (hd : decode cb pc = .ok (.putfield index, 3)) (hp : pc + 3 = pc')
    (g : ∀ T' h', oSt p l e R s m args below meth c Z T' h' cells slots sf ld → Wr h h' a (Jvm.RoadKit.slotOf Z O n d) v → oGoes p e below s Z T' (mkF m pc' L S) Q cl sl lg) : oGoes p e below s Z T (mkF m pc L (v :: .ref a :: S)) Q cl sl lg := by
  obtain ⟨vm0, k0, hS, hk, locs, X, eT, N, E, J⟩ := X
  have hZ := oWz K hS
  have hown := oWo K hS
  subst hp
  obtain ⟨T', h', X', e', W, st⟩ := putF X K.1 hZ hown w via eT F Ex (Lz.imp id fun q => ⟨q.1, q.2.1, K.2.2.2.2.2.1.trans q.2.2⟩) wi hty hn hf (g := mkF m pc L (v :: .ref a :: S)) rfl rfl (hb K.2.2.1 hd)
  exact (g T' h' ⟨vm0, k0, hS, Nat.le_trans hk (Keep.of_wr W).1, _, X', e', Fr.snoc X' N hza, oExt_wr E W hza, J.wr W hsf⟩ W).go st
theorem o_putfieldN (K : oCtx p s m meth c Z own cb ml nm rt yy) (X : oSt p l e R s m args below meth c Z T h cells slots sf ld) {R0 O n d C : String} {index kk : Nat} {ty : FieldType} {a : Addr} {v v' old : Value} (w : (Jvm.Cond.fieldLink own index R0 n d).before a0 Z = true) (via : Via Z R0 O n d) (F : Fld Z h a O n d old) (Ex : Exa Z h a C) (Lz : (Jvm.Cond.lays C O n d).before a0 Z = true ∨ ((Jvm.Cond.laysFinal C O n d).before a0 Z = true ∧ own = O ∧ nm = "<init>")) (wi : (Jvm.Cond.instantiable C kk).before a0 Z = true) (hty : parseFieldDescriptor d = some ty) (hn : narrow ty v = v') (hf : fits ty v' = true) (hza : Z.heap.size ≤ a) (hsf : a ∈ sf) (hd : decode cb pc = .ok (.putfield index, 3)) (hp : pc + 3 = pc')
    (g : ∀ T' h', oSt p l e R s m args below meth c Z T' h' cells slots sf ld → Wr h h' a (Jvm.RoadKit.slotOf Z O n d) v' → oGoes p e below s Z T' (mkF m pc' L S) Q cl sl lg) : oGoes p e below s Z T (mkF m pc L (v :: .ref a :: S)) Q cl sl lg := by
  obtain ⟨vm0, k0, hS, hk, locs, X, eT, N, E, J⟩ := X
  have hZ := oWz K hS
  have hown := oWo K hS
  subst hp
  obtain ⟨T', h', X', e', W, st⟩ := putFN X K.1 hZ hown w via eT F Ex (Lz.imp id fun q => ⟨q.1, q.2.1, K.2.2.2.2.2.1.trans q.2.2⟩) wi hty hn hf (g := mkF m pc L (v :: .ref a :: S)) rfl rfl (hb K.2.2.1 hd)
  exact (g T' h' ⟨vm0, k0, hS, Nat.le_trans hk (Keep.of_wr W).1, _, X', e', Fr.snoc X' N hza, oExt_wr E W hza, J.wr W hsf⟩ W).go st
theorem o_new (K : oCtx p s m meth c Z own cb ml nm rt yy) (X : oSt p l e R s m args below meth c Z T h cells slots sf ld) {C : String} {index n : Nat} (w : (Jvm.Cond.classLink own index C).before a0 Z = true) (wi : (Jvm.Cond.instantiable C n).before a0 Z = true) (wz : (Jvm.Cond.initialized C).before a0 Z = true) (hd : decode cb pc = .ok (.new index, 3)) (hp : pc + 3 = pc') (hc : cells + 1 ≤ R.cells) (hl : slots + n ≤ R.slots)
    (g : ∀ T' h' b, oSt p l e R s m args below meth c Z T' h' (cells + 1) (slots + n) (b :: sf) ld → b = h.size → Ext h h' → Exa Z h' b C → (∀ {O nm d : String} {ty : FieldType}, Laid Z a0 C O nm d → parseFieldDescriptor d = some ty → Fld Z h' b O nm d (defaultValue ty)) → Z.heap.size ≤ b → oGoes p e below s Z T' (mkF m pc' L (.ref b :: S)) Q cl sl lg) : oGoes p e below s Z T (mkF m pc L S) Q cl sl lg := by
  obtain ⟨vm0, k0, hS, hk, locs, X, eT, N, E, J⟩ := X
  have hZ := oWz K hS
  have hown := oWo K hS
  subst hp
  obtain ⟨T', h', X', e', E', A, D, -, st⟩ := newO X K.1 hZ hown w wi wz eT (g := mkF m pc L S) rfl (hb K.2.2.1 hd) hc hl
  exact (g T' h' h.size ⟨vm0, k0, hS, Nat.le_trans hk E'.1, _, X', e', N, oExt_trans E E', J.new E' (Nat.le_refl _) (oExaLt A)⟩ rfl E' A D E.1).go st
theorem o_initObj (K : oCtx p s m meth c Z own cb ml nm rt yy) (X : oSt p l e R s m args below meth c Z T h cells slots sf ld) {index : Nat} {a : Addr} (w1 : (Jvm.Cond.methodLink own index Lib.objectInit).before a0 Z = true) (w2 : (Jvm.Cond.instanceMethod Lib.objectInit).before a0 Z = true) (w3 : (Jvm.Cond.code Lib.objectInit ⟨#[0xb1]⟩ 1 none).before a0 Z = true) (hd : decode cb pc = .ok (.invokespecial index, 3)) (hp : pc + 3 = pc') (hsz : L.size = ml) (hf : 1 ≤ R.frames) {W : Nat} (hW : (S.map fun v => v.category).sum = W) (hl : W + 12 ≤ R.locals)
    (g : ∀ T', oSt p l e R s m args below meth c Z T' h cells slots sf ld → oGoes p e below s Z T' (mkF m pc' L S) Q cl sl lg) : oGoes p e below s Z T (mkF m pc L (.ref a :: S)) Q cl sl lg := by
  obtain ⟨vm0, k0, hS, hk, locs, X, eT, N, E, J⟩ := X
  have hZ := oWz K hS
  have hown := oWo K hS
  subst hp
  obtain ⟨T', X', e', st⟩ := initO X K.1 hZ hown w1 w2 w3 eT (g := mkF m pc L (.ref a :: S)) rfl (by show L.size = _; rw [K.2.2.2.1]; exact hsz) rfl (hb K.2.2.1 hd) hf (W := W) (by show 2 * 0 + _ ≤ _; omega) hl
  exact (g T' ⟨vm0, k0, hS, hk, _, X', e', N, E, J⟩).go st
theorem o_static (K : oCtx p s m meth c Z own cb ml nm rt yy) (X : oSt p l e R s m args below meth c Z T h cells slots sf ld) {index : Nat} {y : MethodName} {bs : ByteArray} {mx : Nat} {rc : Option FieldType} {rm : Room} {as : Array Value} {Qc : Option Value → Heap → Prop} {sfc : List Addr} (w1 : (Jvm.Cond.methodLink own index y).before a0 Z = true) (w2 : (Jvm.Cond.static y).before a0 Z = true) (wz : (Jvm.Cond.initialized y.cls).before a0 Z = true) (wc : (Jvm.Cond.code y bs mx rc).before a0 Z = true) (hy : y.cls ≠ "java/lang/invoke/MethodHandle" ∧ y.cls ≠ "java/lang/invoke/VarHandle")
    (hM : oMet l Z y bs mx rc rm [] as h Qc sfc lf) (hsf : ∀ x ∈ sfc, x ∈ sf) (hf : rm.frames + 1 ≤ R.frames) (hsz : L.size = ml) {argsL : List Value} (has : argsL.toArray = as) (hlen : ∀ sig, parseMethodDescriptor y.desc = some sig → argsL.length = sig.parameters.length) {W : Nat} (hW : (S.map fun v => v.category).sum = W) (hl : W + (mx + 11) + rm.locals ≤ R.locals) (hc : cells + rm.cells ≤ R.cells) (hs : slots + rm.slots ≤ R.slots) (hd : decode cb pc = .ok (.invokestatic index, 3)) (hp : pc + 3 = pc') (g : ∀ v T' h', (∀ rs : List Addr, (lf = false ∨ rs = []) → (∀ r ∈ rs, h.size ≤ r ∧ r < h'.size) → oSt p l e R s m args below meth c Z T' h' (cells + rm.cells) (slots + rm.slots) (rs ++ sf) (ld || lf)) → Qc v h' → oGoes p e below s Z T' (mkF m pc' L (v.toList ++ S)) Q cl sl lg) : oGoes p e below s Z T (mkF m pc L (argsL.reverse ++ S)) Q cl sl lg := by
  obtain ⟨vm0, k0, hS, hk, locs, X, eT, N, E, J⟩ := X
  have hZ := oWz K hS
  have hown := oWo K hS
  subst hp
  obtain ⟨v, _, ⟨T', L1, k1, n1⟩, -, X', hS2, hg2, ⟨Lc, hQ, l1, y1, z1⟩, st⟩ := callSS X K.1 (y := y) hown (mvT hZ w1) (mvT hZ w2) (mvT hZ wz) (mvT hZ wc) hy (oBackH (W := W) hM E K.2.2.2.2.2.2.2.2.2 J.1 (fun x hx => J.2.1 x (hsf x hx)) hZ wc wz hf hl) (g := mkF m pc L (argsL.reverse ++ S)) rfl (by show L.size = _; rw [K.2.2.2.1]; exact hsz) (argsL := argsL) (rest := S) hlen rfl (by show 2 * 0 + _ ≤ _; omega) (hb K.2.2.1 hd) (fun _ _ => ⟨has, eT, hc, hs⟩)
  dsimp only [Pt.U, Pt.locs, Pt.cells, Pt.slots] at X' hS2 hg2 l1 y1 z1 st hQ
  subst l1 y1 z1
  exact (g v T' T'.heap (fun rs hr1 hr2 => ⟨T'.vm, T'.heap.size, hS.trans hS2 (Nat.le_trans hk (by rw [← eT]; exact hg2)), Nat.le_refl _, _, X', rfl, Fr.app N hQ.2.1, hQ.2.2.1, J.call hQ.2.2.2.1 (by rw [← eT]; exact hg2) hQ.2.2.2.2 rs hr1 hr2⟩) hQ.1).go fun t r => st.trans r
theorem o_special (K : oCtx p s m meth c Z own cb ml nm rt yy) (X : oSt p l e R s m args below meth c Z T h cells slots sf ld) {index : Nat} {y : MethodName} {a : Addr} {bs : ByteArray} {mx : Nat} {rm : Room} {as : Array Value} {Qc : Option Value → Heap → Prop} {sfc : List Addr} (hy1 : y.name = "<init>") (w1 : (Jvm.Cond.methodLink own index y).before a0 Z = true) (w2 : (Jvm.Cond.instanceMethod y).before a0 Z = true) (wz : (Jvm.Cond.initialized y.cls).before a0 Z = true) (wc : (Jvm.Cond.code y bs mx none).before a0 Z = true) (hy : y.cls ≠ "java/lang/invoke/MethodHandle" ∧ y.cls ≠ "java/lang/invoke/VarHandle")
    (hM : oMet l Z y bs mx none rm [] as h Qc sfc lf) (hsf : ∀ x ∈ sfc, x ∈ sf) (hf : rm.frames + 1 ≤ R.frames) (hsz : L.size = ml) {argsL : List Value} (has : (Value.ref a :: argsL).toArray = as) (hlen : ∀ sig, parseMethodDescriptor y.desc = some sig → argsL.length = sig.parameters.length) {W : Nat} (hW : (S.map fun v => v.category).sum = W) (hl : W + (mx + 11) + rm.locals ≤ R.locals) (hc : cells + rm.cells ≤ R.cells) (hs : slots + rm.slots ≤ R.slots) (hd : decode cb pc = .ok (.invokespecial index, 3)) (hp : pc + 3 = pc') (g : ∀ v T' h', (∀ rs : List Addr, (lf = false ∨ rs = []) → (∀ r ∈ rs, h.size ≤ r ∧ r < h'.size) → oSt p l e R s m args below meth c Z T' h' (cells + rm.cells) (slots + rm.slots) (rs ++ sf) (ld || lf)) → Qc v h' → oGoes p e below s Z T' (mkF m pc' L (v.toList ++ S)) Q cl sl lg) : oGoes p e below s Z T (mkF m pc L (argsL.reverse ++ .ref a :: S)) Q cl sl lg := by
  obtain ⟨vm0, k0, hS, hk, locs, X, eT, N, E, J⟩ := X
  have hZ := oWz K hS
  have hown := oWo K hS
  subst hp
  obtain ⟨v, _, ⟨T', L1, k1, n1⟩, -, X', hS2, hg2, ⟨Lc, hQ, l1, y1, z1⟩, st⟩ := X.specialBackS K.1 (y := y) hy1 hown (mvT hZ w1) (mvT hZ w2) (mvT hZ wc) hy (oBackH (W := W) hM E K.2.2.2.2.2.2.2.2.2 J.1 (fun x hx => J.2.1 x (hsf x hx)) hZ wc wz hf hl) (g := mkF m pc L (argsL.reverse ++ .ref a :: S)) rfl (by show L.size = _; rw [K.2.2.2.1]; exact hsz) (Steps.refl _) (a := a) (argsL := argsL) (rest := S) hlen rfl (by show 2 * 0 + _ ≤ _; omega) (hb K.2.2.1 hd) (fun _ _ => ⟨has, eT, hc, hs⟩)
  dsimp only [Pt.U, Pt.locs, Pt.cells, Pt.slots] at X' hS2 hg2 l1 y1 z1 st hQ
  subst l1 y1 z1
  exact (g v T' T'.heap (fun rs hr1 hr2 => ⟨T'.vm, T'.heap.size, hS.trans hS2 (Nat.le_trans hk (by rw [← eT]; exact hg2)), Nat.le_refl _, _, X', rfl, Fr.app N hQ.2.1, hQ.2.2.1, J.call hQ.2.2.2.1 (by rw [← eT]; exact hg2) hQ.2.2.2.2 rs hr1 hr2⟩) hQ.1).go fun t r => st.trans r
theorem o_virtual (K : oCtx p s m meth c Z own cb ml nm rt yy) (X : oSt p l e R s m args below meth c Z T h cells slots sf ld) {index : Nat} {y z : MethodName} {C : String} {a : Addr} {bs : ByteArray} {mx : Nat} {rc : Option FieldType} {rm : Room} {as : Array Value} {Qc : Option Value → Heap → Prop} {sfc : List Addr} (w1 : (Jvm.Cond.methodLink own index y).before a0 Z = true) (w2 : (Jvm.Cond.declares y).before a0 Z = true) (hnf : ∀ s' : State, Z.Warmed39 s'.vm → NotFace s' y) (w3 : (Jvm.Cond.selects C y z).before a0 Z = true) (w4 : (Jvm.Cond.instanceMethod z).before a0 Z = true) (wz : (Jvm.Cond.initialized z.cls).before a0 Z = true) (wc : (Jvm.Cond.code z bs mx rc).before a0 Z = true) (hy : y.cls ≠ "java/lang/invoke/MethodHandle" ∧ y.cls ≠ "java/lang/invoke/VarHandle") (Ex : Exa Z h a C)
    (hM : oMet l Z z bs mx rc rm [] as h Qc sfc lf) (hsf : ∀ x ∈ sfc, x ∈ sf) (hf : rm.frames + 1 ≤ R.frames) (hsz : L.size = ml) {argsL : List Value} (has : (Value.ref a :: argsL).toArray = as) (hlen : ∀ sig, parseMethodDescriptor y.desc = some sig → argsL.length = sig.parameters.length) {W : Nat} (hW : (S.map fun v => v.category).sum = W) (hl : W + (mx + 11) + rm.locals ≤ R.locals) (hc : cells + rm.cells ≤ R.cells) (hs : slots + rm.slots ≤ R.slots) (hd : decode cb pc = .ok (.invokevirtual index, 3)) (hp : pc + 3 = pc') (g : ∀ v T' h', (∀ rs : List Addr, (lf = false ∨ rs = []) → (∀ r ∈ rs, h.size ≤ r ∧ r < h'.size) → oSt p l e R s m args below meth c Z T' h' (cells + rm.cells) (slots + rm.slots) (rs ++ sf) (ld || lf)) → Qc v h' → oGoes p e below s Z T' (mkF m pc' L (v.toList ++ S)) Q cl sl lg) : oGoes p e below s Z T (mkF m pc L (argsL.reverse ++ .ref a :: S)) Q cl sl lg := by
  obtain ⟨vm0, k0, hS, hk, locs, X, eT, N, E, J⟩ := X
  have hZ := oWz K hS
  have hown := oWo K hS
  subst hp
  obtain ⟨cq, kq, qa, qb, qc⟩ := isOf hZ eT Ex
  obtain ⟨v, _, ⟨T', L1, k1, n1⟩, -, X', hS2, hg2, ⟨Lc, hQ, l1, y1, z1⟩, st⟩ := X.virtualBackS K.1 (y := y) (z := z) hown (mvT hZ w1) (mvT hZ w2) (hnf _ hZ) (mvT hZ w3) (mvT hZ w4) hy (oBackH (W := W) hM E K.2.2.2.2.2.2.2.2.2 J.1 (fun x hx => J.2.1 x (hsf x hx)) hZ wc wz hf hl) qa qc (g := mkF m pc L (argsL.reverse ++ .ref a :: S)) rfl (by show L.size = _; rw [K.2.2.2.1]; exact hsz) (Steps.refl _) (argsL := argsL) (rest := S) hlen rfl (by show 2 * 0 + _ ≤ _; omega) (hb K.2.2.1 hd) (fun _ _ => ⟨has, eT, hc, hs⟩)
  dsimp only [Pt.U, Pt.locs, Pt.cells, Pt.slots] at X' hS2 hg2 l1 y1 z1 st hQ
  subst l1 y1 z1
  exact (g v T' T'.heap (fun rs hr1 hr2 => ⟨T'.vm, T'.heap.size, hS.trans hS2 (Nat.le_trans hk (by rw [← eT]; exact hg2)), Nat.le_refl _, _, X', rfl, Fr.app N hQ.2.1, hQ.2.2.1, J.call hQ.2.2.2.1 (by rw [← eT]; exact hg2) hQ.2.2.2.2 rs hr1 hr2⟩) hQ.1).go fun t r => st.trans r
theorem o_super (K : oCtx p s m meth c Z own cb ml nm rt yy) (X : oSt p l e R s m args below meth c Z T h cells slots sf ld) {index : Nat} {y : MethodName} {C : String} {a : Addr} {bs : ByteArray} {mx : Nat} {rc : Option FieldType} {rm : Room} {as : Array Value} {Qc : Option Value → Heap → Prop} {sfc : List Addr} (hy1 : y.name ≠ "<init>") (w1 : (Jvm.Cond.methodLink own index y).before a0 Z = true) (w2 : (Jvm.Cond.sameMethod y.cls y.cls y.name y.desc).before a0 Z = true) (w3 : (Jvm.Cond.instanceMethod y).before a0 Z = true) (w4 : (Jvm.Cond.superclass own y.cls).before a0 Z = true) (wz : (Jvm.Cond.initialized y.cls).before a0 Z = true) (wc : (Jvm.Cond.code y bs mx rc).before a0 Z = true) (F : Ins Z h a C true)
    (hM : oMet l Z y bs mx rc rm [] as h Qc sfc lf) (hsf : ∀ x ∈ sfc, x ∈ sf) (hf : rm.frames + 1 ≤ R.frames) (hsz : L.size = ml) {argsL : List Value} (has : (Value.ref a :: argsL).toArray = as) (hlen : ∀ sig, parseMethodDescriptor y.desc = some sig → argsL.length = sig.parameters.length) {W : Nat} (hW : (S.map fun v => v.category).sum = W) (hl : W + (mx + 11) + rm.locals ≤ R.locals) (hc : cells + rm.cells ≤ R.cells) (hs : slots + rm.slots ≤ R.slots) (hd : decode cb pc = .ok (.invokespecial index, 3)) (hp : pc + 3 = pc') (g : ∀ v T' h', (∀ rs : List Addr, (lf = false ∨ rs = []) → (∀ r ∈ rs, h.size ≤ r ∧ r < h'.size) → oSt p l e R s m args below meth c Z T' h' (cells + rm.cells) (slots + rm.slots) (rs ++ sf) (ld || lf)) → Qc v h' → oGoes p e below s Z T' (mkF m pc' L (v.toList ++ S)) Q cl sl lg) : oGoes p e below s Z T (mkF m pc L (argsL.reverse ++ .ref a :: S)) Q cl sl lg := by
  obtain ⟨vm0, k0, hS, hk, locs, X, eT, N, E, J⟩ := X
  have hZ := oWz K hS
  have hown := oWo K hS
  subst hp
  obtain ⟨v, _, ⟨T', L1, k1, n1⟩, -, X', hS2, hg2, ⟨Lc, hQ, l1, y1, z1⟩, st⟩ := Jvm.RoadKit.superBackS X K.1 hZ hown w1 w2 w3 w4 hy1 (oBackH (W := W) hM E K.2.2.2.2.2.2.2.2.2 J.1 (fun x hx => J.2.1 x (hsf x hx)) hZ wc wz hf hl) eT F (g := mkF m pc L (argsL.reverse ++ .ref a :: S)) rfl (by show L.size = _; rw [K.2.2.2.1]; exact hsz) wc (argsL := argsL) (rest := S) hlen rfl (by show 2 * 0 + _ ≤ _; omega) (hb K.2.2.1 hd) (fun _ _ => ⟨has, eT, hc, hs⟩)
  dsimp only [Pt.U, Pt.locs, Pt.cells, Pt.slots] at X' hS2 hg2 l1 y1 z1 st hQ
  subst l1 y1 z1
  exact (g v T' T'.heap (fun rs hr1 hr2 => ⟨T'.vm, T'.heap.size, hS.trans hS2 (Nat.le_trans hk (by rw [← eT]; exact hg2)), Nat.le_refl _, _, X', rfl, Fr.app N hQ.2.1, hQ.2.2.1, J.call hQ.2.2.2.1 (by rw [← eT]; exact hg2) hQ.2.2.2.2 rs hr1 hr2⟩) hQ.1).go fun t r => st.trans r
theorem oSameM {y y' : MethodName} {C : String} (wd : (Jvm.Cond.declares y).before a0 Z = true) (ws : (Jvm.Cond.selects C y' y').before a0 Z = true) (e : y'.cls = y.cls) (hy : y.cls ≠ "java/lang/invoke/MethodHandle" ∧ y.cls ≠ "java/lang/invoke/VarHandle") : (Jvm.Cond.sameMethod y.cls y.cls y.name y.desc).before a0 Z = true := by
  obtain ⟨mk, meth, hn, hm, -, -⟩ := Cond.declares_spec wd
  obtain ⟨c2, r2, m2, q1, q2, q3, q4, kP, hkP, hkPi⟩ := Cond.selects_spec ws
  have h1 := findClass_of_methodNamed hn
  have h2 := findClass_of_methodNamed q3
  rw [e] at h2
  have hc : m2.cls = mk.cls := Option.some.inj (h2.symm.trans h1)
  rw [hc] at hkP
  have hf := State.methodFound?_of_named hn hy
  simp [Jvm.Cond.before, Jvm.Cond.holds, Jvm.Cond.value, h1, hf, hn, hkP, hkPi]
theorem o_ldc2 (K : oCtx p s m meth c Z own cb ml nm rt yy) (X : oSt p l e R s m args below meth c Z T h cells slots sf ld) {index : Nat} {z : Int64} (w : (Jvm.Cond.constantLong own index z).before a0 Z = true) (hd : decode cb pc = .ok (.ldc2_w index, 3)) (hp : pc + 3 = pc') (g : oGoes p e below s Z T (mkF m pc' L (.long z :: S)) Q cl sl lg) : oGoes p e below s Z T (mkF m pc L S) Q cl sl lg := by
  obtain ⟨vm0, k0, hS, hk, locs, X, eT, N, E, J⟩ := X
  have hZ := oWz K hS
  have hown := oWo K hS
  subst hp
  exact g.go (X.ldc2Long K.1 hown (mvT hZ w) (g := mkF m pc L S) rfl (hb K.2.2.1 hd))
theorem o_checkcast (K : oCtx p s m meth c Z own cb ml nm rt yy) (X : oSt p l e R s m args below meth c Z T h cells slots sf ld) {index : Nat} {C : String} {a : Addr} (w : (Jvm.Cond.classLink own index C).before a0 Z = true) (F : Ins Z h a C true) (hd : decode cb pc = .ok (.checkcast index, 3)) (hp : pc + 3 = pc') (g : ∀ T', oSt p l e R s m args below meth c Z T' h cells slots sf ld → oGoes p e below s Z T' (mkF m pc' L (.ref a :: S)) Q cl sl lg) : oGoes p e below s Z T (mkF m pc L (.ref a :: S)) Q cl sl lg := by
  obtain ⟨vm0, k0, hS, hk, locs, X, eT, N, E, J⟩ := X
  have hZ := oWz K hS
  have hown := oWo K hS
  subst hp
  obtain ⟨T', X', e', st⟩ := castY X K.1 hZ hown w eT F (g := mkF m pc L (.ref a :: S)) rfl rfl (hb K.2.2.1 hd)
  exact (g T' ⟨vm0, k0, hS, hk, _, X', e', N, E, J⟩).go st
theorem o_instanceof (K : oCtx p s m meth c Z own cb ml nm rt yy) (X : oSt p l e R s m args below meth c Z T h cells slots sf ld) {index : Nat} {C : String} {a : Addr} (w : (Jvm.Cond.classLink own index C).before a0 Z = true) (F : Ins Z h a C true) (hd : decode cb pc = .ok (.instanceof index, 3)) (hp : pc + 3 = pc') (g : ∀ T', oSt p l e R s m args below meth c Z T' h cells slots sf ld → oGoes p e below s Z T' (mkF m pc' L (.int 1 :: S)) Q cl sl lg) : oGoes p e below s Z T (mkF m pc L (.ref a :: S)) Q cl sl lg := by
  obtain ⟨vm0, k0, hS, hk, locs, X, eT, N, E, J⟩ := X
  have hZ := oWz K hS
  have hown := oWo K hS
  subst hp
  obtain ⟨T', X', e', st⟩ := instY X K.1 hZ hown w eT F (g := mkF m pc L (.ref a :: S)) rfl rfl (hb K.2.2.1 hd)
  exact (g T' ⟨vm0, k0, hS, hk, _, X', e', N, E, J⟩).go st
def oArr (Z : State) (h : Heap) (a : Addr) (k : ClassId) (ty : FieldType) (vs : List Value) : Prop := ∃ c : Cell, Arr Z h a c ty ∧ c.cls = k ∧ c.slots = vs.toArray ∧ (∀ v ∈ vs, fits ty v = true) ∧ vs.length < 2 ^ 31
theorem oArr.lt {a : Addr} {k : ClassId} {ty : FieldType} {vs : List Value} (F : oArr Z h a k ty vs) : a < h.size := by obtain ⟨c, A, -⟩ := F; exact A.lt
theorem oArr.ext {h' : Heap} {a : Addr} {k : ClassId} {ty : FieldType} {vs : List Value} (F : oArr Z h a k ty vs) (E : Ext h h') : oArr Z h' a k ty vs := by obtain ⟨c, A, r⟩ := F; exact ⟨c, A.ext E, r⟩
theorem oArr.other {h' : Heap} {a b : Addr} {k : ClassId} {ty : FieldType} {vs : List Value} {sl : Nat} {v : Value} (F : oArr Z h b k ty vs) (W : Wr h h' a sl v) (q : b ≠ a) : oArr Z h' b k ty vs := by obtain ⟨c, A, r⟩ := F; exact ⟨c, A.other W q, r⟩
theorem oArr.keep {h' : Heap} {a : Addr} {k : ClassId} {ty : FieldType} {vs : List Value} {ws : List Addr} (F : oArr Z h a k ty vs) (Kp : Keep h h' ws) (q : a ∉ ws) : oArr Z h' a k ty vs := by obtain ⟨c, A, r⟩ := F; exact ⟨c, ⟨Kp.2.1 a c A.1 q, A.2⟩, r⟩
theorem oArr.set {h' : Heap} {a : Addr} {k : ClassId} {ty : FieldType} {vs : List Value} {j : Nat} {v : Value} (F : oArr Z h a k ty vs) (W : Wr h h' a j v) (hf : fits ty v = true) : oArr Z h' a k ty (vs.set j v) := by
  obtain ⟨c, A, q1, q2, q3, q4⟩ := F
  refine ⟨c.setSlot j v, A.same W, q1, ?_, fun u hu => ?_, by simpa using q4⟩
  · simp [Cell.setSlot, q2, List.setIfInBounds_toArray]
  · rcases List.mem_or_eq_of_mem_set hu with q | rfl
    · exact q3 _ q
    · exact hf
theorem oInb {vs : List Value} {c : Cell} {j : Int32} (q : c.slots = vs.toArray) (hj : ¬ j < 0) (hlt : j.toNatClampNeg < vs.length) : ¬ (j < 0 ∨ c.slots.size ≤ j.toNatClampNeg) := by
  rw [q]; simp only [List.size_toArray]
  rintro (h1 | h1)
  · exact hj h1
  · omega
theorem o_arraylength (K : oCtx p s m meth c Z own cb ml nm rt yy) (X : oSt p l e R s m args below meth c Z T h cells slots sf ld) {a : Addr} {k : ClassId} {ty : FieldType} {vs : List Value} {z : Int32} (F : oArr Z h a k ty vs) (hz : vs.length.toInt32 = z) (hd : decode cb pc = .ok (.arraylength, 1)) (hp : pc + 1 = pc') (g : oGoes p e below s Z T (mkF m pc' L (.int z :: S)) Q cl sl lg) : oGoes p e below s Z T (mkF m pc L (.ref a :: S)) Q cl sl lg := by
  obtain ⟨vm0, k0, hS, hk, locs, X, eT, N, E, J⟩ := X
  have hZ := oWz K hS
  have hown := oWo K hS
  obtain ⟨cc, A, q1, q2, q3, q4⟩ := F
  subst hp
  refine g.go fun t r => X.arraylength K.1 (by rw [eT]; exact A.1) (State.isArrayOf_alike hZ.alike A.2.1) (g := mkF m pc L (.ref a :: S)) rfl rfl (hb K.2.2.1 hd) _ ?_
  have e1 : cc.slots.size.toInt32 = z := by rw [q2]; simpa using hz
  rw [e1]; exact r
theorem o_caload (K : oCtx p s m meth c Z own cb ml nm rt yy) (X : oSt p l e R s m args below meth c Z T h cells slots sf ld) {a : Addr} {k : ClassId} {vs : List Value} {j : Int32} {v : Value} (F : oArr Z h a k .char vs) (hj : ¬ j < 0) (hv : vs[j.toNatClampNeg]? = some v) (hd : decode cb pc = .ok (.caload, 1)) (hp : pc + 1 = pc') (g : oGoes p e below s Z T (mkF m pc' L (v :: S)) Q cl sl lg) : oGoes p e below s Z T (mkF m pc L (.int j :: .ref a :: S)) Q cl sl lg := by
  obtain ⟨vm0, k0, hS, hk, locs, X, eT, N, E, J⟩ := X
  have hZ := oWz K hS
  have hown := oWo K hS
  obtain ⟨cc, A, q1, q2, q3, q4⟩ := F
  subst hp
  exact g.go fun t r => X.caload K.1 (by rw [eT]; exact A.1) (State.isArrayOf_alike hZ.alike A.2.1) A.2.2 (oInb q2 hj (List.getElem?_eq_some_iff.mp hv).1) (by rw [q2]; simpa using hv) (g := mkF m pc L (.int j :: .ref a :: S)) rfl rfl (hb K.2.2.1 hd) _ r
theorem o_baload (K : oCtx p s m meth c Z own cb ml nm rt yy) (X : oSt p l e R s m args below meth c Z T h cells slots sf ld) {a : Addr} {k : ClassId} {vs : List Value} {j : Int32} {v : Value} (F : oArr Z h a k .byte vs) (hj : ¬ j < 0) (hv : vs[j.toNatClampNeg]? = some v) (hd : decode cb pc = .ok (.baload, 1)) (hp : pc + 1 = pc') (g : oGoes p e below s Z T (mkF m pc' L (v :: S)) Q cl sl lg) : oGoes p e below s Z T (mkF m pc L (.int j :: .ref a :: S)) Q cl sl lg := by
  obtain ⟨vm0, k0, hS, hk, locs, X, eT, N, E, J⟩ := X
  have hZ := oWz K hS
  have hown := oWo K hS
  obtain ⟨cc, A, q1, q2, q3, q4⟩ := F
  subst hp
  exact g.go fun t r => X.baloadBytes K.1 (by rw [eT]; exact A.1) (State.isArrayOf_alike hZ.alike A.2.1) A.2.2 (oInb q2 hj (List.getElem?_eq_some_iff.mp hv).1) (by rw [q2]; simpa using hv) (g := mkF m pc L (.int j :: .ref a :: S)) rfl rfl (hb K.2.2.1 hd) _ r
theorem o_castore (K : oCtx p s m meth c Z own cb ml nm rt yy) (X : oSt p l e R s m args below meth c Z T h cells slots sf ld) {a : Addr} {k : ClassId} {vs : List Value} {j : Int32} {x : Int32} {z : Value} (F : oArr Z h a k .char vs) (hj : ¬ j < 0) (hlt : j.toNatClampNeg < vs.length) (hza : Z.heap.size ≤ a) (hsf : a ∈ sf) (hz : (.int (nar .char x) : Value) = z) (hd : decode cb pc = .ok (.castore, 1)) (hp : pc + 1 = pc')
    (g : ∀ T' h', oSt p l e R s m args below meth c Z T' h' cells slots sf ld → Wr h h' a j.toNatClampNeg z → oArr Z h' a k .char (vs.set j.toNatClampNeg z) → oGoes p e below s Z T' (mkF m pc' L S) Q cl sl lg) : oGoes p e below s Z T (mkF m pc L (.int x :: .int j :: .ref a :: S)) Q cl sl lg := by
  obtain ⟨vm0, k0, hS, hk, locs, X, eT, N, E, J⟩ := X
  have hZ := oWz K hS
  have hown := oWo K hS
  subst hp hz
  obtain ⟨cc, A, q1, q2, q3, q4⟩ := id F
  obtain ⟨T', h', X', e', W, st⟩ := stC X K.1 hZ eT A (oInb q2 hj hlt) (g := mkF m pc L (.int x :: .int j :: .ref a :: S)) rfl rfl (hb K.2.2.1 hd)
  exact (g T' h' ⟨vm0, k0, hS, Nat.le_trans hk (Keep.of_wr W).1, _, X', e', Fr.snoc X' N hza, oExt_wr E W hza, J.wr W hsf⟩ W (F.set W (fits_nar_char x))).go st
theorem o_bastore (K : oCtx p s m meth c Z own cb ml nm rt yy) (X : oSt p l e R s m args below meth c Z T h cells slots sf ld) {a : Addr} {k : ClassId} {vs : List Value} {j : Int32} {x : Int32} {z : Value} (F : oArr Z h a k .byte vs) (hj : ¬ j < 0) (hlt : j.toNatClampNeg < vs.length) (hza : Z.heap.size ≤ a) (hsf : a ∈ sf) (hz : (.int (nar .byte x) : Value) = z) (hd : decode cb pc = .ok (.bastore, 1)) (hp : pc + 1 = pc')
    (g : ∀ T' h', oSt p l e R s m args below meth c Z T' h' cells slots sf ld → Wr h h' a j.toNatClampNeg z → oArr Z h' a k .byte (vs.set j.toNatClampNeg z) → oGoes p e below s Z T' (mkF m pc' L S) Q cl sl lg) : oGoes p e below s Z T (mkF m pc L (.int x :: .int j :: .ref a :: S)) Q cl sl lg := by
  obtain ⟨vm0, k0, hS, hk, locs, X, eT, N, E, J⟩ := X
  have hZ := oWz K hS
  have hown := oWo K hS
  subst hp hz
  obtain ⟨cc, A, q1, q2, q3, q4⟩ := id F
  obtain ⟨T', h', X', e', W, st⟩ := stB X K.1 hZ eT A (oInb q2 hj hlt) (g := mkF m pc L (.int x :: .int j :: .ref a :: S)) rfl rfl (hb K.2.2.1 hd)
  exact (g T' h' ⟨vm0, k0, hS, Nat.le_trans hk (Keep.of_wr W).1, _, X', e', Fr.snoc X' N hza, oExt_wr E W hza, J.wr W hsf⟩ W (F.set W (fits_nar_byte x))).go st
theorem oArr_new {b : Addr} {k : ClassId} {ty : FieldType} {n : Int32} {c : Nat} (A : Arr Z h b (newA k ty n) ty) (hn : n.toNatClampNeg = c) (hc : c < 2 ^ 31) (hf : fits ty (defaultValue ty) = true) : oArr Z h b k ty (List.replicate c (defaultValue ty)) :=
  ⟨_, A, rfl, by simp [newA, hn], fun v hv => by rw [(List.mem_replicate.mp hv).2]; exact hf, by simpa using hc⟩
theorem o_newarray (K : oCtx p s m meth c Z own cb ml nm rt yy) (X : oSt p l e R s m args below meth c Z T h cells slots sf ld) {aty : ArrayType} {n : Int32} {ad : String} (cn : Nat) (w : (Jvm.Cond.arrayClass (newarray.typeOf aty)).before a0 Z = true) (had : "[" ++ (newarray.typeOf aty).toString = ad) (hn : ¬ n < 0) (hcn : n.toNatClampNeg = cn) (hbb : cn * 8 ≤ 536870912) (hf : fits (newarray.typeOf aty) (defaultValue (newarray.typeOf aty)) = true) (hd : decode cb pc = .ok (.newarray aty, 2)) (hp : pc + 2 = pc') (hc : cells + 1 ≤ R.cells) (hl : slots + cn ≤ R.slots)
    (g : ∀ T' h' b k, oSt p l e R s m args below meth c Z T' h' (cells + 1) (slots + cn) (b :: sf) ld → b = h.size → Ext h h' → oArr Z h' b k (newarray.typeOf aty) (List.replicate cn (defaultValue (newarray.typeOf aty))) → Exa Z h' b ad → Z.heap.size ≤ b → oGoes p e below s Z T' (mkF m pc' L (.ref b :: S)) Q cl sl lg) : oGoes p e below s Z T (mkF m pc L (.int n :: S)) Q cl sl lg := by
  obtain ⟨vm0, k0, hS, hk, locs, X, eT, N, E, J⟩ := X
  have hZ := oWz K hS
  have hown := oWo K hS
  subst hp
  obtain ⟨T', h', k, X', e', E', A, Ex, st⟩ := newPE X K.1 hZ w eT (g := mkF m pc L (.int n :: S)) rfl (hb K.2.2.1 hd) rfl hn (cap := cn) (Nat.le_of_eq hcn) hbb hc hl had
  exact (g T' h' h.size k ⟨vm0, k0, hS, Nat.le_trans hk E'.1, _, X', e', N, oExt_trans E E', J.new E' (Nat.le_refl _) (oExaLt Ex)⟩ rfl E' (oArr_new A hcn (by omega) hf) Ex E.1).go st
theorem o_private (K : oCtx p s m meth c Z own cb ml nm rt yy) (X : oSt p l e R s m args below meth c Z T h cells slots sf ld) {index : Nat} {y : MethodName} {a : Addr} {C : String} {bs : ByteArray} {mx : Nat} {rc : Option FieldType} {rm : Room} {as : Array Value} {Qc : Option Value → Heap → Prop} {sfc : List Addr} (w1 : (Jvm.Cond.methodLink own index y).before a0 Z = true) (w2 : (Jvm.Cond.instanceMethod y).before a0 Z = true) (w3 : (Jvm.Cond.selects y.cls y y).before a0 Z = true) (w4 : (Jvm.Cond.privateMethod y).before a0 Z = true) (wz : (Jvm.Cond.initialized y.cls).before a0 Z = true) (wc : (Jvm.Cond.code y bs mx rc).before a0 Z = true) (hy : y.cls ≠ "java/lang/invoke/MethodHandle" ∧ y.cls ≠ "java/lang/invoke/VarHandle") (Ex : Exa Z h a C)
    (hM : oMet l Z y bs mx rc rm [] as h Qc sfc lf) (hsf : ∀ x ∈ sfc, x ∈ sf) (hf : rm.frames + 1 ≤ R.frames) (hsz : L.size = ml) {argsL : List Value} (has : (Value.ref a :: argsL).toArray = as) (hlen : ∀ sig, parseMethodDescriptor y.desc = some sig → argsL.length = sig.parameters.length) {W : Nat} (hW : (S.map fun v => v.category).sum = W) (hl : W + (mx + 11) + rm.locals ≤ R.locals) (hc : cells + rm.cells ≤ R.cells) (hs : slots + rm.slots ≤ R.slots) (hd : decode cb pc = .ok (.invokevirtual index, 3)) (hp : pc + 3 = pc') (g : ∀ v T' h', (∀ rs : List Addr, (lf = false ∨ rs = []) → (∀ r ∈ rs, h.size ≤ r ∧ r < h'.size) → oSt p l e R s m args below meth c Z T' h' (cells + rm.cells) (slots + rm.slots) (rs ++ sf) (ld || lf)) → Qc v h' → oGoes p e below s Z T' (mkF m pc' L (v.toList ++ S)) Q cl sl lg) : oGoes p e below s Z T (mkF m pc L (argsL.reverse ++ .ref a :: S)) Q cl sl lg := by
  obtain ⟨vm0, k0, hS, hk, locs, X, eT, N, E, J⟩ := X
  have hZ := oWz K hS
  have hown := oWo K hS
  subst hp
  obtain ⟨cq, q, q'⟩ := Ex.cell
  obtain ⟨v, _, ⟨T', L1, k1, n1⟩, -, X', hS2, hg2, ⟨Lc, hQ, l1, y1, z1⟩, st⟩ := X.privateBackS K.1 (y := y) hown (mvT hZ w1) (mvT hZ w2) (mvT hZ w3) (Jvm.Cond.privateMethod_at (mvP hZ w4 (args := #[]))) (mvT hZ wc) hy (oBackH (W := W) hM E K.2.2.2.2.2.2.2.2.2 J.1 (fun x hx => J.2.1 x (hsf x hx)) hZ wc wz hf hl) (g := mkF m pc L (argsL.reverse ++ .ref a :: S)) rfl (by show L.size = _; rw [K.2.2.2.1]; exact hsz) (Steps.refl _) (a := a) (by rw [eT]; exact q) q' (argsL := argsL) (rest := S) hlen rfl (by show 2 * 0 + _ ≤ _; omega) (hb K.2.2.1 hd) (fun _ _ => ⟨has, eT, hc, hs⟩)
  dsimp only [Pt.U, Pt.locs, Pt.cells, Pt.slots] at X' hS2 hg2 l1 y1 z1 st hQ
  subst l1 y1 z1
  exact (g v T' T'.heap (fun rs hr1 hr2 => ⟨T'.vm, T'.heap.size, hS.trans hS2 (Nat.le_trans hk (by rw [← eT]; exact hg2)), Nat.le_refl _, _, X', rfl, Fr.app N hQ.2.1, hQ.2.2.1, J.call hQ.2.2.2.1 (by rw [← eT]; exact hg2) hQ.2.2.2.2 rs hr1 hr2⟩) hQ.1).go fun t r => st.trans r
theorem oNarchar {y : Int32} (hy : y.toBitVec.toNat < 65536) : nar .char y = y := by
  apply Int32.toBitVec_inj.mp
  apply BitVec.eq_of_toNat_eq
  have e1 : (nar .char y).toBitVec.toNat = y.toUInt32.toUInt16.toUInt32.toNat := rfl
  have e2 : y.toUInt32.toNat = y.toBitVec.toNat := rfl
  rw [e1, UInt16.toNat_toUInt32, UInt32.toNat_toUInt16, e2]
  exact Nat.mod_eq_of_lt hy
theorem oNarMask (x : Int32) {k : Int32} (hk : k.toBitVec.toNat < 65536) : nar .char (x &&& k) = x &&& k := by
  refine oNarchar ?_
  simp only [Int32.toBitVec_and, BitVec.toNat_and]
  exact Nat.lt_of_le_of_lt Nat.and_le_right hk
theorem oNarIdemchar (x : Int32) : nar .char (nar .char x) = nar .char x := by
  simp only [nar]; congr 1; exact UInt32.toNat_inj.mp (by simp)
theorem oNarIdembyte (x : Int32) : nar .byte (nar .byte x) = nar .byte x := by
  simp [nar]
theorem oFitbyte {x x' : Int32} (q : nar .byte x = x') : fits .byte (.int x') = true := q ▸ fits_nar_byte x
theorem oCat1 {z : Int32} : (Value.int z).category = 1 := rfl
theorem oCat2 {z : Int64} : (Value.long z).category = 2 := rfl
theorem oCat3 {a : Addr} : (Value.ref a).category = 1 := rfl
theorem oCat4 : Value.null.category = 1 := rfl
theorem oCatRef {v : Value} (h2 : v.isRef = true) : v.category = 1 := by
  rcases ref_cases h2 with rfl | ⟨a, rfl⟩ <;> rfl
theorem oMaskPos (x : Int32) {k : Int32} (hk : k.toBitVec.toNat < 2 ^ 31) : ¬ (x &&& k) < 0 := by
  rw [Int32.lt_iff_toInt_lt]
  have h1 : (x &&& k).toBitVec.toNat < 2 ^ 31 := by
    simp only [Int32.toBitVec_and, BitVec.toNat_and]
    exact Nat.lt_of_le_of_lt Nat.and_le_right hk
  have h2 : (x &&& k).toInt = (x &&& k).toBitVec.toNat := BitVec.toInt_eq_toNat_of_lt (by omega)
  have h3 : (0 : Int32).toInt = 0 := by decide
  omega
theorem oNneg {i : Nat} (hi : i < 2 ^ 31) : ¬ i.toInt32 < 0 := by
  have q : i.toInt32.toInt = i := len_toInt hi
  simp only [Int32.lt_iff_toInt_lt, q, Int32.reduceToInt]; omega
theorem oNat32 {i : Nat} (hi : i < 2 ^ 31) : i.toInt32.toNatClampNeg = i := by
  have q1 : i.toInt32.toInt = i := len_toInt hi
  show i.toInt32.toInt.toNat = i
  omega
theorem oMask255 (x : Int32) : ¬ (255 : Int32) < (x &&& 255) := by
  rw [Int32.lt_iff_toInt_lt]
  have h1 : (x &&& 255).toBitVec.toNat ≤ 255 := by
    simp only [Int32.toBitVec_and, BitVec.toNat_and]
    exact Nat.and_le_right
  have h2 : (x &&& 255).toInt = (x &&& 255).toBitVec.toNat := BitVec.toInt_eq_toNat_of_lt (by omega)
  have h3 : (255 : Int32).toInt = 255 := by decide
  omega
theorem oNeInt_v {args : Array Value} {s : State} {t : Term} {x z : Int32} (ht : t.eval args s none [] s = some (.int x)) (q : (Jvm.Cond.not (Jvm.Cond.eq t (Term.int z))).value args s none s [] = some true) : ¬ x = z := by
  have r := not_v q
  have e2 : (Term.int z).eval args s none [] s = some (.int z) := rfl
  simpa [Jvm.Cond.value, ht, e2] using r
theorem oSz {i : Nat} (hi : i < 2 ^ 31) : ¬ i.toInt32 < 0 := by
  rw [Int32.lt_iff_toInt_lt, len_toInt hi]
  have : (0 : Int32).toInt = 0 := by decide
  omega
theorem oArr.arv {a : Addr} {k : ClassId} {ty : FieldType} {vs : List Value} (F : oArr Z h a k ty vs) (dv : Value) : Arv Z h a k ty vs.length.toInt32 vs dv := by
  obtain ⟨c, A, q1, q2, q3, q4⟩ := F
  have e : vs.length.toInt32.toNatClampNeg = vs.length := oNat32 q4
  have sz : c.slots.size = vs.length := by rw [q2]; simp
  refine ⟨c, A, q1, by rw [sz, e], oSz q4, fun i hi => ?_, fun i hi => ?_⟩
  · have hi' : i < vs.length := by omega
    rw [q2]; simp [hi', List.getD_eq_getElem?_getD]
  · have hi' : i < vs.length := by omega
    refine q3 _ ?_
    simp [hi', List.getD_eq_getElem?_getD]
theorem oArr_of_arv {a : Addr} {k : ClassId} {ty : FieldType} {z : Int32} {vs : List Value} {dv : Value} (F : Arv Z h a k ty z vs dv) (hl : vs.length = z.toNatClampNeg) (hb : vs.length < 2 ^ 31) : oArr Z h a k ty vs := by
  obtain ⟨c, A, q1, S1, -, H, G1⟩ := F
  have sz : c.slots.size = vs.length := by omega
  refine ⟨c, A, q1, ?_, fun v hv => ?_, hb⟩
  · apply Array.ext
    · simpa using sz
    · intro i h1 h2
      have r := H i h1
      have h3 : i < vs.length := by omega
      rw [Array.getElem?_eq_getElem h1] at r
      simpa [h3, List.getD_eq_getElem?_getD] using r
  · obtain ⟨i, hi, rfl⟩ := List.mem_iff_getElem.mp hv
    have r := G1 i (by omega)
    simpa [hi, List.getD_eq_getElem?_getD] using r
theorem o_arraycopy (K : oCtx p s m meth c Z own cb ml nm rt yy) (X : oSt p l e R s m args below meth c Z T h cells slots sf ld) {index : Nat} {a b : Addr} {k k' : ClassId} {ty ty' : FieldType} {vs vd : List Value} {sp dp nn : Int32} (us ws : List Value) (w1 : (Jvm.Cond.methodLink own index Jvm.Stand.acN).before a0 Z = true) (w2 : (Jvm.Cond.native Jvm.Stand.acN).before a0 Z = true) (w3 : (Jvm.Cond.static Jvm.Stand.acN).before a0 Z = true) (w4 : (Jvm.Cond.initialized "java/lang/System").before a0 Z = true)
    (A : oArr Z h a k ty vs) (B : oArr Z h b k' ty' vd) (hty : (ty = ty' ∧ refKind ty = false) ∨ (refKind ty = true ∧ refKind ty' = true ∧ StoL Z h b us)) (h1 : ¬ sp < 0) (h2 : ¬ dp < 0) (h3 : ¬ nn < 0) (h4 : sp.toNatClampNeg + nn.toNatClampNeg ≤ vs.length) (h5 : dp.toNatClampNeg + nn.toNatClampNeg ≤ vd.length)
    (hus : us = (List.range nn.toNatClampNeg).map fun i => vs.getD (sp.toNatClampNeg + i) .null) (hws : vd.take dp.toNatClampNeg ++ us ++ vd.drop (dp.toNatClampNeg + nn.toNatClampNeg) = ws) (hwl : ws.length = vd.length) (hza : Z.heap.size ≤ b) (hsf : b ∈ sf) (hd : decode cb pc = .ok (.invokestatic index, 3)) (hp : pc + 3 = pc') (hsz : L.size = ml) (hf : 1 ≤ R.frames) {W : Nat} (hW : (S.map fun v => v.category).sum = W) (hlo : W + (nativeFrameWords "java/lang/System" "arraycopy" 5 + 11) ≤ R.locals)
    (g : ∀ T' h', oSt p l e R s m args below meth c Z T' h' cells slots sf ld → Keep h h' [b] → oArr Z h' b k' ty' ws → oGoes p e below s Z T' (mkF m pc' L S) Q cl sl lg) : oGoes p e below s Z T (mkF m pc L (.int nn :: .int dp :: .ref b :: .int sp :: .ref a :: S)) Q cl sl lg := by
  obtain ⟨vm0, k0, hS, hk, locs, X, eT, N, E, J⟩ := X
  have hZ := oWz K hS
  have hown := oWo K hS
  subst hp
  have qa : vs.length < 2 ^ 31 := by obtain ⟨_, _, _, _, _, q⟩ := A; exact q
  have qb : vd.length < 2 ^ 31 := by obtain ⟨_, _, _, _, _, q⟩ := B; exact q
  have ea : vs.length.toInt32.toNatClampNeg = vs.length := oNat32 qa
  have eb : vd.length.toInt32.toNatClampNeg = vd.length := oNat32 qb
  obtain ⟨T', h', L1, X', e', N', Kp, A', st⟩ := cpA X K.1 hZ hown w1 w2 w3 w4 eT (A.arv .null) (B.arv .null) hty h1 h2 h3 (by omega) (by omega) hus h5 N hza (g := mkF m pc L (.int nn :: .int dp :: .ref b :: .int sp :: .ref a :: S)) rfl (by show L.size = _; rw [K.2.2.2.1]; exact hsz) rfl (hb K.2.2.1 hd) hf (W := W) (by show 2 * 0 + _ ≤ _; omega) hlo
  rw [hws] at A'
  have E2 : Ext Z.heap h' := (Old.keep (n0 := Z.heap.size) ⟨rfl, E⟩ Kp (allS hza all0)).2
  exact (g T' h' ⟨vm0, k0, hS, Nat.le_trans hk Kp.1, _, X', e', N', E2, J.keep Kp (allS hsf all0)⟩ Kp (oArr_of_arv A' (by omega) (by omega))).go st
theorem oAnd3 (x : Int32) : x &&& 3 = 0 ∨ x &&& 3 = 1 ∨ x &&& 3 = 2 ∨ x &&& 3 = 3 := by
  have h1 : (x &&& 3).toBitVec.toNat ≤ 3 := by
    simp only [Int32.toBitVec_and, BitVec.toNat_and]
    exact Nat.and_le_right
  have e : ∀ k : Int32, (x &&& 3).toBitVec.toNat = k.toBitVec.toNat → x &&& 3 = k := fun k q => Int32.toBitVec_inj.mp (BitVec.eq_of_toNat_eq q)
  have z0 : (0 : Int32).toBitVec.toNat = 0 := by decide
  have z1 : (1 : Int32).toBitVec.toNat = 1 := by decide
  have z2 : (2 : Int32).toBitVec.toNat = 2 := by decide
  have z3 : (3 : Int32).toBitVec.toNat = 3 := by decide
  by_cases q0 : (x &&& 3).toBitVec.toNat = 0
  · exact Or.inl (e 0 (by omega))
  by_cases q1 : (x &&& 3).toBitVec.toNat = 1
  · exact Or.inr (Or.inl (e 1 (by omega)))
  by_cases q2 : (x &&& 3).toBitVec.toNat = 2
  · exact Or.inr (Or.inr (Or.inl (e 2 (by omega))))
  · exact Or.inr (Or.inr (Or.inr (e 3 (by omega))))
theorem oNF {C : String} {y : MethodName} (w : (Jvm.Cond.selects C y y).before a0 Z = true) : ∀ s' : State, Z.Warmed39 s'.vm → NotFace s' y := fun _ q => notFace_of_selects (args := #[]) (mvT q w)
theorem oNotFaceV {args : Array Value} {s : State} {C : String} {y y' : MethodName} (ws : (Jvm.Cond.selects C y' y').before args s = true) (e : y'.cls = y.cls) : NotFace s y := fun r0 h0 => by
  obtain ⟨c2, r2, m2, q1, q2, q3, q4, kP, hkP, hkPi⟩ := Cond.selects_spec ws
  have h1 := findClass_of_methodNamed h0
  have h2 := findClass_of_methodNamed q3
  rw [e] at h2
  have hc : m2.cls = r0.cls := Option.some.inj (h2.symm.trans h1)
  exact ⟨kP, hc ▸ hkP, hkPi⟩
theorem oSelectsV {y : MethodName} {C : String} (ws : (Jvm.Cond.selects C y y).before a0 Z = true) (wm : (Jvm.Cond.instanceMethod y).before a0 Z = true) (wp : (Jvm.Cond.privateMethod y).before a0 Z = true) (hy : y.cls ≠ "java/lang/invoke/MethodHandle" ∧ y.cls ≠ "java/lang/invoke/VarHandle") : (Jvm.Cond.selects y.cls y y).before a0 Z = true := by
  obtain ⟨mk, meth, hn, hm, hst, hab⟩ := Cond.instanceMethod_spec wm
  obtain ⟨c2, r2, m2, q1, q2, q3, q4, kP, hkP, hkPi⟩ := Cond.selects_spec ws
  have hp : meth.isPrivate = true := Cond.privateMethod_at wp mk meth hn hm
  have e : m2 = mk := Option.some.inj (q3.symm.trans hn)
  rw [e] at hkP
  have h1 := findClass_of_methodNamed hn
  have hf := State.methodFound?_of_named hn hy
  have hs : selectMethod {} Z.vm mk.cls mk = .method mk := selectMethod_private hm hp
  simp [Jvm.Cond.before, Jvm.Cond.holds, Jvm.Cond.value, h1, hf, hn, hs, hkP, hkPi]
theorem oInstSpec {Z : State} {a0 : Array Value} {K : String} {n : Nat} (w : (Jvm.Cond.instantiable K n).before a0 Z = true) : ∃ t k, Z.vm.findClass K = some t ∧ Z.vm.classes[t]? = some k ∧ k.kind = .ordinary ∧ k.isInterface = false := by
  simp only [Cond.before, Cond.holds, Cond.value] at w
  cases hc : Z.vm.findClass K with
  | none => simp [hc] at w
  | some t =>
    cases hk : Z.vm.classes[t]? with
    | none => simp [hc, hk] at w
    | some k => simp [hc, hk] at w; exact ⟨t, k, rfl, hk, w.1.1.1, w.1.1.2.1⟩
theorem oNeArr {Z : State} {h : Heap} {a0 : Array Value} {a b : Addr} {C : String} {n : Nat} {k : ClassId} {ty : FieldType} {vs : List Value} (E : Exa Z h a C) (w : (Jvm.Cond.instantiable C n).before a0 Z = true) (F : oArr Z h b k ty vs) : b ≠ a := by
  rintro rfl
  obtain ⟨cell, k1, e1, e2, e3, -, -⟩ := E
  obtain ⟨c, ⟨A1, ⟨-, k2, g1, comp, g2⟩, -⟩, -⟩ := F
  obtain ⟨t, k3, f1, f2, f3, -⟩ := oInstSpec w
  cases A1.symm.trans e1
  cases f1.symm.trans e2
  cases f2.symm.trans g1
  rw [f3] at g2; cases g2
theorem o_ldcR (K : oCtx p s m meth c Z own cb ml nm rt yy) (X : oSt p l e R s m args below meth c Z T h cells slots sf ld) {index : Nat} {text : String} (n : Nat) (vs : List Value) (hEW : EW Z a0 oEL) (w : (Jvm.Cond.stringLink own index text).before a0 Z = true) (wS : ∀ a ∈ Bundle.stringAtoms, a.before a0 Z = true) (hmem : (own, index) ∈ oEL) (ht : (∀ c ∈ text.toList, c.toNat < 256) ∧ text.toList.map (fun c => Value.int (Jvm.Lit.byteI c.toNat.toUInt16)) = vs) (hv : vs.length < 2 ^ 31)
    (hd : decode cb pc = .ok (.ldc index, 2)) (hp : pc + 2 = pc') (hn : 4 * text.toList.length ≤ n) (hbig : n ≤ 536870912) (hc : cells + 2 ≤ R.cells) (hl : slots + (n + 4) ≤ R.slots)
    (g : ∀ T' h' a b k, oSt p l e R s m args below meth c Z T' h' (cells + 2) (slots + (n + 4)) sf true → Ext h h' → Exa Z h' a "java/lang/String" → Fld Z h' a "java/lang/String" "coder" "B" (.int 0) → Fld Z h' a "java/lang/String" "value" "[B" (.ref b) → oArr Z h' b k .byte vs → (∀ x ∈ sf, x ≠ a ∧ x ≠ b) → oGoes p e below s Z T' (mkF m pc' L (.ref a :: S)) Q cl sl lg) : oGoes p e below s Z T (mkF m pc L S) Q cl sl lg := by
  obtain ⟨vm0, k0, hS, hk, locs, X, eT, N, E, J⟩ := X
  have hZ := oWz K hS
  have hown := oWo K hS
  subst hp
  have e1 : vs.length.toInt32.toNatClampNeg = vs.length := oNat32 hv
  obtain ⟨a, T', h', k1, b, k, X', e', E', hS', hk', -, -, q1, q2, q3, q4, -, -, hC, -, hne, st⟩ := ldcCH X K.1 hZ hown (a0 := a0) w wS eT hS hk (EL := oEL) hEW hmem J.1 (vs := vs) (z := vs.length.toInt32) ht (oNneg hv) e1 (g := mkF m pc L S) rfl (hb K.2.2.1 hd) hn hbig hc hl
  have J' := J.load hC
  exact (g T' h' a b k ⟨T'.vm, k1, hS', hk', locs, X', e', N, oExt_trans E E', J'⟩ E' q1 q2 q3 (oArr_of_arv q4 e1.symm hv) (fun x hx => hne x (J'.2.1 x hx).2)).go st
end Own
set_option maxRecDepth 65536
set_option maxHeartbeats 40000000
def oCh (x : Int32) : Prop := ¬ (x < (0 : Int32)) ∧ ¬ ((255 : Int32) < x)
theorem oChE {x : Int32} (h : oCh x) : ∃ n : Fin 256, x = Int32.ofInt n.val := by
  obtain ⟨h1, h2⟩ := h
  rw [Int32.lt_iff_toInt_lt] at h1 h2
  have z1 : (0 : Int32).toInt = 0 := by decide
  have z2 : (255 : Int32).toInt = 255 := by decide
  refine ⟨⟨x.toInt.toNat, by omega⟩, ?_⟩
  have e : ((x.toInt.toNat : Nat) : Int) = x.toInt := Int.toNat_of_nonneg (by omega)
  show x = Int32.ofInt ((x.toInt.toNat : Nat) : Int)
  rw [e]; simp
theorem oBack {x : Int32} (h : oCh x) : (nar .byte x) &&& (255 : Int32) = x := by
  obtain ⟨n, rfl⟩ := oChE h
  have key : ∀ n : Fin 256, (nar .byte (Int32.ofInt n.val)) &&& (255 : Int32) = Int32.ofInt n.val := by decide +kernel
  exact key n
theorem oChN {x : Int32} (h : oCh x) : nar .char x = x := by
  obtain ⟨n, rfl⟩ := oChE h
  have key : ∀ n : Fin 256, nar .char (Int32.ofInt n.val) = Int32.ofInt n.val := by decide +kernel
  exact key n
theorem oPre (x : Int64) : oCh ((x &&& (255 : Int64)).toInt32.toUInt32.toUInt16.toUInt32.toInt32) := by
  obtain ⟨n, e⟩ : ∃ n : Fin 256, x &&& (255 : Int64) = Int64.ofNat n.val := by
    have hb : (x &&& (255 : Int64)).toBitVec.toNat < 256 := by
      have e : (x &&& (255 : Int64)).toBitVec.toNat = x.toBitVec.toNat &&& 255 := by
        simp only [Int64.toBitVec_and, BitVec.toNat_and]; rfl
      rw [e]; exact Nat.lt_of_le_of_lt Nat.and_le_right (by decide)
    refine ⟨⟨_, hb⟩, ?_⟩
    apply Int64.toBitVec_inj.mp
    have q : ∀ k : Nat, (Int64.ofNat k).toBitVec = BitVec.ofNat 64 k := fun k => rfl
    rw [q]
    exact (BitVec.eq_of_toNat_eq (by rw [BitVec.toNat_ofNat]; exact (Nat.mod_eq_of_lt (BitVec.isLt _)).symm))
  rw [e]
  have key : ∀ n : Fin 256, ¬ (((Int64.ofNat n.val).toInt32.toUInt32.toUInt16.toUInt32.toInt32) < (0 : Int32)) ∧ ¬ ((255 : Int32) < ((Int64.ofNat n.val).toInt32.toUInt32.toUInt16.toUInt32.toInt32)) := by decide +kernel
  exact key n
theorem oK3 (x : Int32) : (x &&& (3 : Int32)) % (3 : Int32) = (0 : Int32) ∨ (x &&& (3 : Int32)) % (3 : Int32) = (1 : Int32) ∨ (x &&& (3 : Int32)) % (3 : Int32) = (2 : Int32) := by
  rcases oAnd3 x with q | q | q | q <;> rw [q] <;> decide
theorem oM4 (x : Int32) : x &&& (3 : Int32) = (0 : Int32) ∨ x &&& (3 : Int32) = (1 : Int32) ∨ (¬ (x &&& (3 : Int32) = (0 : Int32)) ∧ ¬ (x &&& (3 : Int32) = (1 : Int32)) ∧ ¬ (x &&& (3 : Int32) < (2 : Int32))) := by
  rcases oAnd3 x with q | q | q | q <;> rw [q] <;> decide
theorem oChI {p : Prop} [Decidable p] {x y : Int32} (h1 : oCh x) (h2 : oCh y) : oCh (if p then x else y) := by split <;> assumption
theorem oChM (x : Int32) : oCh (x &&& (255 : Int32)) := ⟨oMaskPos _ (by decide), oMask255 _⟩
theorem oCh34 : oCh (34 : Int32) := ⟨by decide, by decide⟩
theorem oCh120 : oCh (120 : Int32) := ⟨by decide, by decide⟩
theorem oTc (x : Int32) : ¬ ((if x = (34 : Int32) then (120 : Int32) else x) = (34 : Int32)) := by
  split
  · decide
  · assumption
theorem own_exactly {args : Array Value} {s : State} {t : Term} {C : String} {idx : List Nat} (q : (Jvm.Cond.exactly t C).value args s none s idx = some true) : ∃ r, t.eval args s none idx s = some (.ref r) ∧ (Exa s s.heap r C) := by
  have h : (Jvm.Cond.exactly t C).holds args s none s idx = true := by simp [Jvm.Cond.holds, q]
  obtain ⟨r, c, cell, k, e1, e2, e3, e4, e5, e6, e7⟩ := Cond.exactly_spec h
  subst e6
  exact ⟨r, e1, cell, k, e3, e2, e4, e5, e7⟩
abbrev z0 : String := "java/lang/String"
abbrev z1 : String := "java/lang/AbstractStringBuilder"
abbrev z2 : String := "com/example/latticube/latticube/csv/QuotedText"
abbrev z3 : String := "java/util/Optional"
abbrev z4 : String := "java/lang/StringBuilder"
abbrev z5 : String := "COMPACT_STRINGS"
abbrev z6 : String := "jdk/internal/util/Preconditions"
abbrev z7 : String := "SIOOBE_FORMATTER"
abbrev z8 : String := "Ljava/util/function/BiFunction;"
abbrev z9 : String := "java/lang/StringLatin1"
abbrev z10 : String := "java/util/Arrays"
abbrev z11 : String := "Ljava/lang/Object;"
abbrev z12 : String := "(Ljava/lang/String;I)Ljava/util/Optional;"
abbrev z13 : String := "Ljava/lang/String;"
abbrev z14 : String := "Ljava/util/Optional;"
abbrev z15 : String := "java/lang/StringUTF16"
abbrev z16 : String := "com/example/latticube/latticube/csv/QuotedTextReadPinLaw"
abbrev z17 : String := "(Ljava/lang/AbstractStringBuilder;Ljava/lang/Void;)V"
def oHw (Z : State) (a0 : Array Value) : Prop := ∀ d ∈ tables_1, d.before a0 Z = true
theorem w0 {Z : State} {a0 : Array Value} (hw : oHw Z a0) : (Jvm.Cond.arrayClass Jvm.ClassFile.FieldType.char).before a0 Z = true := hw _ (List.mem_of_getElem? (i := 0) rfl)
theorem w1 {Z : State} {a0 : Array Value} (hw : oHw Z a0) : (Jvm.Cond.constantLong z16 (7 : Nat) (255 : Int64)).before a0 Z = true := hw _ (List.mem_of_getElem? (i := 1) rfl)
theorem w2 {Z : State} {a0 : Array Value} (hw : oHw Z a0) : (Jvm.Cond.classLink z16 (9 : Nat) z0).before a0 Z = true := hw _ (List.mem_of_getElem? (i := 2) rfl)
theorem w3 {Z : State} {a0 : Array Value} (hw : oHw Z a0) : (Jvm.Cond.instantiable z0 (4 : Nat)).before a0 Z = true := hw _ (List.mem_of_getElem? (i := 3) rfl)
theorem w4 {Z : State} {a0 : Array Value} (hw : oHw Z a0) : (Jvm.Cond.initialized z0).before a0 Z = true := hw _ (List.mem_of_getElem? (i := 4) rfl)
theorem w5 {Z : State} {a0 : Array Value} (hw : oHw Z a0) : (Jvm.Cond.methodLink z16 (11 : Nat) ({ cls := z0, name := "<init>", desc := "([C)V" } : Jvm.MethodName)).before a0 Z = true := hw _ (List.mem_of_getElem? (i := 5) rfl)
theorem w6 {Z : State} {a0 : Array Value} (hw : oHw Z a0) : (Jvm.Cond.instanceMethod ({ cls := z0, name := "<init>", desc := "([C)V" } : Jvm.MethodName)).before a0 Z = true := hw _ (List.mem_of_getElem? (i := 6) rfl)
theorem w7 {Z : State} {a0 : Array Value} (hw : oHw Z a0) : (Jvm.Cond.code ({ cls := z0, name := "<init>", desc := "([C)V" } : Jvm.MethodName) jdk_42_method_3_code (2 : Nat) (Option.none : Option Jvm.ClassFile.FieldType)).before a0 Z = true := hw _ (List.mem_of_getElem? (i := 7) rfl)
theorem w8 {Z : State} {a0 : Array Value} (hw : oHw Z a0) : (Jvm.Cond.methodLink z0 (27 : Nat) ({ cls := z0, name := "<init>", desc := "([CIILjava/lang/Void;)V" } : Jvm.MethodName)).before a0 Z = true := hw _ (List.mem_of_getElem? (i := 8) rfl)
theorem w9 {Z : State} {a0 : Array Value} (hw : oHw Z a0) : (Jvm.Cond.instanceMethod ({ cls := z0, name := "<init>", desc := "([CIILjava/lang/Void;)V" } : Jvm.MethodName)).before a0 Z = true := hw _ (List.mem_of_getElem? (i := 9) rfl)
theorem w11 {Z : State} {a0 : Array Value} (hw : oHw Z a0) : (Jvm.Cond.code ({ cls := z0, name := "<init>", desc := "([CIILjava/lang/Void;)V" } : Jvm.MethodName) jdk_42_method_149_code (6 : Nat) (Option.none : Option Jvm.ClassFile.FieldType)).before a0 Z = true := hw _ (List.mem_of_getElem? (i := 11) rfl)
theorem w12 {Z : State} {a0 : Array Value} (hw : oHw Z a0) : (Jvm.Cond.methodLink z0 (1 : Nat) ({ cls := "java/lang/Object", name := "<init>", desc := "()V" } : Jvm.MethodName)).before a0 Z = true := hw _ (List.mem_of_getElem? (i := 12) rfl)
theorem w13 {Z : State} {a0 : Array Value} (hw : oHw Z a0) : (Jvm.Cond.instanceMethod ({ cls := "java/lang/Object", name := "<init>", desc := "()V" } : Jvm.MethodName)).before a0 Z = true := hw _ (List.mem_of_getElem? (i := 13) rfl)
theorem w14 {Z : State} {a0 : Array Value} (hw : oHw Z a0) : (Jvm.Cond.code ({ cls := "java/lang/Object", name := "<init>", desc := "()V" } : Jvm.MethodName) object_method_1_code (1 : Nat) (Option.none : Option Jvm.ClassFile.FieldType)).before a0 Z = true := hw _ (List.mem_of_getElem? (i := 14) rfl)
theorem w15 {Z : State} {a0 : Array Value} (hw : oHw Z a0) : (Jvm.Cond.fieldLink z0 (38 : Nat) z0 z5 "Z").before a0 Z = true := hw _ (List.mem_of_getElem? (i := 15) rfl)
theorem w16 {Z : State} {a0 : Array Value} (hw : oHw Z a0) : (Jvm.Cond.methodLink z0 (177 : Nat) ({ cls := z15, name := "compress", desc := "([CII)[B" } : Jvm.MethodName)).before a0 Z = true := hw _ (List.mem_of_getElem? (i := 16) rfl)
theorem w17 {Z : State} {a0 : Array Value} (hw : oHw Z a0) : (Jvm.Cond.static ({ cls := z15, name := "compress", desc := "([CII)[B" } : Jvm.MethodName)).before a0 Z = true := hw _ (List.mem_of_getElem? (i := 17) rfl)
theorem w18 {Z : State} {a0 : Array Value} (hw : oHw Z a0) : (Jvm.Cond.initialized z15).before a0 Z = true := hw _ (List.mem_of_getElem? (i := 18) rfl)
theorem w19 {Z : State} {a0 : Array Value} (hw : oHw Z a0) : (Jvm.Cond.code ({ cls := z15, name := "compress", desc := "([CII)[B" } : Jvm.MethodName) jdk_52_method_16_code (6 : Nat) (Option.some (Jvm.ClassFile.FieldType.array Jvm.ClassFile.FieldType.byte))).before a0 Z = true := hw _ (List.mem_of_getElem? (i := 19) rfl)
theorem w20 {Z : State} {a0 : Array Value} (hw : oHw Z a0) : (Jvm.Cond.arrayClass Jvm.ClassFile.FieldType.byte).before a0 Z = true := hw _ (List.mem_of_getElem? (i := 20) rfl)
theorem w21 {Z : State} {a0 : Array Value} (hw : oHw Z a0) : (Jvm.Cond.methodLink z15 (115 : Nat) ({ cls := z15, name := "compress", desc := "([CI[BII)I" } : Jvm.MethodName)).before a0 Z = true := hw _ (List.mem_of_getElem? (i := 21) rfl)
theorem w22 {Z : State} {a0 : Array Value} (hw : oHw Z a0) : (Jvm.Cond.static ({ cls := z15, name := "compress", desc := "([CI[BII)I" } : Jvm.MethodName)).before a0 Z = true := hw _ (List.mem_of_getElem? (i := 22) rfl)
theorem w23 {Z : State} {a0 : Array Value} (hw : oHw Z a0) : (Jvm.Cond.code ({ cls := z15, name := "compress", desc := "([CI[BII)I" } : Jvm.MethodName) jdk_52_method_21_code (7 : Nat) (Option.some Jvm.ClassFile.FieldType.int)).before a0 Z = true := hw _ (List.mem_of_getElem? (i := 23) rfl)
theorem w24 {Z : State} {a0 : Array Value} (hw : oHw Z a0) : (Jvm.Cond.methodLink z0 (47 : Nat) ({ cls := z15, name := "coderFromArrayLen", desc := "([BI)B" } : Jvm.MethodName)).before a0 Z = true := hw _ (List.mem_of_getElem? (i := 24) rfl)
theorem w25 {Z : State} {a0 : Array Value} (hw : oHw Z a0) : (Jvm.Cond.static ({ cls := z15, name := "coderFromArrayLen", desc := "([BI)B" } : Jvm.MethodName)).before a0 Z = true := hw _ (List.mem_of_getElem? (i := 25) rfl)
theorem w26 {Z : State} {a0 : Array Value} (hw : oHw Z a0) : (Jvm.Cond.code ({ cls := z15, name := "coderFromArrayLen", desc := "([BI)B" } : Jvm.MethodName) jdk_52_method_15_code (2 : Nat) (Option.some Jvm.ClassFile.FieldType.byte)).before a0 Z = true := hw _ (List.mem_of_getElem? (i := 26) rfl)
theorem w27 {Z : State} {a0 : Array Value} (hw : oHw Z a0) : (Jvm.Cond.fieldLink z0 (15 : Nat) z0 "coder" "B").before a0 Z = true := hw _ (List.mem_of_getElem? (i := 27) rfl)
theorem w28 {Z : State} {a0 : Array Value} (hw : oHw Z a0) : (Jvm.Cond.laysFinal z0 z0 "coder" "B").before a0 Z = true := hw _ (List.mem_of_getElem? (i := 28) rfl)
theorem w29 {Z : State} {a0 : Array Value} (hw : oHw Z a0) : (Jvm.Cond.fieldLink z0 (9 : Nat) z0 "value" "[B").before a0 Z = true := hw _ (List.mem_of_getElem? (i := 29) rfl)
theorem w30 {Z : State} {a0 : Array Value} (hw : oHw Z a0) : (Jvm.Cond.laysFinal z0 z0 "value" "[B").before a0 Z = true := hw _ (List.mem_of_getElem? (i := 30) rfl)
theorem w31 {Z : State} {a0 : Array Value} (hw : oHw Z a0) : (Jvm.Cond.methodLink z16 (14 : Nat) ({ cls := z2, name := "read", desc := z12 } : Jvm.MethodName)).before a0 Z = true := hw _ (List.mem_of_getElem? (i := 31) rfl)
theorem w32 {Z : State} {a0 : Array Value} (hw : oHw Z a0) : (Jvm.Cond.static ({ cls := z2, name := "read", desc := z12 } : Jvm.MethodName)).before a0 Z = true := hw _ (List.mem_of_getElem? (i := 32) rfl)
theorem w33 {Z : State} {a0 : Array Value} (hw : oHw Z a0) : (Jvm.Cond.initialized z2).before a0 Z = true := hw _ (List.mem_of_getElem? (i := 33) rfl)
theorem w34 {Z : State} {a0 : Array Value} (hw : oHw Z a0) : (Jvm.Cond.code ({ cls := z2, name := "read", desc := z12 } : Jvm.MethodName) prog_30_method_2_code (5 : Nat) (Option.some (Jvm.ClassFile.FieldType.object z3))).before a0 Z = true := hw _ (List.mem_of_getElem? (i := 34) rfl)
theorem w35 {Z : State} {a0 : Array Value} (hw : oHw Z a0) : (Jvm.Cond.classLink z2 (17 : Nat) z4).before a0 Z = true := hw _ (List.mem_of_getElem? (i := 35) rfl)
theorem w36 {Z : State} {a0 : Array Value} (hw : oHw Z a0) : (Jvm.Cond.instantiable z4 (4 : Nat)).before a0 Z = true := hw _ (List.mem_of_getElem? (i := 36) rfl)
theorem w37 {Z : State} {a0 : Array Value} (hw : oHw Z a0) : (Jvm.Cond.initialized z4).before a0 Z = true := hw _ (List.mem_of_getElem? (i := 37) rfl)
theorem w38 {Z : State} {a0 : Array Value} (hw : oHw Z a0) : (Jvm.Cond.methodLink z2 (19 : Nat) ({ cls := z4, name := "<init>", desc := "()V" } : Jvm.MethodName)).before a0 Z = true := hw _ (List.mem_of_getElem? (i := 38) rfl)
theorem w39 {Z : State} {a0 : Array Value} (hw : oHw Z a0) : (Jvm.Cond.instanceMethod ({ cls := z4, name := "<init>", desc := "()V" } : Jvm.MethodName)).before a0 Z = true := hw _ (List.mem_of_getElem? (i := 39) rfl)
theorem w40 {Z : State} {a0 : Array Value} (hw : oHw Z a0) : (Jvm.Cond.code ({ cls := z4, name := "<init>", desc := "()V" } : Jvm.MethodName) jdk_67_method_1_code (1 : Nat) (Option.none : Option Jvm.ClassFile.FieldType)).before a0 Z = true := hw _ (List.mem_of_getElem? (i := 40) rfl)
theorem w41 {Z : State} {a0 : Array Value} (hw : oHw Z a0) : (Jvm.Cond.methodLink z4 (1 : Nat) ({ cls := z1, name := "<init>", desc := "(I)V" } : Jvm.MethodName)).before a0 Z = true := hw _ (List.mem_of_getElem? (i := 41) rfl)
theorem w42 {Z : State} {a0 : Array Value} (hw : oHw Z a0) : (Jvm.Cond.instanceMethod ({ cls := z1, name := "<init>", desc := "(I)V" } : Jvm.MethodName)).before a0 Z = true := hw _ (List.mem_of_getElem? (i := 42) rfl)
theorem w45 {Z : State} {a0 : Array Value} (hw : oHw Z a0) : (Jvm.Cond.initialized z1).before a0 Z = true := hw _ (List.mem_of_getElem? (i := 45) rfl)
theorem w46 {Z : State} {a0 : Array Value} (hw : oHw Z a0) : (Jvm.Cond.code ({ cls := z1, name := "<init>", desc := "(I)V" } : Jvm.MethodName) jdk_68_method_2_code (2 : Nat) (Option.none : Option Jvm.ClassFile.FieldType)).before a0 Z = true := hw _ (List.mem_of_getElem? (i := 46) rfl)
theorem w47 {Z : State} {a0 : Array Value} (hw : oHw Z a0) : (Jvm.Cond.methodLink z1 (3 : Nat) ({ cls := "java/lang/Object", name := "<init>", desc := "()V" } : Jvm.MethodName)).before a0 Z = true := hw _ (List.mem_of_getElem? (i := 47) rfl)
theorem w48 {Z : State} {a0 : Array Value} (hw : oHw Z a0) : (Jvm.Cond.fieldLink z1 (18 : Nat) z0 z5 "Z").before a0 Z = true := hw _ (List.mem_of_getElem? (i := 48) rfl)
theorem w49 {Z : State} {a0 : Array Value} (hw : oHw Z a0) : (Jvm.Cond.fieldLink z1 (15 : Nat) z1 "value" "[B").before a0 Z = true := hw _ (List.mem_of_getElem? (i := 49) rfl)
theorem w50 {Z : State} {a0 : Array Value} (hw : oHw Z a0) : (Jvm.Cond.lays z4 z1 "value" "[B").before a0 Z = true := hw _ (List.mem_of_getElem? (i := 50) rfl)
theorem w51 {Z : State} {a0 : Array Value} (hw : oHw Z a0) : (Jvm.Cond.fieldLink z1 (22 : Nat) z1 "coder" "B").before a0 Z = true := hw _ (List.mem_of_getElem? (i := 51) rfl)
theorem w52 {Z : State} {a0 : Array Value} (hw : oHw Z a0) : (Jvm.Cond.lays z4 z1 "coder" "B").before a0 Z = true := hw _ (List.mem_of_getElem? (i := 52) rfl)
theorem w53 {Z : State} {a0 : Array Value} (hw : oHw Z a0) : (Jvm.Cond.methodLink z2 (20 : Nat) ({ cls := z0, name := "length", desc := "()I" } : Jvm.MethodName)).before a0 Z = true := hw _ (List.mem_of_getElem? (i := 53) rfl)
theorem w54 {Z : State} {a0 : Array Value} (hw : oHw Z a0) : (Jvm.Cond.declares ({ cls := z0, name := "length", desc := "()I" } : Jvm.MethodName)).before a0 Z = true := hw _ (List.mem_of_getElem? (i := 54) rfl)
theorem w55 {Z : State} {a0 : Array Value} (hw : oHw Z a0) : (Jvm.Cond.instanceMethod ({ cls := z0, name := "length", desc := "()I" } : Jvm.MethodName)).before a0 Z = true := hw _ (List.mem_of_getElem? (i := 55) rfl)
theorem w56 {Z : State} {a0 : Array Value} (hw : oHw Z a0) : (Jvm.Cond.selects z0 ({ cls := z0, name := "length", desc := "()I" } : Jvm.MethodName) ({ cls := z0, name := "length", desc := "()I" } : Jvm.MethodName)).before a0 Z = true := hw _ (List.mem_of_getElem? (i := 56) rfl)
theorem w57 {Z : State} {a0 : Array Value} (hw : oHw Z a0) : (Jvm.Cond.code ({ cls := z0, name := "length", desc := "()I" } : Jvm.MethodName) jdk_42_method_54_code (1 : Nat) (Option.some Jvm.ClassFile.FieldType.int)).before a0 Z = true := hw _ (List.mem_of_getElem? (i := 57) rfl)
theorem w58 {Z : State} {a0 : Array Value} (hw : oHw Z a0) : (Jvm.Cond.methodLink z0 (335 : Nat) ({ cls := z0, name := "coder", desc := "()B" } : Jvm.MethodName)).before a0 Z = true := hw _ (List.mem_of_getElem? (i := 58) rfl)
theorem w59 {Z : State} {a0 : Array Value} (hw : oHw Z a0) : (Jvm.Cond.declares ({ cls := z0, name := "coder", desc := "()B" } : Jvm.MethodName)).before a0 Z = true := hw _ (List.mem_of_getElem? (i := 59) rfl)
theorem w60 {Z : State} {a0 : Array Value} (hw : oHw Z a0) : (Jvm.Cond.instanceMethod ({ cls := z0, name := "coder", desc := "()B" } : Jvm.MethodName)).before a0 Z = true := hw _ (List.mem_of_getElem? (i := 60) rfl)
theorem w61 {Z : State} {a0 : Array Value} (hw : oHw Z a0) : (Jvm.Cond.selects z0 ({ cls := z0, name := "coder", desc := "()B" } : Jvm.MethodName) ({ cls := z0, name := "coder", desc := "()B" } : Jvm.MethodName)).before a0 Z = true := hw _ (List.mem_of_getElem? (i := 61) rfl)
theorem w62 {Z : State} {a0 : Array Value} (hw : oHw Z a0) : (Jvm.Cond.code ({ cls := z0, name := "coder", desc := "()B" } : Jvm.MethodName) jdk_42_method_152_code (1 : Nat) (Option.some Jvm.ClassFile.FieldType.byte)).before a0 Z = true := hw _ (List.mem_of_getElem? (i := 62) rfl)
theorem w63 {Z : State} {a0 : Array Value} (hw : oHw Z a0) : (Jvm.Cond.methodLink z2 (47 : Nat) ({ cls := z3, name := "empty", desc := "()Ljava/util/Optional;" } : Jvm.MethodName)).before a0 Z = true := hw _ (List.mem_of_getElem? (i := 63) rfl)
theorem w64 {Z : State} {a0 : Array Value} (hw : oHw Z a0) : (Jvm.Cond.static ({ cls := z3, name := "empty", desc := "()Ljava/util/Optional;" } : Jvm.MethodName)).before a0 Z = true := hw _ (List.mem_of_getElem? (i := 64) rfl)
theorem w65 {Z : State} {a0 : Array Value} (hw : oHw Z a0) : (Jvm.Cond.initialized z3).before a0 Z = true := hw _ (List.mem_of_getElem? (i := 65) rfl)
theorem w66 {Z : State} {a0 : Array Value} (hw : oHw Z a0) : (Jvm.Cond.code ({ cls := z3, name := "empty", desc := "()Ljava/util/Optional;" } : Jvm.MethodName) jdk_32_method_1_code (1 : Nat) (Option.some (Jvm.ClassFile.FieldType.object z3))).before a0 Z = true := hw _ (List.mem_of_getElem? (i := 66) rfl)
theorem w67 {Z : State} {a0 : Array Value} (hw : oHw Z a0) : (Jvm.Cond.fieldLink z3 (1 : Nat) z3 "EMPTY" z14).before a0 Z = true := hw _ (List.mem_of_getElem? (i := 67) rfl)
theorem w68 {Z : State} {a0 : Array Value} (hw : oHw Z a0) : (Jvm.Cond.methodLink z16 (20 : Nat) ({ cls := z3, name := "isPresent", desc := "()Z" } : Jvm.MethodName)).before a0 Z = true := hw _ (List.mem_of_getElem? (i := 68) rfl)
theorem w69 {Z : State} {a0 : Array Value} (hw : oHw Z a0) : (Jvm.Cond.declares ({ cls := z3, name := "isPresent", desc := "()Z" } : Jvm.MethodName)).before a0 Z = true := hw _ (List.mem_of_getElem? (i := 69) rfl)
theorem w70 {Z : State} {a0 : Array Value} (hw : oHw Z a0) : (Jvm.Cond.instanceMethod ({ cls := z3, name := "isPresent", desc := "()Z" } : Jvm.MethodName)).before a0 Z = true := hw _ (List.mem_of_getElem? (i := 70) rfl)
theorem w71 {Z : State} {a0 : Array Value} (hw : oHw Z a0) : (Jvm.Cond.selects z3 ({ cls := z3, name := "isPresent", desc := "()Z" } : Jvm.MethodName) ({ cls := z3, name := "isPresent", desc := "()Z" } : Jvm.MethodName)).before a0 Z = true := hw _ (List.mem_of_getElem? (i := 71) rfl)
theorem w72 {Z : State} {a0 : Array Value} (hw : oHw Z a0) : (Jvm.Cond.code ({ cls := z3, name := "isPresent", desc := "()Z" } : Jvm.MethodName) jdk_32_method_6_code (1 : Nat) (Option.some Jvm.ClassFile.FieldType.boolean)).before a0 Z = true := hw _ (List.mem_of_getElem? (i := 72) rfl)
theorem w73 {Z : State} {a0 : Array Value} (hw : oHw Z a0) : (Jvm.Cond.fieldLink z3 (13 : Nat) z3 "value" z11).before a0 Z = true := hw _ (List.mem_of_getElem? (i := 73) rfl)
theorem w74 {Z : State} {a0 : Array Value} (hw : oHw Z a0) : (Jvm.Cond.laysFinal z3 z3 "value" z11).before a0 Z = true := hw _ (List.mem_of_getElem? (i := 74) rfl)
theorem w75 {Z : State} {a0 : Array Value} (hw : oHw Z a0) : (Jvm.Cond.methodLink z2 (26 : Nat) ({ cls := z0, name := "charAt", desc := "(I)C" } : Jvm.MethodName)).before a0 Z = true := hw _ (List.mem_of_getElem? (i := 75) rfl)
theorem w76 {Z : State} {a0 : Array Value} (hw : oHw Z a0) : (Jvm.Cond.declares ({ cls := z0, name := "charAt", desc := "(I)C" } : Jvm.MethodName)).before a0 Z = true := hw _ (List.mem_of_getElem? (i := 76) rfl)
theorem w77 {Z : State} {a0 : Array Value} (hw : oHw Z a0) : (Jvm.Cond.instanceMethod ({ cls := z0, name := "charAt", desc := "(I)C" } : Jvm.MethodName)).before a0 Z = true := hw _ (List.mem_of_getElem? (i := 77) rfl)
theorem w78 {Z : State} {a0 : Array Value} (hw : oHw Z a0) : (Jvm.Cond.selects z0 ({ cls := z0, name := "charAt", desc := "(I)C" } : Jvm.MethodName) ({ cls := z0, name := "charAt", desc := "(I)C" } : Jvm.MethodName)).before a0 Z = true := hw _ (List.mem_of_getElem? (i := 78) rfl)
theorem w79 {Z : State} {a0 : Array Value} (hw : oHw Z a0) : (Jvm.Cond.code ({ cls := z0, name := "charAt", desc := "(I)C" } : Jvm.MethodName) jdk_42_method_56_code (2 : Nat) (Option.some Jvm.ClassFile.FieldType.char)).before a0 Z = true := hw _ (List.mem_of_getElem? (i := 79) rfl)
theorem w80 {Z : State} {a0 : Array Value} (hw : oHw Z a0) : (Jvm.Cond.methodLink z0 (492 : Nat) ({ cls := z0, name := "isLatin1", desc := "()Z" } : Jvm.MethodName)).before a0 Z = true := hw _ (List.mem_of_getElem? (i := 80) rfl)
theorem w81 {Z : State} {a0 : Array Value} (hw : oHw Z a0) : (Jvm.Cond.declares ({ cls := z0, name := "isLatin1", desc := "()Z" } : Jvm.MethodName)).before a0 Z = true := hw _ (List.mem_of_getElem? (i := 81) rfl)
theorem w82 {Z : State} {a0 : Array Value} (hw : oHw Z a0) : (Jvm.Cond.instanceMethod ({ cls := z0, name := "isLatin1", desc := "()Z" } : Jvm.MethodName)).before a0 Z = true := hw _ (List.mem_of_getElem? (i := 82) rfl)
theorem w83 {Z : State} {a0 : Array Value} (hw : oHw Z a0) : (Jvm.Cond.selects z0 ({ cls := z0, name := "isLatin1", desc := "()Z" } : Jvm.MethodName) ({ cls := z0, name := "isLatin1", desc := "()Z" } : Jvm.MethodName)).before a0 Z = true := hw _ (List.mem_of_getElem? (i := 83) rfl)
theorem w84 {Z : State} {a0 : Array Value} (hw : oHw Z a0) : (Jvm.Cond.code ({ cls := z0, name := "isLatin1", desc := "()Z" } : Jvm.MethodName) jdk_42_method_154_code (1 : Nat) (Option.some Jvm.ClassFile.FieldType.boolean)).before a0 Z = true := hw _ (List.mem_of_getElem? (i := 84) rfl)
theorem w85 {Z : State} {a0 : Array Value} (hw : oHw Z a0) : (Jvm.Cond.methodLink z0 (495 : Nat) ({ cls := z9, name := "charAt", desc := "([BI)C" } : Jvm.MethodName)).before a0 Z = true := hw _ (List.mem_of_getElem? (i := 85) rfl)
theorem w86 {Z : State} {a0 : Array Value} (hw : oHw Z a0) : (Jvm.Cond.static ({ cls := z9, name := "charAt", desc := "([BI)C" } : Jvm.MethodName)).before a0 Z = true := hw _ (List.mem_of_getElem? (i := 86) rfl)
theorem w87 {Z : State} {a0 : Array Value} (hw : oHw Z a0) : (Jvm.Cond.initialized z9).before a0 Z = true := hw _ (List.mem_of_getElem? (i := 87) rfl)
theorem w88 {Z : State} {a0 : Array Value} (hw : oHw Z a0) : (Jvm.Cond.code ({ cls := z9, name := "charAt", desc := "([BI)C" } : Jvm.MethodName) jdk_43_method_2_code (2 : Nat) (Option.some Jvm.ClassFile.FieldType.char)).before a0 Z = true := hw _ (List.mem_of_getElem? (i := 88) rfl)
theorem w89 {Z : State} {a0 : Array Value} (hw : oHw Z a0) : (Jvm.Cond.methodLink z9 (9 : Nat) ({ cls := z0, name := "checkIndex", desc := "(II)V" } : Jvm.MethodName)).before a0 Z = true := hw _ (List.mem_of_getElem? (i := 89) rfl)
theorem w90 {Z : State} {a0 : Array Value} (hw : oHw Z a0) : (Jvm.Cond.static ({ cls := z0, name := "checkIndex", desc := "(II)V" } : Jvm.MethodName)).before a0 Z = true := hw _ (List.mem_of_getElem? (i := 90) rfl)
theorem w91 {Z : State} {a0 : Array Value} (hw : oHw Z a0) : (Jvm.Cond.code ({ cls := z0, name := "checkIndex", desc := "(II)V" } : Jvm.MethodName) jdk_42_method_155_code (2 : Nat) (Option.none : Option Jvm.ClassFile.FieldType)).before a0 Z = true := hw _ (List.mem_of_getElem? (i := 91) rfl)
theorem w92 {Z : State} {a0 : Array Value} (hw : oHw Z a0) : (Jvm.Cond.fieldLink z0 (1053 : Nat) z6 z7 z8).before a0 Z = true := hw _ (List.mem_of_getElem? (i := 92) rfl)
theorem w93 {Z : State} {a0 : Array Value} (hw : oHw Z a0) : (Jvm.Cond.initialized z6).before a0 Z = true := hw _ (List.mem_of_getElem? (i := 93) rfl)
theorem w94 {Z : State} {a0 : Array Value} (hw : oHw Z a0) : (Jvm.Cond.methodLink z0 (1059 : Nat) ({ cls := z6, name := "checkIndex", desc := "(IILjava/util/function/BiFunction;)I" } : Jvm.MethodName)).before a0 Z = true := hw _ (List.mem_of_getElem? (i := 94) rfl)
theorem w95 {Z : State} {a0 : Array Value} (hw : oHw Z a0) : (Jvm.Cond.static ({ cls := z6, name := "checkIndex", desc := "(IILjava/util/function/BiFunction;)I" } : Jvm.MethodName)).before a0 Z = true := hw _ (List.mem_of_getElem? (i := 95) rfl)
theorem w96 {Z : State} {a0 : Array Value} (hw : oHw Z a0) : (Jvm.Cond.code ({ cls := z6, name := "checkIndex", desc := "(IILjava/util/function/BiFunction;)I" } : Jvm.MethodName) jdk_41_method_11_code (3 : Nat) (Option.some Jvm.ClassFile.FieldType.int)).before a0 Z = true := hw _ (List.mem_of_getElem? (i := 96) rfl)
theorem w97 {Z : State} {a0 : Array Value} (hw : oHw Z a0) : (Jvm.Cond.methodLink z2 (30 : Nat) ({ cls := z4, name := "append", desc := "(C)Ljava/lang/StringBuilder;" } : Jvm.MethodName)).before a0 Z = true := hw _ (List.mem_of_getElem? (i := 97) rfl)
theorem w98 {Z : State} {a0 : Array Value} (hw : oHw Z a0) : (Jvm.Cond.declares ({ cls := z4, name := "append", desc := "(C)Ljava/lang/StringBuilder;" } : Jvm.MethodName)).before a0 Z = true := hw _ (List.mem_of_getElem? (i := 98) rfl)
theorem w99 {Z : State} {a0 : Array Value} (hw : oHw Z a0) : (Jvm.Cond.instanceMethod ({ cls := z4, name := "append", desc := "(C)Ljava/lang/StringBuilder;" } : Jvm.MethodName)).before a0 Z = true := hw _ (List.mem_of_getElem? (i := 99) rfl)
theorem w100 {Z : State} {a0 : Array Value} (hw : oHw Z a0) : (Jvm.Cond.selects z4 ({ cls := z4, name := "append", desc := "(C)Ljava/lang/StringBuilder;" } : Jvm.MethodName) ({ cls := z4, name := "append", desc := "(C)Ljava/lang/StringBuilder;" } : Jvm.MethodName)).before a0 Z = true := hw _ (List.mem_of_getElem? (i := 100) rfl)
theorem w101 {Z : State} {a0 : Array Value} (hw : oHw Z a0) : (Jvm.Cond.code ({ cls := z4, name := "append", desc := "(C)Ljava/lang/StringBuilder;" } : Jvm.MethodName) jdk_67_method_14_code (2 : Nat) (Option.some (Jvm.ClassFile.FieldType.object z4))).before a0 Z = true := hw _ (List.mem_of_getElem? (i := 101) rfl)
theorem w102 {Z : State} {a0 : Array Value} (hw : oHw Z a0) : (Jvm.Cond.methodLink z4 (50 : Nat) ({ cls := z1, name := "append", desc := "(C)Ljava/lang/AbstractStringBuilder;" } : Jvm.MethodName)).before a0 Z = true := hw _ (List.mem_of_getElem? (i := 102) rfl)
theorem w103 {Z : State} {a0 : Array Value} (hw : oHw Z a0) : (Jvm.Cond.instanceMethod ({ cls := z1, name := "append", desc := "(C)Ljava/lang/AbstractStringBuilder;" } : Jvm.MethodName)).before a0 Z = true := hw _ (List.mem_of_getElem? (i := 103) rfl)
theorem w104 {Z : State} {a0 : Array Value} (hw : oHw Z a0) : (Jvm.Cond.superclass z4 z1).before a0 Z = true := hw _ (List.mem_of_getElem? (i := 104) rfl)
theorem w105 {Z : State} {a0 : Array Value} (hw : oHw Z a0) : (Jvm.Cond.declares ({ cls := z1, name := "append", desc := "(C)Ljava/lang/AbstractStringBuilder;" } : Jvm.MethodName)).before a0 Z = true := hw _ (List.mem_of_getElem? (i := 105) rfl)
theorem w106 {Z : State} {a0 : Array Value} (hw : oHw Z a0) : (Jvm.Cond.code ({ cls := z1, name := "append", desc := "(C)Ljava/lang/AbstractStringBuilder;" } : Jvm.MethodName) jdk_68_method_31_code (2 : Nat) (Option.some (Jvm.ClassFile.FieldType.object z1))).before a0 Z = true := hw _ (List.mem_of_getElem? (i := 106) rfl)
theorem w107 {Z : State} {a0 : Array Value} (hw : oHw Z a0) : (Jvm.Cond.fieldLink z1 (79 : Nat) z1 "count" "I").before a0 Z = true := hw _ (List.mem_of_getElem? (i := 107) rfl)
theorem w108 {Z : State} {a0 : Array Value} (hw : oHw Z a0) : (Jvm.Cond.lays z4 z1 "count" "I").before a0 Z = true := hw _ (List.mem_of_getElem? (i := 108) rfl)
theorem w109 {Z : State} {a0 : Array Value} (hw : oHw Z a0) : (Jvm.Cond.methodLink z1 (100 : Nat) ({ cls := z1, name := "ensureCapacityInternal", desc := "(I)V" } : Jvm.MethodName)).before a0 Z = true := hw _ (List.mem_of_getElem? (i := 109) rfl)
theorem w110 {Z : State} {a0 : Array Value} (hw : oHw Z a0) : (Jvm.Cond.instanceMethod ({ cls := z1, name := "ensureCapacityInternal", desc := "(I)V" } : Jvm.MethodName)).before a0 Z = true := hw _ (List.mem_of_getElem? (i := 110) rfl)
theorem w111 {Z : State} {a0 : Array Value} (hw : oHw Z a0) : (Jvm.Cond.privateMethod ({ cls := z1, name := "ensureCapacityInternal", desc := "(I)V" } : Jvm.MethodName)).before a0 Z = true := hw _ (List.mem_of_getElem? (i := 111) rfl)
theorem w112 {Z : State} {a0 : Array Value} (hw : oHw Z a0) : (Jvm.Cond.selects z4 ({ cls := z1, name := "ensureCapacityInternal", desc := "(I)V" } : Jvm.MethodName) ({ cls := z1, name := "ensureCapacityInternal", desc := "(I)V" } : Jvm.MethodName)).before a0 Z = true := hw _ (List.mem_of_getElem? (i := 112) rfl)
theorem w113 {Z : State} {a0 : Array Value} (hw : oHw Z a0) : (Jvm.Cond.code ({ cls := z1, name := "ensureCapacityInternal", desc := "(I)V" } : Jvm.MethodName) jdk_68_method_9_code (3 : Nat) (Option.none : Option Jvm.ClassFile.FieldType)).before a0 Z = true := hw _ (List.mem_of_getElem? (i := 113) rfl)
theorem w114 {Z : State} {a0 : Array Value} (hw : oHw Z a0) : (Jvm.Cond.methodLink z1 (83 : Nat) ({ cls := z1, name := "isLatin1", desc := "()Z" } : Jvm.MethodName)).before a0 Z = true := hw _ (List.mem_of_getElem? (i := 114) rfl)
theorem w115 {Z : State} {a0 : Array Value} (hw : oHw Z a0) : (Jvm.Cond.declares ({ cls := z1, name := "isLatin1", desc := "()Z" } : Jvm.MethodName)).before a0 Z = true := hw _ (List.mem_of_getElem? (i := 115) rfl)
theorem w116 {Z : State} {a0 : Array Value} (hw : oHw Z a0) : (Jvm.Cond.instanceMethod ({ cls := z1, name := "isLatin1", desc := "()Z" } : Jvm.MethodName)).before a0 Z = true := hw _ (List.mem_of_getElem? (i := 116) rfl)
theorem w117 {Z : State} {a0 : Array Value} (hw : oHw Z a0) : (Jvm.Cond.selects z4 ({ cls := z1, name := "isLatin1", desc := "()Z" } : Jvm.MethodName) ({ cls := z1, name := "isLatin1", desc := "()Z" } : Jvm.MethodName)).before a0 Z = true := hw _ (List.mem_of_getElem? (i := 117) rfl)
theorem w118 {Z : State} {a0 : Array Value} (hw : oHw Z a0) : (Jvm.Cond.code ({ cls := z1, name := "isLatin1", desc := "()Z" } : Jvm.MethodName) jdk_68_method_68_code (1 : Nat) (Option.some Jvm.ClassFile.FieldType.boolean)).before a0 Z = true := hw _ (List.mem_of_getElem? (i := 118) rfl)
theorem w119 {Z : State} {a0 : Array Value} (hw : oHw Z a0) : (Jvm.Cond.methodLink z1 (191 : Nat) ({ cls := z9, name := "canEncode", desc := "(C)Z" } : Jvm.MethodName)).before a0 Z = true := hw _ (List.mem_of_getElem? (i := 119) rfl)
theorem w120 {Z : State} {a0 : Array Value} (hw : oHw Z a0) : (Jvm.Cond.static ({ cls := z9, name := "canEncode", desc := "(C)Z" } : Jvm.MethodName)).before a0 Z = true := hw _ (List.mem_of_getElem? (i := 120) rfl)
theorem w121 {Z : State} {a0 : Array Value} (hw : oHw Z a0) : (Jvm.Cond.code ({ cls := z9, name := "canEncode", desc := "(C)Z" } : Jvm.MethodName) jdk_43_method_3_code (1 : Nat) (Option.some Jvm.ClassFile.FieldType.boolean)).before a0 Z = true := hw _ (List.mem_of_getElem? (i := 121) rfl)
theorem w122 {Z : State} {a0 : Array Value} (hw : oHw Z a0) : (Jvm.Cond.classLink z2 (8 : Nat) z2).before a0 Z = true := hw _ (List.mem_of_getElem? (i := 122) rfl)
theorem w123 {Z : State} {a0 : Array Value} (hw : oHw Z a0) : (Jvm.Cond.instantiable z2 (2 : Nat)).before a0 Z = true := hw _ (List.mem_of_getElem? (i := 123) rfl)
theorem w124 {Z : State} {a0 : Array Value} (hw : oHw Z a0) : (Jvm.Cond.methodLink z2 (34 : Nat) ({ cls := z4, name := "toString", desc := "()Ljava/lang/String;" } : Jvm.MethodName)).before a0 Z = true := hw _ (List.mem_of_getElem? (i := 124) rfl)
theorem w125 {Z : State} {a0 : Array Value} (hw : oHw Z a0) : (Jvm.Cond.declares ({ cls := z4, name := "toString", desc := "()Ljava/lang/String;" } : Jvm.MethodName)).before a0 Z = true := hw _ (List.mem_of_getElem? (i := 125) rfl)
theorem w126 {Z : State} {a0 : Array Value} (hw : oHw Z a0) : (Jvm.Cond.instanceMethod ({ cls := z4, name := "toString", desc := "()Ljava/lang/String;" } : Jvm.MethodName)).before a0 Z = true := hw _ (List.mem_of_getElem? (i := 126) rfl)
theorem w127 {Z : State} {a0 : Array Value} (hw : oHw Z a0) : (Jvm.Cond.selects z4 ({ cls := z4, name := "toString", desc := "()Ljava/lang/String;" } : Jvm.MethodName) ({ cls := z4, name := "toString", desc := "()Ljava/lang/String;" } : Jvm.MethodName)).before a0 Z = true := hw _ (List.mem_of_getElem? (i := 127) rfl)
theorem w128 {Z : State} {a0 : Array Value} (hw : oHw Z a0) : (Jvm.Cond.code ({ cls := z4, name := "toString", desc := "()Ljava/lang/String;" } : Jvm.MethodName) jdk_67_method_42_code (1 : Nat) (Option.some (Jvm.ClassFile.FieldType.object z0))).before a0 Z = true := hw _ (List.mem_of_getElem? (i := 128) rfl)
theorem w129 {Z : State} {a0 : Array Value} (hw : oHw Z a0) : (Jvm.Cond.classLink z4 (18 : Nat) z0).before a0 Z = true := hw _ (List.mem_of_getElem? (i := 129) rfl)
theorem w130 {Z : State} {a0 : Array Value} (hw : oHw Z a0) : (Jvm.Cond.methodLink z4 (137 : Nat) ({ cls := z0, name := "<init>", desc := "(Ljava/lang/StringBuilder;)V" } : Jvm.MethodName)).before a0 Z = true := hw _ (List.mem_of_getElem? (i := 130) rfl)
theorem w131 {Z : State} {a0 : Array Value} (hw : oHw Z a0) : (Jvm.Cond.instanceMethod ({ cls := z0, name := "<init>", desc := "(Ljava/lang/StringBuilder;)V" } : Jvm.MethodName)).before a0 Z = true := hw _ (List.mem_of_getElem? (i := 131) rfl)
theorem w132 {Z : State} {a0 : Array Value} (hw : oHw Z a0) : (Jvm.Cond.code ({ cls := z0, name := "<init>", desc := "(Ljava/lang/StringBuilder;)V" } : Jvm.MethodName) jdk_42_method_53_code (2 : Nat) (Option.none : Option Jvm.ClassFile.FieldType)).before a0 Z = true := hw _ (List.mem_of_getElem? (i := 132) rfl)
theorem w133 {Z : State} {a0 : Array Value} (hw : oHw Z a0) : (Jvm.Cond.methodLink z0 (489 : Nat) ({ cls := z0, name := "<init>", desc := z17 } : Jvm.MethodName)).before a0 Z = true := hw _ (List.mem_of_getElem? (i := 133) rfl)
theorem w134 {Z : State} {a0 : Array Value} (hw : oHw Z a0) : (Jvm.Cond.instanceMethod ({ cls := z0, name := "<init>", desc := z17 } : Jvm.MethodName)).before a0 Z = true := hw _ (List.mem_of_getElem? (i := 134) rfl)
theorem w135 {Z : State} {a0 : Array Value} (hw : oHw Z a0) : (Jvm.Cond.code ({ cls := z0, name := "<init>", desc := z17 } : Jvm.MethodName) jdk_42_method_150_code (5 : Nat) (Option.none : Option Jvm.ClassFile.FieldType)).before a0 Z = true := hw _ (List.mem_of_getElem? (i := 135) rfl)
theorem w136 {Z : State} {a0 : Array Value} (hw : oHw Z a0) : (Jvm.Cond.methodLink z0 (552 : Nat) ({ cls := z1, name := "getValue", desc := "()[B" } : Jvm.MethodName)).before a0 Z = true := hw _ (List.mem_of_getElem? (i := 136) rfl)
theorem w137 {Z : State} {a0 : Array Value} (hw : oHw Z a0) : (Jvm.Cond.declares ({ cls := z1, name := "getValue", desc := "()[B" } : Jvm.MethodName)).before a0 Z = true := hw _ (List.mem_of_getElem? (i := 137) rfl)
theorem w138 {Z : State} {a0 : Array Value} (hw : oHw Z a0) : (Jvm.Cond.instanceMethod ({ cls := z1, name := "getValue", desc := "()[B" } : Jvm.MethodName)).before a0 Z = true := hw _ (List.mem_of_getElem? (i := 138) rfl)
theorem w139 {Z : State} {a0 : Array Value} (hw : oHw Z a0) : (Jvm.Cond.selects z4 ({ cls := z1, name := "getValue", desc := "()[B" } : Jvm.MethodName) ({ cls := z1, name := "getValue", desc := "()[B" } : Jvm.MethodName)).before a0 Z = true := hw _ (List.mem_of_getElem? (i := 139) rfl)
theorem w140 {Z : State} {a0 : Array Value} (hw : oHw Z a0) : (Jvm.Cond.code ({ cls := z1, name := "getValue", desc := "()[B" } : Jvm.MethodName) jdk_68_method_64_code (1 : Nat) (Option.some (Jvm.ClassFile.FieldType.array Jvm.ClassFile.FieldType.byte))).before a0 Z = true := hw _ (List.mem_of_getElem? (i := 140) rfl)
theorem w141 {Z : State} {a0 : Array Value} (hw : oHw Z a0) : (Jvm.Cond.methodLink z0 (549 : Nat) ({ cls := z1, name := "length", desc := "()I" } : Jvm.MethodName)).before a0 Z = true := hw _ (List.mem_of_getElem? (i := 141) rfl)
theorem w142 {Z : State} {a0 : Array Value} (hw : oHw Z a0) : (Jvm.Cond.declares ({ cls := z1, name := "length", desc := "()I" } : Jvm.MethodName)).before a0 Z = true := hw _ (List.mem_of_getElem? (i := 142) rfl)
theorem w143 {Z : State} {a0 : Array Value} (hw : oHw Z a0) : (Jvm.Cond.instanceMethod ({ cls := z1, name := "length", desc := "()I" } : Jvm.MethodName)).before a0 Z = true := hw _ (List.mem_of_getElem? (i := 143) rfl)
theorem w144 {Z : State} {a0 : Array Value} (hw : oHw Z a0) : (Jvm.Cond.selects z4 ({ cls := z1, name := "length", desc := "()I" } : Jvm.MethodName) ({ cls := z4, name := "length", desc := "()I" } : Jvm.MethodName)).before a0 Z = true := hw _ (List.mem_of_getElem? (i := 144) rfl)
theorem w145 {Z : State} {a0 : Array Value} (hw : oHw Z a0) : (Jvm.Cond.instanceMethod ({ cls := z4, name := "length", desc := "()I" } : Jvm.MethodName)).before a0 Z = true := hw _ (List.mem_of_getElem? (i := 145) rfl)
theorem w146 {Z : State} {a0 : Array Value} (hw : oHw Z a0) : (Jvm.Cond.code ({ cls := z4, name := "length", desc := "()I" } : Jvm.MethodName) jdk_67_method_93_code (1 : Nat) (Option.some Jvm.ClassFile.FieldType.int)).before a0 Z = true := hw _ (List.mem_of_getElem? (i := 146) rfl)
theorem w147 {Z : State} {a0 : Array Value} (hw : oHw Z a0) : (Jvm.Cond.methodLink z4 (343 : Nat) ({ cls := z1, name := "length", desc := "()I" } : Jvm.MethodName)).before a0 Z = true := hw _ (List.mem_of_getElem? (i := 147) rfl)
theorem w148 {Z : State} {a0 : Array Value} (hw : oHw Z a0) : (Jvm.Cond.code ({ cls := z1, name := "length", desc := "()I" } : Jvm.MethodName) jdk_68_method_6_code (1 : Nat) (Option.some Jvm.ClassFile.FieldType.int)).before a0 Z = true := hw _ (List.mem_of_getElem? (i := 148) rfl)
theorem w149 {Z : State} {a0 : Array Value} (hw : oHw Z a0) : (Jvm.Cond.methodLink z0 (1047 : Nat) ({ cls := z1, name := "isLatin1", desc := "()Z" } : Jvm.MethodName)).before a0 Z = true := hw _ (List.mem_of_getElem? (i := 149) rfl)
theorem w150 {Z : State} {a0 : Array Value} (hw : oHw Z a0) : (Jvm.Cond.methodLink z0 (54 : Nat) ({ cls := z10, name := "copyOfRange", desc := "([BII)[B" } : Jvm.MethodName)).before a0 Z = true := hw _ (List.mem_of_getElem? (i := 150) rfl)
theorem w151 {Z : State} {a0 : Array Value} (hw : oHw Z a0) : (Jvm.Cond.static ({ cls := z10, name := "copyOfRange", desc := "([BII)[B" } : Jvm.MethodName)).before a0 Z = true := hw _ (List.mem_of_getElem? (i := 151) rfl)
theorem w152 {Z : State} {a0 : Array Value} (hw : oHw Z a0) : (Jvm.Cond.initialized z10).before a0 Z = true := hw _ (List.mem_of_getElem? (i := 152) rfl)
theorem w153 {Z : State} {a0 : Array Value} (hw : oHw Z a0) : (Jvm.Cond.code ({ cls := z10, name := "copyOfRange", desc := "([BII)[B" } : Jvm.MethodName) jdk_65_method_132_code (3 : Nat) (Option.some (Jvm.ClassFile.FieldType.array Jvm.ClassFile.FieldType.byte))).before a0 Z = true := hw _ (List.mem_of_getElem? (i := 153) rfl)
theorem w154 {Z : State} {a0 : Array Value} (hw : oHw Z a0) : (Jvm.Cond.methodLink z10 (339 : Nat) ({ cls := z10, name := "copyOfRangeByte", desc := "([BII)[B" } : Jvm.MethodName)).before a0 Z = true := hw _ (List.mem_of_getElem? (i := 154) rfl)
theorem w155 {Z : State} {a0 : Array Value} (hw : oHw Z a0) : (Jvm.Cond.static ({ cls := z10, name := "copyOfRangeByte", desc := "([BII)[B" } : Jvm.MethodName)).before a0 Z = true := hw _ (List.mem_of_getElem? (i := 155) rfl)
theorem w156 {Z : State} {a0 : Array Value} (hw : oHw Z a0) : (Jvm.Cond.code ({ cls := z10, name := "copyOfRangeByte", desc := "([BII)[B" } : Jvm.MethodName) jdk_65_method_133_code (5 : Nat) (Option.some (Jvm.ClassFile.FieldType.array Jvm.ClassFile.FieldType.byte))).before a0 Z = true := hw _ (List.mem_of_getElem? (i := 156) rfl)
theorem w157 {Z : State} {a0 : Array Value} (hw : oHw Z a0) : (Jvm.Cond.methodLink z10 (343 : Nat) ({ cls := z10, name := "checkLength", desc := "(II)V" } : Jvm.MethodName)).before a0 Z = true := hw _ (List.mem_of_getElem? (i := 157) rfl)
theorem w158 {Z : State} {a0 : Array Value} (hw : oHw Z a0) : (Jvm.Cond.static ({ cls := z10, name := "checkLength", desc := "(II)V" } : Jvm.MethodName)).before a0 Z = true := hw _ (List.mem_of_getElem? (i := 158) rfl)
theorem w159 {Z : State} {a0 : Array Value} (hw : oHw Z a0) : (Jvm.Cond.code ({ cls := z10, name := "checkLength", desc := "(II)V" } : Jvm.MethodName) jdk_65_method_131_code (2 : Nat) (Option.none : Option Jvm.ClassFile.FieldType)).before a0 Z = true := hw _ (List.mem_of_getElem? (i := 159) rfl)
theorem w160 {Z : State} {a0 : Array Value} (hw : oHw Z a0) : (Jvm.Cond.methodLink z10 (304 : Nat) ({ cls := "java/lang/Math", name := "min", desc := "(II)I" } : Jvm.MethodName)).before a0 Z = true := hw _ (List.mem_of_getElem? (i := 160) rfl)
theorem w161 {Z : State} {a0 : Array Value} (hw : oHw Z a0) : (Jvm.Cond.static ({ cls := "java/lang/Math", name := "min", desc := "(II)I" } : Jvm.MethodName)).before a0 Z = true := hw _ (List.mem_of_getElem? (i := 161) rfl)
theorem w162 {Z : State} {a0 : Array Value} (hw : oHw Z a0) : (Jvm.Cond.initialized "java/lang/Math").before a0 Z = true := hw _ (List.mem_of_getElem? (i := 162) rfl)
theorem w163 {Z : State} {a0 : Array Value} (hw : oHw Z a0) : (Jvm.Cond.code ({ cls := "java/lang/Math", name := "min", desc := "(II)I" } : Jvm.MethodName) jdk_29_method_69_code (2 : Nat) (Option.some Jvm.ClassFile.FieldType.int)).before a0 Z = true := hw _ (List.mem_of_getElem? (i := 163) rfl)
theorem w164 {Z : State} {a0 : Array Value} (hw : oHw Z a0) : (Jvm.Cond.methodLink z10 (150 : Nat) ({ cls := "java/lang/System", name := "arraycopy", desc := "(Ljava/lang/Object;ILjava/lang/Object;II)V" } : Jvm.MethodName)).before a0 Z = true := hw _ (List.mem_of_getElem? (i := 164) rfl)
theorem w165 {Z : State} {a0 : Array Value} (hw : oHw Z a0) : (Jvm.Cond.static ({ cls := "java/lang/System", name := "arraycopy", desc := "(Ljava/lang/Object;ILjava/lang/Object;II)V" } : Jvm.MethodName)).before a0 Z = true := hw _ (List.mem_of_getElem? (i := 165) rfl)
theorem w166 {Z : State} {a0 : Array Value} (hw : oHw Z a0) : (Jvm.Cond.initialized "java/lang/System").before a0 Z = true := hw _ (List.mem_of_getElem? (i := 166) rfl)
theorem w167 {Z : State} {a0 : Array Value} (hw : oHw Z a0) : (Jvm.Cond.native ({ cls := "java/lang/System", name := "arraycopy", desc := "(Ljava/lang/Object;ILjava/lang/Object;II)V" } : Jvm.MethodName)).before a0 Z = true := hw _ (List.mem_of_getElem? (i := 167) rfl)
theorem w168 {Z : State} {a0 : Array Value} (hw : oHw Z a0) : (Jvm.Cond.methodLink z2 (38 : Nat) ({ cls := z2, name := "<init>", desc := "(Ljava/lang/String;I)V" } : Jvm.MethodName)).before a0 Z = true := hw _ (List.mem_of_getElem? (i := 168) rfl)
theorem w169 {Z : State} {a0 : Array Value} (hw : oHw Z a0) : (Jvm.Cond.instanceMethod ({ cls := z2, name := "<init>", desc := "(Ljava/lang/String;I)V" } : Jvm.MethodName)).before a0 Z = true := hw _ (List.mem_of_getElem? (i := 169) rfl)
theorem w170 {Z : State} {a0 : Array Value} (hw : oHw Z a0) : (Jvm.Cond.code ({ cls := z2, name := "<init>", desc := "(Ljava/lang/String;I)V" } : Jvm.MethodName) prog_30_method_1_code (3 : Nat) (Option.none : Option Jvm.ClassFile.FieldType)).before a0 Z = true := hw _ (List.mem_of_getElem? (i := 170) rfl)
theorem w171 {Z : State} {a0 : Array Value} (hw : oHw Z a0) : (Jvm.Cond.methodLink z2 (1 : Nat) ({ cls := "java/lang/Record", name := "<init>", desc := "()V" } : Jvm.MethodName)).before a0 Z = true := hw _ (List.mem_of_getElem? (i := 171) rfl)
theorem w172 {Z : State} {a0 : Array Value} (hw : oHw Z a0) : (Jvm.Cond.instanceMethod ({ cls := "java/lang/Record", name := "<init>", desc := "()V" } : Jvm.MethodName)).before a0 Z = true := hw _ (List.mem_of_getElem? (i := 172) rfl)
theorem w174 {Z : State} {a0 : Array Value} (hw : oHw Z a0) : (Jvm.Cond.initialized "java/lang/Record").before a0 Z = true := hw _ (List.mem_of_getElem? (i := 174) rfl)
theorem w175 {Z : State} {a0 : Array Value} (hw : oHw Z a0) : (Jvm.Cond.code ({ cls := "java/lang/Record", name := "<init>", desc := "()V" } : Jvm.MethodName) jdk_30_method_1_code (1 : Nat) (Option.none : Option Jvm.ClassFile.FieldType)).before a0 Z = true := hw _ (List.mem_of_getElem? (i := 175) rfl)
theorem w176 {Z : State} {a0 : Array Value} (hw : oHw Z a0) : (Jvm.Cond.methodLink "java/lang/Record" (1 : Nat) ({ cls := "java/lang/Object", name := "<init>", desc := "()V" } : Jvm.MethodName)).before a0 Z = true := hw _ (List.mem_of_getElem? (i := 176) rfl)
theorem w177 {Z : State} {a0 : Array Value} (hw : oHw Z a0) : (Jvm.Cond.fieldLink z2 (7 : Nat) z2 "value" z13).before a0 Z = true := hw _ (List.mem_of_getElem? (i := 177) rfl)
theorem w178 {Z : State} {a0 : Array Value} (hw : oHw Z a0) : (Jvm.Cond.laysFinal z2 z2 "value" z13).before a0 Z = true := hw _ (List.mem_of_getElem? (i := 178) rfl)
theorem w179 {Z : State} {a0 : Array Value} (hw : oHw Z a0) : (Jvm.Cond.fieldLink z2 (13 : Nat) z2 "end" "I").before a0 Z = true := hw _ (List.mem_of_getElem? (i := 179) rfl)
theorem w180 {Z : State} {a0 : Array Value} (hw : oHw Z a0) : (Jvm.Cond.laysFinal z2 z2 "end" "I").before a0 Z = true := hw _ (List.mem_of_getElem? (i := 180) rfl)
theorem w181 {Z : State} {a0 : Array Value} (hw : oHw Z a0) : (Jvm.Cond.methodLink z2 (41 : Nat) ({ cls := z3, name := "of", desc := "(Ljava/lang/Object;)Ljava/util/Optional;" } : Jvm.MethodName)).before a0 Z = true := hw _ (List.mem_of_getElem? (i := 181) rfl)
theorem w182 {Z : State} {a0 : Array Value} (hw : oHw Z a0) : (Jvm.Cond.static ({ cls := z3, name := "of", desc := "(Ljava/lang/Object;)Ljava/util/Optional;" } : Jvm.MethodName)).before a0 Z = true := hw _ (List.mem_of_getElem? (i := 182) rfl)
theorem w183 {Z : State} {a0 : Array Value} (hw : oHw Z a0) : (Jvm.Cond.code ({ cls := z3, name := "of", desc := "(Ljava/lang/Object;)Ljava/util/Optional;" } : Jvm.MethodName) jdk_32_method_3_code (1 : Nat) (Option.some (Jvm.ClassFile.FieldType.object z3))).before a0 Z = true := hw _ (List.mem_of_getElem? (i := 183) rfl)
theorem w184 {Z : State} {a0 : Array Value} (hw : oHw Z a0) : (Jvm.Cond.classLink z3 (2 : Nat) z3).before a0 Z = true := hw _ (List.mem_of_getElem? (i := 184) rfl)
theorem w185 {Z : State} {a0 : Array Value} (hw : oHw Z a0) : (Jvm.Cond.instantiable z3 (1 : Nat)).before a0 Z = true := hw _ (List.mem_of_getElem? (i := 185) rfl)
theorem w186 {Z : State} {a0 : Array Value} (hw : oHw Z a0) : (Jvm.Cond.methodLink z3 (17 : Nat) ({ cls := "java/util/Objects", name := "requireNonNull", desc := "(Ljava/lang/Object;)Ljava/lang/Object;" } : Jvm.MethodName)).before a0 Z = true := hw _ (List.mem_of_getElem? (i := 186) rfl)
theorem w187 {Z : State} {a0 : Array Value} (hw : oHw Z a0) : (Jvm.Cond.static ({ cls := "java/util/Objects", name := "requireNonNull", desc := "(Ljava/lang/Object;)Ljava/lang/Object;" } : Jvm.MethodName)).before a0 Z = true := hw _ (List.mem_of_getElem? (i := 187) rfl)
theorem w188 {Z : State} {a0 : Array Value} (hw : oHw Z a0) : (Jvm.Cond.initialized "java/util/Objects").before a0 Z = true := hw _ (List.mem_of_getElem? (i := 188) rfl)
theorem w189 {Z : State} {a0 : Array Value} (hw : oHw Z a0) : (Jvm.Cond.code ({ cls := "java/util/Objects", name := "requireNonNull", desc := "(Ljava/lang/Object;)Ljava/lang/Object;" } : Jvm.MethodName) jdk_31_method_10_code (1 : Nat) (Option.some (Jvm.ClassFile.FieldType.object "java/lang/Object"))).before a0 Z = true := hw _ (List.mem_of_getElem? (i := 189) rfl)
theorem w190 {Z : State} {a0 : Array Value} (hw : oHw Z a0) : (Jvm.Cond.methodLink z3 (23 : Nat) ({ cls := z3, name := "<init>", desc := "(Ljava/lang/Object;)V" } : Jvm.MethodName)).before a0 Z = true := hw _ (List.mem_of_getElem? (i := 190) rfl)
theorem w191 {Z : State} {a0 : Array Value} (hw : oHw Z a0) : (Jvm.Cond.instanceMethod ({ cls := z3, name := "<init>", desc := "(Ljava/lang/Object;)V" } : Jvm.MethodName)).before a0 Z = true := hw _ (List.mem_of_getElem? (i := 191) rfl)
theorem w193 {Z : State} {a0 : Array Value} (hw : oHw Z a0) : (Jvm.Cond.code ({ cls := z3, name := "<init>", desc := "(Ljava/lang/Object;)V" } : Jvm.MethodName) jdk_32_method_2_code (2 : Nat) (Option.none : Option Jvm.ClassFile.FieldType)).before a0 Z = true := hw _ (List.mem_of_getElem? (i := 193) rfl)
theorem w194 {Z : State} {a0 : Array Value} (hw : oHw Z a0) : (Jvm.Cond.methodLink z3 (7 : Nat) ({ cls := "java/lang/Object", name := "<init>", desc := "()V" } : Jvm.MethodName)).before a0 Z = true := hw _ (List.mem_of_getElem? (i := 194) rfl)
theorem w195 {Z : State} {a0 : Array Value} (hw : oHw Z a0) : (Jvm.Cond.methodLink z16 (28 : Nat) ({ cls := z0, name := "valueOf", desc := "(C)Ljava/lang/String;" } : Jvm.MethodName)).before a0 Z = true := hw _ (List.mem_of_getElem? (i := 195) rfl)
theorem w196 {Z : State} {a0 : Array Value} (hw : oHw Z a0) : (Jvm.Cond.static ({ cls := z0, name := "valueOf", desc := "(C)Ljava/lang/String;" } : Jvm.MethodName)).before a0 Z = true := hw _ (List.mem_of_getElem? (i := 196) rfl)
theorem w197 {Z : State} {a0 : Array Value} (hw : oHw Z a0) : (Jvm.Cond.code ({ cls := z0, name := "valueOf", desc := "(C)Ljava/lang/String;" } : Jvm.MethodName) jdk_42_method_139_code (1 : Nat) (Option.some (Jvm.ClassFile.FieldType.object z0))).before a0 Z = true := hw _ (List.mem_of_getElem? (i := 197) rfl)
theorem w198 {Z : State} {a0 : Array Value} (hw : oHw Z a0) : (Jvm.Cond.methodLink z0 (1015 : Nat) ({ cls := z9, name := "canEncode", desc := "(C)Z" } : Jvm.MethodName)).before a0 Z = true := hw _ (List.mem_of_getElem? (i := 198) rfl)
theorem w199 {Z : State} {a0 : Array Value} (hw : oHw Z a0) : (Jvm.Cond.classLink z0 (10 : Nat) z0).before a0 Z = true := hw _ (List.mem_of_getElem? (i := 199) rfl)
theorem w200 {Z : State} {a0 : Array Value} (hw : oHw Z a0) : (Jvm.Cond.methodLink z0 (1018 : Nat) ({ cls := z9, name := "toBytes", desc := "(C)[B" } : Jvm.MethodName)).before a0 Z = true := hw _ (List.mem_of_getElem? (i := 200) rfl)
theorem w201 {Z : State} {a0 : Array Value} (hw : oHw Z a0) : (Jvm.Cond.static ({ cls := z9, name := "toBytes", desc := "(C)[B" } : Jvm.MethodName)).before a0 Z = true := hw _ (List.mem_of_getElem? (i := 201) rfl)
theorem w202 {Z : State} {a0 : Array Value} (hw : oHw Z a0) : (Jvm.Cond.code ({ cls := z9, name := "toBytes", desc := "(C)[B" } : Jvm.MethodName) jdk_43_method_46_code (1 : Nat) (Option.some (Jvm.ClassFile.FieldType.array Jvm.ClassFile.FieldType.byte))).before a0 Z = true := hw _ (List.mem_of_getElem? (i := 202) rfl)
theorem w203 {Z : State} {a0 : Array Value} (hw : oHw Z a0) : (Jvm.Cond.methodLink z0 (209 : Nat) ({ cls := z0, name := "<init>", desc := "([BB)V" } : Jvm.MethodName)).before a0 Z = true := hw _ (List.mem_of_getElem? (i := 203) rfl)
theorem w204 {Z : State} {a0 : Array Value} (hw : oHw Z a0) : (Jvm.Cond.instanceMethod ({ cls := z0, name := "<init>", desc := "([BB)V" } : Jvm.MethodName)).before a0 Z = true := hw _ (List.mem_of_getElem? (i := 204) rfl)
theorem w205 {Z : State} {a0 : Array Value} (hw : oHw Z a0) : (Jvm.Cond.code ({ cls := z0, name := "<init>", desc := "([BB)V" } : Jvm.MethodName) jdk_42_method_151_code (3 : Nat) (Option.none : Option Jvm.ClassFile.FieldType)).before a0 Z = true := hw _ (List.mem_of_getElem? (i := 205) rfl)
theorem w206 {Z : State} {a0 : Array Value} (hw : oHw Z a0) : (Jvm.Cond.methodLink z16 (32 : Nat) ({ cls := z3, name := "get", desc := "()Ljava/lang/Object;" } : Jvm.MethodName)).before a0 Z = true := hw _ (List.mem_of_getElem? (i := 206) rfl)
theorem w207 {Z : State} {a0 : Array Value} (hw : oHw Z a0) : (Jvm.Cond.declares ({ cls := z3, name := "get", desc := "()Ljava/lang/Object;" } : Jvm.MethodName)).before a0 Z = true := hw _ (List.mem_of_getElem? (i := 207) rfl)
theorem w208 {Z : State} {a0 : Array Value} (hw : oHw Z a0) : (Jvm.Cond.instanceMethod ({ cls := z3, name := "get", desc := "()Ljava/lang/Object;" } : Jvm.MethodName)).before a0 Z = true := hw _ (List.mem_of_getElem? (i := 208) rfl)
theorem w209 {Z : State} {a0 : Array Value} (hw : oHw Z a0) : (Jvm.Cond.selects z3 ({ cls := z3, name := "get", desc := "()Ljava/lang/Object;" } : Jvm.MethodName) ({ cls := z3, name := "get", desc := "()Ljava/lang/Object;" } : Jvm.MethodName)).before a0 Z = true := hw _ (List.mem_of_getElem? (i := 209) rfl)
theorem w210 {Z : State} {a0 : Array Value} (hw : oHw Z a0) : (Jvm.Cond.code ({ cls := z3, name := "get", desc := "()Ljava/lang/Object;" } : Jvm.MethodName) jdk_32_method_5_code (1 : Nat) (Option.some (Jvm.ClassFile.FieldType.object "java/lang/Object"))).before a0 Z = true := hw _ (List.mem_of_getElem? (i := 210) rfl)
theorem w211 {Z : State} {a0 : Array Value} (hw : oHw Z a0) : (Jvm.Cond.classLink z16 (15 : Nat) z2).before a0 Z = true := hw _ (List.mem_of_getElem? (i := 211) rfl)
theorem w213 {Z : State} {a0 : Array Value} (hw : oHw Z a0) : (Jvm.Cond.methodLink z16 (36 : Nat) ({ cls := z2, name := "value", desc := "()Ljava/lang/String;" } : Jvm.MethodName)).before a0 Z = true := hw _ (List.mem_of_getElem? (i := 213) rfl)
theorem w214 {Z : State} {a0 : Array Value} (hw : oHw Z a0) : (Jvm.Cond.declares ({ cls := z2, name := "value", desc := "()Ljava/lang/String;" } : Jvm.MethodName)).before a0 Z = true := hw _ (List.mem_of_getElem? (i := 214) rfl)
theorem w215 {Z : State} {a0 : Array Value} (hw : oHw Z a0) : (Jvm.Cond.instanceMethod ({ cls := z2, name := "value", desc := "()Ljava/lang/String;" } : Jvm.MethodName)).before a0 Z = true := hw _ (List.mem_of_getElem? (i := 215) rfl)
theorem w216 {Z : State} {a0 : Array Value} (hw : oHw Z a0) : (Jvm.Cond.selects z2 ({ cls := z2, name := "value", desc := "()Ljava/lang/String;" } : Jvm.MethodName) ({ cls := z2, name := "value", desc := "()Ljava/lang/String;" } : Jvm.MethodName)).before a0 Z = true := hw _ (List.mem_of_getElem? (i := 216) rfl)
theorem w217 {Z : State} {a0 : Array Value} (hw : oHw Z a0) : (Jvm.Cond.code ({ cls := z2, name := "value", desc := "()Ljava/lang/String;" } : Jvm.MethodName) prog_30_method_6_code (1 : Nat) (Option.some (Jvm.ClassFile.FieldType.object z0))).before a0 Z = true := hw _ (List.mem_of_getElem? (i := 217) rfl)
theorem w218 {Z : State} {a0 : Array Value} (hw : oHw Z a0) : (Jvm.Cond.methodLink z16 (40 : Nat) ({ cls := z0, name := "equals", desc := "(Ljava/lang/Object;)Z" } : Jvm.MethodName)).before a0 Z = true := hw _ (List.mem_of_getElem? (i := 218) rfl)
theorem w219 {Z : State} {a0 : Array Value} (hw : oHw Z a0) : (Jvm.Cond.declares ({ cls := z0, name := "equals", desc := "(Ljava/lang/Object;)Z" } : Jvm.MethodName)).before a0 Z = true := hw _ (List.mem_of_getElem? (i := 219) rfl)
theorem w220 {Z : State} {a0 : Array Value} (hw : oHw Z a0) : (Jvm.Cond.instanceMethod ({ cls := z0, name := "equals", desc := "(Ljava/lang/Object;)Z" } : Jvm.MethodName)).before a0 Z = true := hw _ (List.mem_of_getElem? (i := 220) rfl)
theorem w221 {Z : State} {a0 : Array Value} (hw : oHw Z a0) : (Jvm.Cond.selects z0 ({ cls := z0, name := "equals", desc := "(Ljava/lang/Object;)Z" } : Jvm.MethodName) ({ cls := z0, name := "equals", desc := "(Ljava/lang/Object;)Z" } : Jvm.MethodName)).before a0 Z = true := hw _ (List.mem_of_getElem? (i := 221) rfl)
theorem w222 {Z : State} {a0 : Array Value} (hw : oHw Z a0) : (Jvm.Cond.code ({ cls := z0, name := "equals", desc := "(Ljava/lang/Object;)Z" } : Jvm.MethodName) jdk_42_method_66_code (3 : Nat) (Option.some Jvm.ClassFile.FieldType.boolean)).before a0 Z = true := hw _ (List.mem_of_getElem? (i := 222) rfl)
theorem w223 {Z : State} {a0 : Array Value} (hw : oHw Z a0) : (Jvm.Cond.methodLink z0 (541 : Nat) ({ cls := z9, name := "equals", desc := "([B[B)Z" } : Jvm.MethodName)).before a0 Z = true := hw _ (List.mem_of_getElem? (i := 223) rfl)
theorem w224 {Z : State} {a0 : Array Value} (hw : oHw Z a0) : (Jvm.Cond.static ({ cls := z9, name := "equals", desc := "([B[B)Z" } : Jvm.MethodName)).before a0 Z = true := hw _ (List.mem_of_getElem? (i := 224) rfl)
theorem w225 {Z : State} {a0 : Array Value} (hw : oHw Z a0) : (Jvm.Cond.code ({ cls := z9, name := "equals", desc := "([B[B)Z" } : Jvm.MethodName) jdk_43_method_13_code (3 : Nat) (Option.some Jvm.ClassFile.FieldType.boolean)).before a0 Z = true := hw _ (List.mem_of_getElem? (i := 225) rfl)
theorem w226 {Z : State} {a0 : Array Value} (hw : oHw Z a0) : (Jvm.Cond.methodLink z16 (44 : Nat) ({ cls := z2, name := "end", desc := "()I" } : Jvm.MethodName)).before a0 Z = true := hw _ (List.mem_of_getElem? (i := 226) rfl)
theorem w227 {Z : State} {a0 : Array Value} (hw : oHw Z a0) : (Jvm.Cond.declares ({ cls := z2, name := "end", desc := "()I" } : Jvm.MethodName)).before a0 Z = true := hw _ (List.mem_of_getElem? (i := 227) rfl)
theorem w228 {Z : State} {a0 : Array Value} (hw : oHw Z a0) : (Jvm.Cond.instanceMethod ({ cls := z2, name := "end", desc := "()I" } : Jvm.MethodName)).before a0 Z = true := hw _ (List.mem_of_getElem? (i := 228) rfl)
theorem w229 {Z : State} {a0 : Array Value} (hw : oHw Z a0) : (Jvm.Cond.selects z2 ({ cls := z2, name := "end", desc := "()I" } : Jvm.MethodName) ({ cls := z2, name := "end", desc := "()I" } : Jvm.MethodName)).before a0 Z = true := hw _ (List.mem_of_getElem? (i := 229) rfl)
theorem w230 {Z : State} {a0 : Array Value} (hw : oHw Z a0) : (Jvm.Cond.code ({ cls := z2, name := "end", desc := "()I" } : Jvm.MethodName) prog_30_method_7_code (1 : Nat) (Option.some Jvm.ClassFile.FieldType.int)).before a0 Z = true := hw _ (List.mem_of_getElem? (i := 230) rfl)
theorem w231 {Z : State} {a0 : Array Value} (hw : oHw Z a0) : (Jvm.Cond.stringLink z16 (26 : Nat) "").before a0 Z = true := hw _ (List.mem_of_getElem? (i := 231) rfl)
theorem w232 {Z : State} {a0 : Array Value} (hw : oHw Z a0) : (Jvm.Cond.soleField z0 "value").before a0 Z = true := hw _ (List.mem_of_getElem? (i := 232) rfl)
theorem w233 {Z : State} {a0 : Array Value} (hw : oHw Z a0) : (Jvm.Cond.soleField z0 "coder").before a0 Z = true := hw _ (List.mem_of_getElem? (i := 233) rfl)
theorem oSA {Z : State} {a0 : Array Value} (hw : oHw Z a0) : ∀ a ∈ Bundle.stringAtoms, a.before a0 Z = true := by
  intro a ha
  simp only [Bundle.stringAtoms, List.mem_cons, List.not_mem_nil, or_false] at ha
  rcases ha with rfl | rfl | rfl | rfl | rfl | rfl | rfl
  · exact w4 hw
  · exact w3 hw
  · exact w20 hw
  · exact w30 hw
  · exact w28 hw
  · exact w232 hw
  · exact w233 hw
theorem oEW {Z : State} {a0 : Array Value} (hw : oHw Z a0) : EW Z a0 oEL := EW.cons (w231 hw) (by decide) <| EW.nil
theorem d0_0 : decode jdk_43_method_3_code 0 = .ok (.iload_n 0, 1) := by decide +kernel
theorem d0_1 : decode jdk_43_method_3_code 1 = .ok (.sipush 255, 3) := by decide +kernel
theorem d0_4 : decode jdk_43_method_3_code 4 = .ok (.if_icmp .gt 7, 3) := by decide +kernel
theorem d0_7 : decode jdk_43_method_3_code 7 = .ok (.iconst 1, 1) := by decide +kernel
theorem d0_8 : decode jdk_43_method_3_code 8 = .ok (.goto 4, 3) := by decide +kernel
theorem d0_12 : decode jdk_43_method_3_code 12 = .ok (.ireturn, 1) := by decide +kernel
def r_canenc : Room := { frames := 0, cells := 0, slots := 0, locals := 0 }
def Q_canenc (Z : State) (c : Int32) (h0 : Heap) (v : Option Value) (h : Heap) : Prop := v = some (.int 1) ∧ h0 = h
theorem rm_canenc (l : Launch) (Z : State) (a0 : Array Value) (hw : oHw Z a0) (c : Int32) (h0 : Heap) (q0 : ¬ ((255 : Int32) < c)) : oMet l Z (⟨z9, "canEncode", "(C)Z"⟩ : MethodName) jdk_43_method_3_code 1 (some .boolean) r_canenc [] #[.int c] h0 (Q_canenc Z c h0) [] false := by
 refine oEnter (oEW hw) (plainFor_of_name (by first | (simp [plainName, overriddenIn]; done) | decide +kernel)) (own := z9) (nm := "canEncode") rfl rfl (L := #[.val (.int c)]) (fun m => by first | (simp [entryFrame, mkF, argsToLocals, Value.category]; done) | rfl) ?_
 intro pp ee ss mm bb mtd cc T0 K X0
 have E0 := X0.ext0
 refine o_iloadN K X0 d0_0 rfl rfl ?_
 refine o_sipush K X0 d0_1 rfl (z := 255) rfl ?_
 refine o_icmp_gt_f K X0 d0_4 rfl q0 ?_
 refine o_iconst K X0 d0_7 rfl (z := 1) rfl ?_
 refine o_goto K X0 d0_8 (by decide) (pc' := 12) (by decide) ?_
 refine o_ireturnN K X0 .boolean d0_12 rfl (by simp) (z' := 1) (by decide) ?_ (by decide) (by decide) (by decide)
 exact ⟨rfl, rfl⟩
theorem d1_0 : decode jdk_43_method_46_code 0 = .ok (.iconst 1, 1) := by decide +kernel
theorem d1_1 : decode jdk_43_method_46_code 1 = .ok (.newarray .byte, 2) := by decide +kernel
theorem d1_3 : decode jdk_43_method_46_code 3 = .ok (.dup, 1) := by decide +kernel
theorem d1_4 : decode jdk_43_method_46_code 4 = .ok (.iconst 0, 1) := by decide +kernel
theorem d1_5 : decode jdk_43_method_46_code 5 = .ok (.iload_n 0, 1) := by decide +kernel
theorem d1_6 : decode jdk_43_method_46_code 6 = .ok (.i2b, 1) := by decide +kernel
theorem d1_7 : decode jdk_43_method_46_code 7 = .ok (.bastore, 1) := by decide +kernel
theorem d1_8 : decode jdk_43_method_46_code 8 = .ok (.areturn, 1) := by decide +kernel
def r_tobytes : Room := { frames := 0, cells := 1, slots := 1, locals := 0 }
def Q_tobytes (Z : State) (c : Int32) (h0 : Heap) (v : Option Value) (h : Heap) : Prop := ∃ r : Addr, ∃ k : ClassId, v = some (.ref r) ∧ Keep h0 h [] ∧ h0.size ≤ r ∧ oArr Z h r k .byte [(.int (nar .byte c))]
theorem rm_tobytes (l : Launch) (Z : State) (a0 : Array Value) (hw : oHw Z a0) (c : Int32) (h0 : Heap) : oMet l Z (⟨z9, "toBytes", "(C)[B"⟩ : MethodName) jdk_43_method_46_code 1 (some (.array .byte)) r_tobytes [] #[.int c] h0 (Q_tobytes Z c h0) [] false := by
 refine oEnter (oEW hw) (plainFor_of_name (by first | (simp [plainName, overriddenIn]; done) | decide +kernel)) (own := z9) (nm := "toBytes") rfl rfl (L := #[.val (.int c)]) (fun m => by first | (simp [entryFrame, mkF, argsToLocals, Value.category]; done) | rfl) ?_
 intro pp ee ss mm bb mtd cc T0 K X0
 have E0 := X0.ext0
 refine o_iconst K X0 d1_0 rfl (z := 1) rfl ?_
 refine o_newarray K X0 (aty := .byte) 1 (w20 hw) (ad := "[B") (by decide +kernel) (by decide) (by decide) (by decide) rfl d1_1 rfl (by decide) (by decide) ?_
 intro T1 h1 b1 k1 X1 g1 E1 A1 B1 G1
 replace A1 : oArr Z h1 b1 k1 .byte [.int 0] := A1
 refine o_dup K X1 d1_3 rfl rfl ?_
 refine o_iconst K X1 d1_4 rfl (z := 0) rfl ?_
 refine o_iloadN K X1 d1_5 rfl rfl ?_
 refine o_i2b K X1 d1_6 rfl (z := (nar .byte c)) rfl ?_
 refine o_bastore K X1 A1 (by decide) (show (0 : Int32).toNatClampNeg < 1 from (by decide)) G1 me0 (z := (.int (nar .byte c))) (congrArg Value.int (oNarIdembyte _)) d1_7 rfl ?_
 intro T2 h2 X2 W2 A2
 replace A2 : oArr Z h2 b1 k1 .byte [(.int (nar .byte c))] := A2
 refine o_areturn K X2 (t := (.array .byte)) d1_8 rfl rfl rfl ?_ (by decide) (by decide) (by decide)
 exact ⟨b1, k1, rfl, (((Keep.refl h0 []).ext E1).wr W2 (Or.inr (oLe g1))), (oLe g1), A2⟩
theorem d2_0 : decode jdk_42_method_151_code 0 = .ok (.aload_n 0, 1) := by decide +kernel
theorem d2_1 : decode jdk_42_method_151_code 1 = .ok (.invokespecial 1, 3) := by decide +kernel
theorem d2_4 : decode jdk_42_method_151_code 4 = .ok (.aload_n 0, 1) := by decide +kernel
theorem d2_5 : decode jdk_42_method_151_code 5 = .ok (.aload_n 1, 1) := by decide +kernel
theorem d2_6 : decode jdk_42_method_151_code 6 = .ok (.putfield 9, 3) := by decide +kernel
theorem d2_9 : decode jdk_42_method_151_code 9 = .ok (.aload_n 0, 1) := by decide +kernel
theorem d2_10 : decode jdk_42_method_151_code 10 = .ok (.iload_n 2, 1) := by decide +kernel
theorem d2_11 : decode jdk_42_method_151_code 11 = .ok (.putfield 15, 3) := by decide +kernel
theorem d2_14 : decode jdk_42_method_151_code 14 = .ok (.return_, 1) := by decide +kernel
def r_strbb : Room := { frames := 1, cells := 0, slots := 0, locals := 12 }
def Q_strbb (Z : State) (a b : Addr) (h0 : Heap) (v : Option Value) (h : Heap) : Prop := v = none ∧ Keep h0 h [a] ∧ Exa Z h a z0 ∧ Fld Z h a z0 "value" "[B" (.ref b) ∧ Fld Z h a z0 "coder" "B" (.int 0)
theorem rm_strbb (l : Launch) (Z : State) (a0 : Array Value) (hw : oHw Z a0) (a b : Addr) (h0 : Heap) (q0 : Exa Z h0 a z0) (q1 : Fld Z h0 a z0 "value" "[B" .null) (q2 : Fld Z h0 a z0 "coder" "B" (.int 0)) (q3 : Z.heap.size ≤ a) : oMet l Z (⟨z0, "<init>", "([BB)V"⟩ : MethodName) jdk_42_method_151_code 3 none r_strbb [] #[.ref a, .ref b, .int 0] h0 (Q_strbb Z a b h0) [a] false := by
 refine oEnter (oEW hw) (plainFor_of_name (by first | (simp [plainName, overriddenIn]; done) | decide +kernel)) (own := z0) (nm := "<init>") rfl rfl (L := #[.val (.ref a), .val (.ref b), .val (.int 0)]) (fun m => by first | (simp [entryFrame, mkF, argsToLocals, Value.category]; done) | rfl) ?_
 intro pp ee ss mm bb mtd cc T0 K X0
 have E0 := X0.ext0
 refine o_aloadN K X0 d2_0 rfl rfl rfl ?_
 refine o_initObj K X0 (w12 hw) (w13 hw) (w14 hw) d2_1 rfl rfl (by decide) (W := 0) rfl (by decide) ?_
 intro T1 X1
 refine o_aloadN K X1 d2_4 rfl rfl rfl ?_
 refine o_aloadN K X1 d2_5 rfl rfl rfl ?_
 refine o_putfield K X1 (host := "") (Or.inl (w29 hw)) Via.refl q1 q0 (Or.inr ⟨(w30 hw), rfl, rfl⟩) (w3 hw) (ty := (.array .byte)) (by decide) rfl rfl q3 me0 d2_6 rfl ?_
 intro T2 h2 X2 W2
 have F2 := Fld.same W2 q1
 refine o_aloadN K X2 d2_9 rfl rfl rfl ?_
 refine o_iloadN K X2 d2_10 rfl rfl ?_
 have m4 := (Fld.other W2 q2 (Or.inr (slot_ne (Or.inr (w28 hw)) (Or.inr (w30 hw)) (by decide) (t := .byte) (t' := (.array .byte)) (by decide) (by decide))))
 have m5 := (Exa.wr W2 q0)
 refine o_putfieldN K X2 (w27 hw) Via.refl m4 m5 (Or.inr ⟨(w28 hw), rfl, rfl⟩) (w3 hw) (ty := .byte) (by decide) (v' := (.int 0)) (congrArg Value.int (by decide)) (oFitbyte (x := (0 : Int32)) (by decide)) q3 me0 d2_11 rfl ?_
 intro T3 h3 X3 W3
 have F3 := Fld.same W3 m4
 refine o_return K X3 d2_14 rfl ?_ (by decide) (by decide) (by decide)
 have m6 := (Exa.wr W3 m5)
 have m7 := (Fld.other W3 F2 (Or.inr (slot_ne (Or.inr (w30 hw)) (Or.inr (w28 hw)) (by decide) (t := (.array .byte)) (t' := .byte) (by decide) (by decide))))
 exact ⟨rfl, (((Keep.refl h0 [a]).wr W2 (Or.inl me0)).wr W3 (Or.inl me0)), m6, m7, F3⟩
theorem d3_0 : decode jdk_42_method_139_code 0 = .ok (.getstatic 38, 3) := by decide +kernel
theorem d3_3 : decode jdk_42_method_139_code 3 = .ok (.ifCond .eq 23, 3) := by decide +kernel
theorem d3_6 : decode jdk_42_method_139_code 6 = .ok (.iload_n 0, 1) := by decide +kernel
theorem d3_7 : decode jdk_42_method_139_code 7 = .ok (.invokestatic 1015, 3) := by decide +kernel
theorem d3_10 : decode jdk_42_method_139_code 10 = .ok (.ifCond .eq 16, 3) := by decide +kernel
theorem d3_13 : decode jdk_42_method_139_code 13 = .ok (.new 10, 3) := by decide +kernel
theorem d3_16 : decode jdk_42_method_139_code 16 = .ok (.dup, 1) := by decide +kernel
theorem d3_17 : decode jdk_42_method_139_code 17 = .ok (.iload_n 0, 1) := by decide +kernel
theorem d3_18 : decode jdk_42_method_139_code 18 = .ok (.invokestatic 1018, 3) := by decide +kernel
theorem d3_21 : decode jdk_42_method_139_code 21 = .ok (.iconst 0, 1) := by decide +kernel
theorem d3_22 : decode jdk_42_method_139_code 22 = .ok (.invokespecial 209, 3) := by decide +kernel
theorem d3_25 : decode jdk_42_method_139_code 25 = .ok (.areturn, 1) := by decide +kernel
theorem pd0 : parseMethodDescriptor "(C)Z" = some ⟨[.char], some .boolean⟩ := by decide +kernel
theorem pd1 : parseMethodDescriptor "(C)[B" = some ⟨[.char], some (.array .byte)⟩ := by decide +kernel
theorem pd2 : parseMethodDescriptor "([BB)V" = some ⟨[(.array .byte), .byte], none⟩ := by decide +kernel
def r_valueof : Room := { frames := 2, cells := 2, slots := 5, locals := 27 }
def Q_valueof (Z : State) (c cs : Int32) (h0 : Heap) (v : Option Value) (h : Heap) : Prop := ∃ r vb : Addr, ∃ k : ClassId, v = some (.ref r) ∧ Keep h0 h [] ∧ h0.size ≤ r ∧ Exa Z h r z0 ∧ Fld Z h r z0 "value" "[B" (.ref vb) ∧ Fld Z h r z0 "coder" "B" (.int 0) ∧ h0.size ≤ vb ∧ oArr Z h vb k .byte [(.int (nar .byte c))]
theorem rm_valueof (l : Launch) (Z : State) (a0 : Array Value) (hw : oHw Z a0) (c cs : Int32) (h0 : Heap) (q0 : ¬ ((255 : Int32) < c)) (q1 : Sta Z Z.heap z0 z5 "Z" (.int cs)) (q2 : ¬ (cs = (0 : Int32))) : oMet l Z (⟨z0, "valueOf", "(C)Ljava/lang/String;"⟩ : MethodName) jdk_42_method_139_code 1 (some (.object z0)) r_valueof [] #[.int c] h0 (Q_valueof Z c cs h0) [] false := by
 refine oEnter (oEW hw) (plainFor_of_name (by first | (simp [plainName, overriddenIn]; done) | decide +kernel)) (own := z0) (nm := "valueOf") rfl rfl (L := #[.val (.int c)]) (fun m => by first | (simp [entryFrame, mkF, argsToLocals, Value.category]; done) | rfl) ?_
 intro pp ee ss mm bb mtd cc T0 K X0
 have E0 := X0.ext0
 refine o_getstatic K X0 (host := "") (Or.inl (w15 hw)) Via.refl (q1.ext X0.ext0) d3_0 rfl ?_
 intro T1 X1
 refine o_if_eq_f K X1 d3_3 rfl q2 ?_
 refine o_iloadN K X1 d3_6 rfl rfl ?_
 refine o_static K X1  (w198 hw) (w120 hw) (w87 hw) (w121 hw) (by decide) (rm_canenc l Z a0 hw c h0 q0) all0 (by decide) rfl (argsL := [.int c]) rfl (lenOf pd0 rfl) (W := 0) rfl (by decide) (by decide) (by decide) d3_7 rfl ?_
 intro v2 T2 h2 FX2 U2
 obtain ⟨rfl, rfl⟩ := U2
 have X2 := FX2 [] (Or.inl rfl) all0
 show oGoes pp ee bb ss Z T2 (mkF mm 10 _ [.int 1]) _ _ _ _
 refine o_if_eq_f K X2 d3_10 rfl (by decide) ?_
 refine o_new K X2 (w199 hw) (w3 hw) (w4 hw) d3_13 rfl (by decide) (by decide) ?_
 intro T3 h3 b3 X3 g3 E3 A3 D3 G3
 have F3_coder : Fld Z h3 b3 z0 "coder" "B" (.int 0) := (D3 (Or.inr (w28 hw)) (ty := .byte) (by decide))
 have F3_value : Fld Z h3 b3 z0 "value" "[B" .null := (D3 (Or.inr (w30 hw)) (ty := (.array .byte)) (by decide))
 refine o_dup K X3 d3_16 rfl rfl ?_
 refine o_iloadN K X3 d3_17 rfl rfl ?_
 refine o_static K X3  (w200 hw) (w201 hw) (w87 hw) (w202 hw) (by decide) (rm_tobytes l Z a0 hw c h3) all0 (by decide) rfl (argsL := [.int c]) rfl (lenOf pd1 rfl) (W := 2) rfl (by decide) (by decide) (by decide) d3_18 rfl ?_
 intro v4 T4 h4 FX4 U4
 obtain ⟨r_4, k_4, rfl, u4_0, u4_1, u4_2⟩ := U4
 have G4_r : Z.heap.size ≤ r_4 := Nat.le_trans X3.ext0.1 u4_1
 have X4 := FX4 [r_4] (Or.inl rfl) (allS ⟨u4_1, u4_2.lt⟩ all0)
 show oGoes pp ee bb ss Z T4 (mkF mm 21 _ [.ref r_4, .ref b3, .ref b3]) _ _ _ _
 refine o_iconst K X4 d3_21 rfl (z := 0) rfl ?_
 have m5 := (A3.keep u4_0)
 have m6 := (F3_value.keep u4_0 nin0)
 have m7 := (F3_coder.keep u4_0 nin0)
 refine o_special K X4 (y := (⟨z0, "<init>", "([BB)V"⟩ : MethodName)) rfl (w203 hw) (w204 hw) (w4 hw) (w205 hw) (by decide) (rm_strbb l Z a0 hw b3 r_4 h4 m5 m6 m7 G3) (allS me1 all0) (by decide) rfl (argsL := [.ref r_4, .int 0]) rfl (lenOf pd2 rfl) (W := 1) rfl (by decide) (by decide) (by decide) d3_22 rfl ?_
 intro v8 T8 h8 FX8 U8
 obtain ⟨rfl, u8_0, u8_1, u8_2, u8_3⟩ := U8
 have X8 := FX8 [] (Or.inl rfl) all0
 show oGoes pp ee bb ss Z T8 (mkF mm 25 _ [.ref b3]) _ _ _ _
 refine o_areturn K X8 (t := (.object z0)) d3_25 rfl rfl rfl ?_ (by decide) (by decide) (by decide)
 have n9 := oLsz A3.lt u4_1
 have m10 := (u4_2.keep u8_0 (ninS n9 nin0))
 exact ⟨b3, r_4, k_4, rfl, ((((Keep.refl h0 []).ext E3).trans u4_0 all0).trans u8_0 (allS (Or.inr (oLe g3)) all0)), (oLe g3), u8_1, u8_2, u8_3, (Nat.le_trans E3.1 u4_1), m10⟩
theorem d4_0 : decode jdk_52_method_21_code 0 = .ok (.iconst 0, 1) := by decide +kernel
theorem d4_1 : decode jdk_52_method_21_code 1 = .ok (.istore 5, 2) := by decide +kernel
theorem d4_3 : decode jdk_52_method_21_code 3 = .ok (.iload 5, 2) := by decide +kernel
theorem d4_5 : decode jdk_52_method_21_code 5 = .ok (.iload 4, 2) := by decide +kernel
theorem d4_7 : decode jdk_52_method_21_code 7 = .ok (.if_icmp .ge 37, 3) := by decide +kernel
theorem d4_10 : decode jdk_52_method_21_code 10 = .ok (.aload_n 0, 1) := by decide +kernel
theorem d4_11 : decode jdk_52_method_21_code 11 = .ok (.iload_n 1, 1) := by decide +kernel
theorem d4_12 : decode jdk_52_method_21_code 12 = .ok (.caload, 1) := by decide +kernel
theorem d4_13 : decode jdk_52_method_21_code 13 = .ok (.istore 6, 2) := by decide +kernel
theorem d4_15 : decode jdk_52_method_21_code 15 = .ok (.iload 6, 2) := by decide +kernel
theorem d4_17 : decode jdk_52_method_21_code 17 = .ok (.sipush 255, 3) := by decide +kernel
theorem d4_20 : decode jdk_52_method_21_code 20 = .ok (.if_icmp .le 6, 3) := by decide +kernel
theorem d4_26 : decode jdk_52_method_21_code 26 = .ok (.aload_n 2, 1) := by decide +kernel
theorem d4_27 : decode jdk_52_method_21_code 27 = .ok (.iload_n 3, 1) := by decide +kernel
theorem d4_28 : decode jdk_52_method_21_code 28 = .ok (.iload 6, 2) := by decide +kernel
theorem d4_30 : decode jdk_52_method_21_code 30 = .ok (.i2b, 1) := by decide +kernel
theorem d4_31 : decode jdk_52_method_21_code 31 = .ok (.bastore, 1) := by decide +kernel
theorem d4_32 : decode jdk_52_method_21_code 32 = .ok (.iinc 1 1, 3) := by decide +kernel
theorem d4_35 : decode jdk_52_method_21_code 35 = .ok (.iinc 3 1, 3) := by decide +kernel
theorem d4_38 : decode jdk_52_method_21_code 38 = .ok (.iinc 5 1, 3) := by decide +kernel
theorem d4_41 : decode jdk_52_method_21_code 41 = .ok (.goto (-38), 3) := by decide +kernel
theorem d4_44 : decode jdk_52_method_21_code 44 = .ok (.iload 4, 2) := by decide +kernel
theorem d4_46 : decode jdk_52_method_21_code 46 = .ok (.ireturn, 1) := by decide +kernel
def r_cmp5_2 : Room := { frames := 0, cells := 0, slots := 0, locals := 0 }
def Q_cmp5_2 (Z : State) (b : Addr) (kb : ClassId) (d : Addr) (kd : ClassId) (c0 c1 : Int32) (h0 : Heap) (v : Option Value) (h : Heap) : Prop := v = some (.int 2) ∧ Keep h0 h [d] ∧ oArr Z h d kd .byte [(.int (nar .byte c0)), (.int (nar .byte c1))]
theorem rm_cmp5_2 (l : Launch) (Z : State) (a0 : Array Value) (hw : oHw Z a0) (b : Addr) (kb : ClassId) (d : Addr) (kd : ClassId) (c0 c1 : Int32) (h0 : Heap) (q0 : oArr Z h0 b kb .char [.int c0, .int c1]) (q1 : oArr Z h0 d kd .byte [.int 0, .int 0]) (q2 : Z.heap.size ≤ d) (q3 : b ≠ d) (q4 : ¬ ((255 : Int32) < c0)) (q5 : ¬ ((255 : Int32) < c1)) : oMet l Z (⟨z15, "compress", "([CI[BII)I"⟩ : MethodName) jdk_52_method_21_code 7 (some .int) r_cmp5_2 [] #[.ref b, .int 0, .ref d, .int 0, .int 2] h0 (Q_cmp5_2 Z b kb d kd c0 c1 h0) [d] false := by
 refine oEnter (oEW hw) (plainFor_of_name (by first | (simp [plainName, overriddenIn]; done) | decide +kernel)) (own := z15) (nm := "compress") rfl rfl (L := #[.val (.ref b), .val (.int 0), .val (.ref d), .val (.int 0), .val (.int 2), .unset, .unset]) (fun m => by first | (simp [entryFrame, mkF, argsToLocals, Value.category]; done) | rfl) ?_
 intro pp ee ss mm bb mtd cc T0 K X0
 have E0 := X0.ext0
 refine o_iconst K X0 d4_0 rfl (z := 0) rfl ?_
 refine o_istore K X0 d4_1 rfl (L' := #[vR b, vI 0, vR d, vI 0, vI 2, vI 0, uS]) rfl ?_
 refine o_iload K X0 d4_3 rfl rfl ?_
 refine o_iload K X0 d4_5 rfl rfl ?_
 refine o_icmp_ge_f K X0 d4_7 rfl (by decide) ?_
 refine o_aloadN K X0 d4_10 rfl rfl rfl ?_
 refine o_iloadN K X0 d4_11 rfl rfl ?_
 refine o_caload K X0 q0 (by decide) (v := (.int c0)) rfl d4_12 rfl ?_
 refine o_istore K X0 d4_13 rfl (L' := #[vR b, vI 0, vR d, vI 0, vI 2, vI 0, vI c0]) rfl ?_
 refine o_iload K X0 d4_15 rfl rfl ?_
 refine o_sipush K X0 d4_17 rfl (z := 255) rfl ?_
 refine o_icmp_le_t K X0 d4_20 (by decide) (pc' := 26) (by decide) q4 ?_
 refine o_aloadN K X0 d4_26 rfl rfl rfl ?_
 refine o_iloadN K X0 d4_27 rfl rfl ?_
 refine o_iload K X0 d4_28 rfl rfl ?_
 refine o_i2b K X0 d4_30 rfl (z := (nar .byte c0)) rfl ?_
 refine o_bastore K X0 q1 (by decide) (show (0 : Int32).toNatClampNeg < 2 from (by decide)) q2 me0 (z := (.int (nar .byte c0))) (congrArg Value.int (oNarIdembyte _)) d4_31 rfl ?_
 intro T1 h1 X1 W1 A1
 replace A1 : oArr Z h1 d kd .byte [(.int (nar .byte c0)), .int 0] := A1
 refine o_iinc K X1 d4_32 rfl rfl (L' := #[vR b, vI 1, vR d, vI 0, vI 2, vI 0, vI c0]) (by rw [show (0 : Int32) + Int32.ofInt 1 = (1 : Int32) from (by decide)]; rfl) ?_
 refine o_iinc K X1 d4_35 rfl rfl (L' := #[vR b, vI 1, vR d, vI 1, vI 2, vI 0, vI c0]) (by rw [show (0 : Int32) + Int32.ofInt 1 = (1 : Int32) from (by decide)]; rfl) ?_
 refine o_iinc K X1 d4_38 rfl rfl (L' := #[vR b, vI 1, vR d, vI 1, vI 2, vI 1, vI c0]) (by rw [show (0 : Int32) + Int32.ofInt 1 = (1 : Int32) from (by decide)]; rfl) ?_
 refine o_goto K X1 d4_41 (by decide) (pc' := 3) (by decide) ?_
 refine o_iload K X1 d4_3 rfl rfl ?_
 refine o_iload K X1 d4_5 rfl rfl ?_
 refine o_icmp_ge_f K X1 d4_7 rfl (by decide) ?_
 refine o_aloadN K X1 d4_10 rfl rfl rfl ?_
 refine o_iloadN K X1 d4_11 rfl rfl ?_
 have m2 := (q0.other W1 q3)
 refine o_caload K X1 m2 (by decide) (v := (.int c1)) rfl d4_12 rfl ?_
 refine o_istore K X1 d4_13 rfl (L' := #[vR b, vI 1, vR d, vI 1, vI 2, vI 1, vI c1]) rfl ?_
 refine o_iload K X1 d4_15 rfl rfl ?_
 refine o_sipush K X1 d4_17 rfl (z := 255) rfl ?_
 refine o_icmp_le_t K X1 d4_20 (by decide) (pc' := 26) (by decide) q5 ?_
 refine o_aloadN K X1 d4_26 rfl rfl rfl ?_
 refine o_iloadN K X1 d4_27 rfl rfl ?_
 refine o_iload K X1 d4_28 rfl rfl ?_
 refine o_i2b K X1 d4_30 rfl (z := (nar .byte c1)) rfl ?_
 refine o_bastore K X1 A1 (by decide) (show (1 : Int32).toNatClampNeg < 2 from (by decide)) q2 me0 (z := (.int (nar .byte c1))) (congrArg Value.int (oNarIdembyte _)) d4_31 rfl ?_
 intro T3 h3 X3 W3 A3
 replace A3 : oArr Z h3 d kd .byte [(.int (nar .byte c0)), (.int (nar .byte c1))] := A3
 refine o_iinc K X3 d4_32 rfl rfl (L' := #[vR b, vI 2, vR d, vI 1, vI 2, vI 1, vI c1]) (by rw [show (1 : Int32) + Int32.ofInt 1 = (2 : Int32) from (by decide)]; rfl) ?_
 refine o_iinc K X3 d4_35 rfl rfl (L' := #[vR b, vI 2, vR d, vI 2, vI 2, vI 1, vI c1]) (by rw [show (1 : Int32) + Int32.ofInt 1 = (2 : Int32) from (by decide)]; rfl) ?_
 refine o_iinc K X3 d4_38 rfl rfl (L' := #[vR b, vI 2, vR d, vI 2, vI 2, vI 2, vI c1]) (by rw [show (1 : Int32) + Int32.ofInt 1 = (2 : Int32) from (by decide)]; rfl) ?_
 refine o_goto K X3 d4_41 (by decide) (pc' := 3) (by decide) ?_
 refine o_iload K X3 d4_3 rfl rfl ?_
 refine o_iload K X3 d4_5 rfl rfl ?_
 refine o_icmp_ge_t K X3 d4_7 (by decide) (pc' := 44) (by decide) (by decide) ?_
 refine o_iload K X3 d4_44 rfl rfl ?_
 refine o_ireturn K X3 d4_46 rfl ?_ (by decide) (by decide) (by decide)
 exact ⟨rfl, (((Keep.refl h0 [d]).wr W1 (Or.inl me0)).wr W3 (Or.inl me0)), A3⟩
theorem d5_0 : decode jdk_52_method_16_code 0 = .ok (.iload_n 2, 1) := by decide +kernel
theorem d5_1 : decode jdk_52_method_16_code 1 = .ok (.newarray .byte, 2) := by decide +kernel
theorem d5_3 : decode jdk_52_method_16_code 3 = .ok (.astore_n 3, 1) := by decide +kernel
theorem d5_4 : decode jdk_52_method_16_code 4 = .ok (.aload_n 0, 1) := by decide +kernel
theorem d5_5 : decode jdk_52_method_16_code 5 = .ok (.iload_n 1, 1) := by decide +kernel
theorem d5_6 : decode jdk_52_method_16_code 6 = .ok (.aload_n 3, 1) := by decide +kernel
theorem d5_7 : decode jdk_52_method_16_code 7 = .ok (.iconst 0, 1) := by decide +kernel
theorem d5_8 : decode jdk_52_method_16_code 8 = .ok (.iload_n 2, 1) := by decide +kernel
theorem d5_9 : decode jdk_52_method_16_code 9 = .ok (.invokestatic 115, 3) := by decide +kernel
theorem d5_12 : decode jdk_52_method_16_code 12 = .ok (.istore 4, 2) := by decide +kernel
theorem d5_14 : decode jdk_52_method_16_code 14 = .ok (.iload 4, 2) := by decide +kernel
theorem d5_16 : decode jdk_52_method_16_code 16 = .ok (.iload_n 2, 1) := by decide +kernel
theorem d5_17 : decode jdk_52_method_16_code 17 = .ok (.if_icmp .eq 40, 3) := by decide +kernel
theorem d5_57 : decode jdk_52_method_16_code 57 = .ok (.aload_n 3, 1) := by decide +kernel
theorem d5_58 : decode jdk_52_method_16_code 58 = .ok (.areturn, 1) := by decide +kernel
theorem pd3 : parseMethodDescriptor "([CI[BII)I" = some ⟨[(.array .char), .int, (.array .byte), .int, .int], some .int⟩ := by decide +kernel
def r_cmp3_2 : Room := { frames := 1, cells := 1, slots := 2, locals := 18 }
def Q_cmp3_2 (Z : State) (b : Addr) (kb : ClassId) (c0 c1 : Int32) (h0 : Heap) (v : Option Value) (h : Heap) : Prop := ∃ r : Addr, ∃ k : ClassId, v = some (.ref r) ∧ Keep h0 h [] ∧ h0.size ≤ r ∧ oArr Z h r k .byte [(.int (nar .byte c0)), (.int (nar .byte c1))]
theorem rm_cmp3_2 (l : Launch) (Z : State) (a0 : Array Value) (hw : oHw Z a0) (b : Addr) (kb : ClassId) (c0 c1 : Int32) (h0 : Heap) (q0 : oArr Z h0 b kb .char [.int c0, .int c1]) (q1 : ¬ ((255 : Int32) < c0)) (q2 : ¬ ((255 : Int32) < c1)) : oMet l Z (⟨z15, "compress", "([CII)[B"⟩ : MethodName) jdk_52_method_16_code 6 (some (.array .byte)) r_cmp3_2 [] #[.ref b, .int 0, .int 2] h0 (Q_cmp3_2 Z b kb c0 c1 h0) [] false := by
 refine oEnter (oEW hw) (plainFor_of_name (by first | (simp [plainName, overriddenIn]; done) | decide +kernel)) (own := z15) (nm := "compress") rfl rfl (L := #[.val (.ref b), .val (.int 0), .val (.int 2), .unset, .unset, .unset]) (fun m => by first | (simp [entryFrame, mkF, argsToLocals, Value.category]; done) | rfl) ?_
 intro pp ee ss mm bb mtd cc T0 K X0
 have E0 := X0.ext0
 refine o_iloadN K X0 d5_0 rfl rfl ?_
 refine o_newarray K X0 (aty := .byte) 2 (w20 hw) (ad := "[B") (by decide +kernel) (by decide) (by decide) (by decide) rfl d5_1 rfl (by decide) (by decide) ?_
 intro T1 h1 b1 k1 X1 g1 E1 A1 B1 G1
 replace A1 : oArr Z h1 b1 k1 .byte [.int 0, .int 0] := A1
 refine o_astoreN K X1 d5_3 rfl rfl (L' := #[vR b, vI 0, vI 2, vR b1, uS, uS]) rfl ?_
 refine o_aloadN K X1 d5_4 rfl rfl rfl ?_
 refine o_iloadN K X1 d5_5 rfl rfl ?_
 refine o_aloadN K X1 d5_6 rfl rfl rfl ?_
 refine o_iconst K X1 d5_7 rfl (z := 0) rfl ?_
 refine o_iloadN K X1 d5_8 rfl rfl ?_
 have m2 := (q0.ext E1)
 have n3 := oLz q0.lt (oLe g1)
 refine o_static K X1  (w21 hw) (w22 hw) (w18 hw) (w23 hw) (by decide) (rm_cmp5_2 l Z a0 hw b kb b1 k1 c0 c1 h1 m2 A1 G1 n3 q1 q2) (allS me0 all0) (by decide) rfl (argsL := [.ref b, .int 0, .ref b1, .int 0, .int 2]) rfl (lenOf pd3 rfl) (W := 0) rfl (by decide) (by decide) (by decide) d5_9 rfl ?_
 intro v4 T4 h4 FX4 U4
 obtain ⟨rfl, u4_0, u4_1⟩ := U4
 have X4 := FX4 [] (Or.inl rfl) all0
 show oGoes pp ee bb ss Z T4 (mkF mm 12 _ [.int 2]) _ _ _ _
 refine o_istore K X4 d5_12 rfl (L' := #[vR b, vI 0, vI 2, vR b1, vI 2, uS]) rfl ?_
 refine o_iload K X4 d5_14 rfl rfl ?_
 refine o_iloadN K X4 d5_16 rfl rfl ?_
 refine o_icmp_eq_t K X4 d5_17 (by decide) (pc' := 57) (by decide) (by decide) ?_
 refine o_aloadN K X4 d5_57 rfl rfl rfl ?_
 refine o_areturn K X4 (t := (.array .byte)) d5_58 rfl rfl rfl ?_ (by decide) (by decide) (by decide)
 exact ⟨b1, k1, rfl, (((Keep.refl h0 []).ext E1).trans u4_0 (allS (Or.inr (oLe g1)) all0)), (oLe g1), u4_1⟩
theorem d6_0 : decode jdk_52_method_15_code 0 = .ok (.iload_n 1, 1) := by decide +kernel
theorem d6_1 : decode jdk_52_method_15_code 1 = .ok (.aload_n 0, 1) := by decide +kernel
theorem d6_2 : decode jdk_52_method_15_code 2 = .ok (.arraylength, 1) := by decide +kernel
theorem d6_3 : decode jdk_52_method_15_code 3 = .ok (.isub, 1) := by decide +kernel
theorem d6_4 : decode jdk_52_method_15_code 4 = .ok (.bipush 31, 2) := by decide +kernel
theorem d6_6 : decode jdk_52_method_15_code 6 = .ok (.iushr, 1) := by decide +kernel
theorem d6_7 : decode jdk_52_method_15_code 7 = .ok (.i2b, 1) := by decide +kernel
theorem d6_8 : decode jdk_52_method_15_code 8 = .ok (.ireturn, 1) := by decide +kernel
def r_coder_2 : Room := { frames := 0, cells := 0, slots := 0, locals := 0 }
def Q_coder_2 (Z : State) (b : Addr) (kb : ClassId) (c0 c1 : Int32) (h0 : Heap) (v : Option Value) (h : Heap) : Prop := v = some (.int 0) ∧ h0 = h
theorem rm_coder_2 (l : Launch) (Z : State) (a0 : Array Value) (hw : oHw Z a0) (b : Addr) (kb : ClassId) (c0 c1 : Int32) (h0 : Heap) (q0 : oArr Z h0 b kb .byte [.int c0, .int c1]) : oMet l Z (⟨z15, "coderFromArrayLen", "([BI)B"⟩ : MethodName) jdk_52_method_15_code 2 (some .byte) r_coder_2 [] #[.ref b, .int 2] h0 (Q_coder_2 Z b kb c0 c1 h0) [] false := by
 refine oEnter (oEW hw) (plainFor_of_name (by first | (simp [plainName, overriddenIn]; done) | decide +kernel)) (own := z15) (nm := "coderFromArrayLen") rfl rfl (L := #[.val (.ref b), .val (.int 2)]) (fun m => by first | (simp [entryFrame, mkF, argsToLocals, Value.category]; done) | rfl) ?_
 intro pp ee ss mm bb mtd cc T0 K X0
 have E0 := X0.ext0
 refine o_iloadN K X0 d6_0 rfl rfl ?_
 refine o_aloadN K X0 d6_1 rfl rfl rfl ?_
 refine o_arraylength K X0 q0 (z := 2) rfl d6_2 rfl ?_
 refine o_isub K X0 d6_3 rfl (z := 0) (by decide) ?_
 refine o_bipush K X0 d6_4 rfl (z := 31) rfl ?_
 refine o_iushr K X0 d6_6 rfl (z := 0) (by decide) ?_
 refine o_i2b K X0 d6_7 rfl (z := 0) (by decide) ?_
 refine o_ireturnN K X0 .byte d6_8 rfl (by simp) (z' := 0) (by decide) ?_ (by decide) (by decide) (by decide)
 exact ⟨rfl, rfl⟩
theorem d7_0 : decode jdk_42_method_149_code 0 = .ok (.aload_n 0, 1) := by decide +kernel
theorem d7_1 : decode jdk_42_method_149_code 1 = .ok (.invokespecial 1, 3) := by decide +kernel
theorem d7_4 : decode jdk_42_method_149_code 4 = .ok (.iload_n 3, 1) := by decide +kernel
theorem d7_5 : decode jdk_42_method_149_code 5 = .ok (.ifCond .ne 22, 3) := by decide +kernel
theorem d7_27 : decode jdk_42_method_149_code 27 = .ok (.getstatic 38, 3) := by decide +kernel
theorem d7_30 : decode jdk_42_method_149_code 30 = .ok (.ifCond .eq 28, 3) := by decide +kernel
theorem d7_33 : decode jdk_42_method_149_code 33 = .ok (.aload_n 1, 1) := by decide +kernel
theorem d7_34 : decode jdk_42_method_149_code 34 = .ok (.iload_n 2, 1) := by decide +kernel
theorem d7_35 : decode jdk_42_method_149_code 35 = .ok (.iload_n 3, 1) := by decide +kernel
theorem d7_36 : decode jdk_42_method_149_code 36 = .ok (.invokestatic 177, 3) := by decide +kernel
theorem d7_39 : decode jdk_42_method_149_code 39 = .ok (.astore 5, 2) := by decide +kernel
theorem d7_41 : decode jdk_42_method_149_code 41 = .ok (.aload_n 0, 1) := by decide +kernel
theorem d7_42 : decode jdk_42_method_149_code 42 = .ok (.aload 5, 2) := by decide +kernel
theorem d7_44 : decode jdk_42_method_149_code 44 = .ok (.iload_n 3, 1) := by decide +kernel
theorem d7_45 : decode jdk_42_method_149_code 45 = .ok (.invokestatic 47, 3) := by decide +kernel
theorem d7_48 : decode jdk_42_method_149_code 48 = .ok (.putfield 15, 3) := by decide +kernel
theorem d7_51 : decode jdk_42_method_149_code 51 = .ok (.aload_n 0, 1) := by decide +kernel
theorem d7_52 : decode jdk_42_method_149_code 52 = .ok (.aload 5, 2) := by decide +kernel
theorem d7_54 : decode jdk_42_method_149_code 54 = .ok (.putfield 9, 3) := by decide +kernel
theorem d7_57 : decode jdk_42_method_149_code 57 = .ok (.return_, 1) := by decide +kernel
theorem pd4 : parseMethodDescriptor "([CII)[B" = some ⟨[(.array .char), .int, .int], some (.array .byte)⟩ := by decide +kernel
theorem pd5 : parseMethodDescriptor "([BI)B" = some ⟨[(.array .byte), .int], some .byte⟩ := by decide +kernel
def r_str4_2 : Room := { frames := 2, cells := 1, slots := 2, locals := 35 }
def Q_str4_2 (Z : State) (a b : Addr) (kb : ClassId) (cs c0 c1 : Int32) (h0 : Heap) (v : Option Value) (h : Heap) : Prop := ∃ vb : Addr, ∃ k : ClassId, v = none ∧ Keep h0 h [a] ∧ Exa Z h a z0 ∧ Fld Z h a z0 "value" "[B" (.ref vb) ∧ Fld Z h a z0 "coder" "B" (.int 0) ∧ h0.size ≤ vb ∧ oArr Z h vb k .byte [(.int (nar .byte c0)), (.int (nar .byte c1))]
theorem rm_str4_2 (l : Launch) (Z : State) (a0 : Array Value) (hw : oHw Z a0) (a b : Addr) (kb : ClassId) (cs c0 c1 : Int32) (h0 : Heap) (q0 : Exa Z h0 a z0) (q1 : Fld Z h0 a z0 "value" "[B" .null) (q2 : Fld Z h0 a z0 "coder" "B" (.int 0)) (q3 : Z.heap.size ≤ a) (q4 : oArr Z h0 b kb .char [.int c0, .int c1]) (q5 : Sta Z Z.heap z0 z5 "Z" (.int cs)) (q6 : ¬ (cs = (0 : Int32))) (q7 : ¬ ((255 : Int32) < c0)) (q8 : ¬ ((255 : Int32) < c1)) : oMet l Z (⟨z0, "<init>", "([CIILjava/lang/Void;)V"⟩ : MethodName) jdk_42_method_149_code 6 none r_str4_2 [] #[.ref a, .ref b, .int 0, .int 2, .null] h0 (Q_str4_2 Z a b kb cs c0 c1 h0) [a] false := by
 refine oEnter (oEW hw) (plainFor_of_name (by first | (simp [plainName, overriddenIn]; done) | decide +kernel)) (own := z0) (nm := "<init>") rfl rfl (L := #[.val (.ref a), .val (.ref b), .val (.int 0), .val (.int 2), .val .null, .unset]) (fun m => by first | (simp [entryFrame, mkF, argsToLocals, Value.category]; done) | rfl) ?_
 intro pp ee ss mm bb mtd cc T0 K X0
 have E0 := X0.ext0
 refine o_aloadN K X0 d7_0 rfl rfl rfl ?_
 refine o_initObj K X0 (w12 hw) (w13 hw) (w14 hw) d7_1 rfl rfl (by decide) (W := 0) rfl (by decide) ?_
 intro T1 X1
 refine o_iloadN K X1 d7_4 rfl rfl ?_
 refine o_if_ne_t K X1 d7_5 (by decide) (pc' := 27) (by decide) (by decide) ?_
 refine o_getstatic K X1 (host := "") (Or.inl (w15 hw)) Via.refl (q5.ext X1.ext0) d7_27 rfl ?_
 intro T2 X2
 refine o_if_eq_f K X2 d7_30 rfl q6 ?_
 refine o_aloadN K X2 d7_33 rfl rfl rfl ?_
 refine o_iloadN K X2 d7_34 rfl rfl ?_
 refine o_iloadN K X2 d7_35 rfl rfl ?_
 refine o_static K X2  (w16 hw) (w17 hw) (w18 hw) (w19 hw) (by decide) (rm_cmp3_2 l Z a0 hw b kb c0 c1 h0 q4 q7 q8) all0 (by decide) rfl (argsL := [.ref b, .int 0, .int 2]) rfl (lenOf pd4 rfl) (W := 0) rfl (by decide) (by decide) (by decide) d7_36 rfl ?_
 intro v3 T3 h3 FX3 U3
 obtain ⟨r_3, k_3, rfl, u3_0, u3_1, u3_2⟩ := U3
 have G3_r : Z.heap.size ≤ r_3 := Nat.le_trans X2.ext0.1 u3_1
 have X3 := FX3 [r_3] (Or.inl rfl) (allS ⟨u3_1, u3_2.lt⟩ all0)
 show oGoes pp ee bb ss Z T3 (mkF mm 39 _ [.ref r_3]) _ _ _ _
 refine o_astore K X3 d7_39 rfl rfl (L' := #[vR a, vR b, vI 0, vI 2, vN, vR r_3]) rfl ?_
 refine o_aloadN K X3 d7_41 rfl rfl rfl ?_
 refine o_aload K X3 d7_42 rfl rfl rfl ?_
 refine o_iloadN K X3 d7_44 rfl rfl ?_
 refine o_static K X3  (w24 hw) (w25 hw) (w18 hw) (w26 hw) (by decide) (rm_coder_2 l Z a0 hw r_3 k_3 (nar .byte c0) (nar .byte c1) h3 u3_2) all0 (by decide) rfl (argsL := [.ref r_3, .int 2]) rfl (lenOf pd5 rfl) (W := 1) rfl (by decide) (by decide) (by decide) d7_45 rfl ?_
 intro v4 T4 h4 FX4 U4
 obtain ⟨rfl, rfl⟩ := U4
 have X4 := FX4 [] (Or.inl rfl) all0
 show oGoes pp ee bb ss Z T4 (mkF mm 48 _ [.int 0, .ref a]) _ _ _ _
 have m6 := (q2.keep u3_0 nin0)
 have m7 := (q0.keep u3_0)
 refine o_putfieldN K X4 (w27 hw) Via.refl m6 m7 (Or.inr ⟨(w28 hw), rfl, rfl⟩) (w3 hw) (ty := .byte) (by decide) (v' := (.int 0)) (congrArg Value.int (by decide)) (oFitbyte (x := (0 : Int32)) (by decide)) q3 me1 d7_48 rfl ?_
 intro T5 h5 X5 W5
 have F5 := Fld.same W5 m6
 refine o_aloadN K X5 d7_51 rfl rfl rfl ?_
 refine o_aload K X5 d7_52 rfl rfl rfl ?_
 have m9 := (Fld.other W5 (q1.keep u3_0 nin0) (Or.inr (slot_ne (Or.inr (w30 hw)) (Or.inr (w28 hw)) (by decide) (t := (.array .byte)) (t' := .byte) (by decide) (by decide))))
 have m10 := (Exa.wr W5 m7)
 refine o_putfield K X5 (host := "") (Or.inl (w29 hw)) Via.refl m9 m10 (Or.inr ⟨(w30 hw), rfl, rfl⟩) (w3 hw) (ty := (.array .byte)) (by decide) rfl rfl q3 me1 d7_54 rfl ?_
 intro T8 h8 X8 W8
 have F8 := Fld.same W8 m9
 refine o_return K X8 d7_57 rfl ?_ (by decide) (by decide) (by decide)
 have m11 := (Exa.wr W8 m10)
 have m12 := (Fld.other W8 F5 (Or.inr (slot_ne (Or.inr (w28 hw)) (Or.inr (w30 hw)) (by decide) (t := .byte) (t' := (.array .byte)) (by decide) (by decide))))
 have n13 := oLsz q0.lt u3_1
 have m14 := ((u3_2.other W5 n13).other W8 n13)
 exact ⟨r_3, k_3, rfl, ((((Keep.refl h0 [a]).trans u3_0 all0).wr W5 (Or.inl me0)).wr W8 (Or.inl me0)), m11, F8, m12, u3_1, m14⟩
theorem d8_0 : decode jdk_42_method_3_code 0 = .ok (.aload_n 0, 1) := by decide +kernel
theorem d8_1 : decode jdk_42_method_3_code 1 = .ok (.aload_n 1, 1) := by decide +kernel
theorem d8_2 : decode jdk_42_method_3_code 2 = .ok (.iconst 0, 1) := by decide +kernel
theorem d8_3 : decode jdk_42_method_3_code 3 = .ok (.aload_n 1, 1) := by decide +kernel
theorem d8_4 : decode jdk_42_method_3_code 4 = .ok (.arraylength, 1) := by decide +kernel
theorem d8_5 : decode jdk_42_method_3_code 5 = .ok (.aconst_null, 1) := by decide +kernel
theorem d8_6 : decode jdk_42_method_3_code 6 = .ok (.invokespecial 27, 3) := by decide +kernel
theorem d8_9 : decode jdk_42_method_3_code 9 = .ok (.return_, 1) := by decide +kernel
theorem pd6 : parseMethodDescriptor "([CIILjava/lang/Void;)V" = some ⟨[(.array .char), .int, .int, (.object "java/lang/Void")], none⟩ := by decide +kernel
def r_str_2 : Room := { frames := 3, cells := 1, slots := 2, locals := 52 }
def Q_str_2 (Z : State) (a b : Addr) (kb : ClassId) (cs c0 c1 : Int32) (h0 : Heap) (v : Option Value) (h : Heap) : Prop := ∃ vb : Addr, ∃ k : ClassId, v = none ∧ Keep h0 h [a] ∧ Exa Z h a z0 ∧ Fld Z h a z0 "value" "[B" (.ref vb) ∧ Fld Z h a z0 "coder" "B" (.int 0) ∧ h0.size ≤ vb ∧ oArr Z h vb k .byte [(.int (nar .byte c0)), (.int (nar .byte c1))]
theorem rm_str_2 (l : Launch) (Z : State) (a0 : Array Value) (hw : oHw Z a0) (a b : Addr) (kb : ClassId) (cs c0 c1 : Int32) (h0 : Heap) (q0 : Exa Z h0 a z0) (q1 : Fld Z h0 a z0 "value" "[B" .null) (q2 : Fld Z h0 a z0 "coder" "B" (.int 0)) (q3 : Z.heap.size ≤ a) (q4 : oArr Z h0 b kb .char [.int c0, .int c1]) (q5 : Sta Z Z.heap z0 z5 "Z" (.int cs)) (q6 : ¬ (cs = (0 : Int32))) (q7 : ¬ ((255 : Int32) < c0)) (q8 : ¬ ((255 : Int32) < c1)) : oMet l Z (⟨z0, "<init>", "([C)V"⟩ : MethodName) jdk_42_method_3_code 2 none r_str_2 [] #[.ref a, .ref b] h0 (Q_str_2 Z a b kb cs c0 c1 h0) [a] false := by
 refine oEnter (oEW hw) (plainFor_of_name (by first | (simp [plainName, overriddenIn]; done) | decide +kernel)) (own := z0) (nm := "<init>") rfl rfl (L := #[.val (.ref a), .val (.ref b)]) (fun m => by first | (simp [entryFrame, mkF, argsToLocals, Value.category]; done) | rfl) ?_
 intro pp ee ss mm bb mtd cc T0 K X0
 have E0 := X0.ext0
 refine o_aloadN K X0 d8_0 rfl rfl rfl ?_
 refine o_aloadN K X0 d8_1 rfl rfl rfl ?_
 refine o_iconst K X0 d8_2 rfl (z := 0) rfl ?_
 refine o_aloadN K X0 d8_3 rfl rfl rfl ?_
 refine o_arraylength K X0 q4 (z := 2) rfl d8_4 rfl ?_
 refine o_aconst_null K X0 d8_5 rfl ?_
 refine o_special K X0 (y := (⟨z0, "<init>", "([CIILjava/lang/Void;)V"⟩ : MethodName)) rfl (w8 hw) (w9 hw) (w4 hw) (w11 hw) (by decide) (rm_str4_2 l Z a0 hw a b kb cs c0 c1 h0 q0 q1 q2 q3 q4 q5 q6 q7 q8) (allS me0 all0) (by decide) rfl (argsL := [.ref b, .int 0, .int 2, .null]) rfl (lenOf pd6 rfl) (W := 0) rfl (by decide) (by decide) (by decide) d8_6 rfl ?_
 intro v1 T1 h1 FX1 U1
 obtain ⟨vb_1, k_1, rfl, u1_0, u1_1, u1_2, u1_3, u1_4, u1_5⟩ := U1
 have G1_vb : Z.heap.size ≤ vb_1 := Nat.le_trans X0.ext0.1 u1_4
 have X1 := FX1 [vb_1] (Or.inl rfl) (allS ⟨u1_4, u1_5.lt⟩ all0)
 show oGoes pp ee bb ss Z T1 (mkF mm 9 _ []) _ _ _ _
 refine o_return K X1 d8_9 rfl ?_ (by decide) (by decide) (by decide)
 exact ⟨vb_1, k_1, rfl, ((Keep.refl h0 [a]).trans u1_0 (allS (Or.inl me0) all0)), u1_1, u1_2, u1_3, u1_4, u1_5⟩
def r_cmp5_7 : Room := { frames := 0, cells := 0, slots := 0, locals := 0 }
def Q_cmp5_7 (Z : State) (b : Addr) (kb : ClassId) (d : Addr) (kd : ClassId) (c0 c1 c2 c3 c4 c5 c6 : Int32) (h0 : Heap) (v : Option Value) (h : Heap) : Prop := v = some (.int 7) ∧ Keep h0 h [d] ∧ oArr Z h d kd .byte [(.int (nar .byte c0)), (.int (nar .byte c1)), (.int (nar .byte c2)), (.int (nar .byte c3)), (.int (nar .byte c4)), (.int (nar .byte c5)), (.int (nar .byte c6))]
theorem rm_cmp5_7 (l : Launch) (Z : State) (a0 : Array Value) (hw : oHw Z a0) (b : Addr) (kb : ClassId) (d : Addr) (kd : ClassId) (c0 c1 c2 c3 c4 c5 c6 : Int32) (h0 : Heap) (q0 : oArr Z h0 b kb .char [.int c0, .int c1, .int c2, .int c3, .int c4, .int c5, .int c6]) (q1 : oArr Z h0 d kd .byte [.int 0, .int 0, .int 0, .int 0, .int 0, .int 0, .int 0]) (q2 : Z.heap.size ≤ d) (q3 : b ≠ d) (q4 : ¬ ((255 : Int32) < c0)) (q5 : ¬ ((255 : Int32) < c1)) (q6 : ¬ ((255 : Int32) < c2)) (q7 : ¬ ((255 : Int32) < c3)) (q8 : ¬ ((255 : Int32) < c4)) (q9 : ¬ ((255 : Int32) < c5)) (q10 : ¬ ((255 : Int32) < c6)) : oMet l Z (⟨z15, "compress", "([CI[BII)I"⟩ : MethodName) jdk_52_method_21_code 7 (some .int) r_cmp5_7 [] #[.ref b, .int 0, .ref d, .int 0, .int 7] h0 (Q_cmp5_7 Z b kb d kd c0 c1 c2 c3 c4 c5 c6 h0) [d] false := by
 refine oEnter (oEW hw) (plainFor_of_name (by first | (simp [plainName, overriddenIn]; done) | decide +kernel)) (own := z15) (nm := "compress") rfl rfl (L := #[.val (.ref b), .val (.int 0), .val (.ref d), .val (.int 0), .val (.int 7), .unset, .unset]) (fun m => by first | (simp [entryFrame, mkF, argsToLocals, Value.category]; done) | rfl) ?_
 intro pp ee ss mm bb mtd cc T0 K X0
 have E0 := X0.ext0
 refine o_iconst K X0 d4_0 rfl (z := 0) rfl ?_
 refine o_istore K X0 d4_1 rfl (L' := #[vR b, vI 0, vR d, vI 0, vI 7, vI 0, uS]) rfl ?_
 refine o_iload K X0 d4_3 rfl rfl ?_
 refine o_iload K X0 d4_5 rfl rfl ?_
 refine o_icmp_ge_f K X0 d4_7 rfl (by decide) ?_
 refine o_aloadN K X0 d4_10 rfl rfl rfl ?_
 refine o_iloadN K X0 d4_11 rfl rfl ?_
 refine o_caload K X0 q0 (by decide) (v := (.int c0)) rfl d4_12 rfl ?_
 refine o_istore K X0 d4_13 rfl (L' := #[vR b, vI 0, vR d, vI 0, vI 7, vI 0, vI c0]) rfl ?_
 refine o_iload K X0 d4_15 rfl rfl ?_
 refine o_sipush K X0 d4_17 rfl (z := 255) rfl ?_
 refine o_icmp_le_t K X0 d4_20 (by decide) (pc' := 26) (by decide) q4 ?_
 refine o_aloadN K X0 d4_26 rfl rfl rfl ?_
 refine o_iloadN K X0 d4_27 rfl rfl ?_
 refine o_iload K X0 d4_28 rfl rfl ?_
 refine o_i2b K X0 d4_30 rfl (z := (nar .byte c0)) rfl ?_
 refine o_bastore K X0 q1 (by decide) (show (0 : Int32).toNatClampNeg < 7 from (by decide)) q2 me0 (z := (.int (nar .byte c0))) (congrArg Value.int (oNarIdembyte _)) d4_31 rfl ?_
 intro T1 h1 X1 W1 A1
 replace A1 : oArr Z h1 d kd .byte [(.int (nar .byte c0)), .int 0, .int 0, .int 0, .int 0, .int 0, .int 0] := A1
 refine o_iinc K X1 d4_32 rfl rfl (L' := #[vR b, vI 1, vR d, vI 0, vI 7, vI 0, vI c0]) (by rw [show (0 : Int32) + Int32.ofInt 1 = (1 : Int32) from (by decide)]; rfl) ?_
 refine o_iinc K X1 d4_35 rfl rfl (L' := #[vR b, vI 1, vR d, vI 1, vI 7, vI 0, vI c0]) (by rw [show (0 : Int32) + Int32.ofInt 1 = (1 : Int32) from (by decide)]; rfl) ?_
 refine o_iinc K X1 d4_38 rfl rfl (L' := #[vR b, vI 1, vR d, vI 1, vI 7, vI 1, vI c0]) (by rw [show (0 : Int32) + Int32.ofInt 1 = (1 : Int32) from (by decide)]; rfl) ?_
 refine o_goto K X1 d4_41 (by decide) (pc' := 3) (by decide) ?_
 refine o_iload K X1 d4_3 rfl rfl ?_
 refine o_iload K X1 d4_5 rfl rfl ?_
 refine o_icmp_ge_f K X1 d4_7 rfl (by decide) ?_
 refine o_aloadN K X1 d4_10 rfl rfl rfl ?_
 refine o_iloadN K X1 d4_11 rfl rfl ?_
 have m2 := (q0.other W1 q3)
 refine o_caload K X1 m2 (by decide) (v := (.int c1)) rfl d4_12 rfl ?_
 refine o_istore K X1 d4_13 rfl (L' := #[vR b, vI 1, vR d, vI 1, vI 7, vI 1, vI c1]) rfl ?_
 refine o_iload K X1 d4_15 rfl rfl ?_
 refine o_sipush K X1 d4_17 rfl (z := 255) rfl ?_
 refine o_icmp_le_t K X1 d4_20 (by decide) (pc' := 26) (by decide) q5 ?_
 refine o_aloadN K X1 d4_26 rfl rfl rfl ?_
 refine o_iloadN K X1 d4_27 rfl rfl ?_
 refine o_iload K X1 d4_28 rfl rfl ?_
 refine o_i2b K X1 d4_30 rfl (z := (nar .byte c1)) rfl ?_
 refine o_bastore K X1 A1 (by decide) (show (1 : Int32).toNatClampNeg < 7 from (by decide)) q2 me0 (z := (.int (nar .byte c1))) (congrArg Value.int (oNarIdembyte _)) d4_31 rfl ?_
 intro T3 h3 X3 W3 A3
 replace A3 : oArr Z h3 d kd .byte [(.int (nar .byte c0)), (.int (nar .byte c1)), .int 0, .int 0, .int 0, .int 0, .int 0] := A3
 refine o_iinc K X3 d4_32 rfl rfl (L' := #[vR b, vI 2, vR d, vI 1, vI 7, vI 1, vI c1]) (by rw [show (1 : Int32) + Int32.ofInt 1 = (2 : Int32) from (by decide)]; rfl) ?_
 refine o_iinc K X3 d4_35 rfl rfl (L' := #[vR b, vI 2, vR d, vI 2, vI 7, vI 1, vI c1]) (by rw [show (1 : Int32) + Int32.ofInt 1 = (2 : Int32) from (by decide)]; rfl) ?_
 refine o_iinc K X3 d4_38 rfl rfl (L' := #[vR b, vI 2, vR d, vI 2, vI 7, vI 2, vI c1]) (by rw [show (1 : Int32) + Int32.ofInt 1 = (2 : Int32) from (by decide)]; rfl) ?_
 refine o_goto K X3 d4_41 (by decide) (pc' := 3) (by decide) ?_
 refine o_iload K X3 d4_3 rfl rfl ?_
 refine o_iload K X3 d4_5 rfl rfl ?_
 refine o_icmp_ge_f K X3 d4_7 rfl (by decide) ?_
 refine o_aloadN K X3 d4_10 rfl rfl rfl ?_
 refine o_iloadN K X3 d4_11 rfl rfl ?_
 have m4 := (m2.other W3 q3)
 refine o_caload K X3 m4 (by decide) (v := (.int c2)) rfl d4_12 rfl ?_
 refine o_istore K X3 d4_13 rfl (L' := #[vR b, vI 2, vR d, vI 2, vI 7, vI 2, vI c2]) rfl ?_
 refine o_iload K X3 d4_15 rfl rfl ?_
 refine o_sipush K X3 d4_17 rfl (z := 255) rfl ?_
 refine o_icmp_le_t K X3 d4_20 (by decide) (pc' := 26) (by decide) q6 ?_
 refine o_aloadN K X3 d4_26 rfl rfl rfl ?_
 refine o_iloadN K X3 d4_27 rfl rfl ?_
 refine o_iload K X3 d4_28 rfl rfl ?_
 refine o_i2b K X3 d4_30 rfl (z := (nar .byte c2)) rfl ?_
 refine o_bastore K X3 A3 (by decide) (show (2 : Int32).toNatClampNeg < 7 from (by decide)) q2 me0 (z := (.int (nar .byte c2))) (congrArg Value.int (oNarIdembyte _)) d4_31 rfl ?_
 intro T5 h5 X5 W5 A5
 replace A5 : oArr Z h5 d kd .byte [(.int (nar .byte c0)), (.int (nar .byte c1)), (.int (nar .byte c2)), .int 0, .int 0, .int 0, .int 0] := A5
 refine o_iinc K X5 d4_32 rfl rfl (L' := #[vR b, vI 3, vR d, vI 2, vI 7, vI 2, vI c2]) (by rw [show (2 : Int32) + Int32.ofInt 1 = (3 : Int32) from (by decide)]; rfl) ?_
 refine o_iinc K X5 d4_35 rfl rfl (L' := #[vR b, vI 3, vR d, vI 3, vI 7, vI 2, vI c2]) (by rw [show (2 : Int32) + Int32.ofInt 1 = (3 : Int32) from (by decide)]; rfl) ?_
 refine o_iinc K X5 d4_38 rfl rfl (L' := #[vR b, vI 3, vR d, vI 3, vI 7, vI 3, vI c2]) (by rw [show (2 : Int32) + Int32.ofInt 1 = (3 : Int32) from (by decide)]; rfl) ?_
 refine o_goto K X5 d4_41 (by decide) (pc' := 3) (by decide) ?_
 refine o_iload K X5 d4_3 rfl rfl ?_
 refine o_iload K X5 d4_5 rfl rfl ?_
 refine o_icmp_ge_f K X5 d4_7 rfl (by decide) ?_
 refine o_aloadN K X5 d4_10 rfl rfl rfl ?_
 refine o_iloadN K X5 d4_11 rfl rfl ?_
 have m6 := (m4.other W5 q3)
 refine o_caload K X5 m6 (by decide) (v := (.int c3)) rfl d4_12 rfl ?_
 refine o_istore K X5 d4_13 rfl (L' := #[vR b, vI 3, vR d, vI 3, vI 7, vI 3, vI c3]) rfl ?_
 refine o_iload K X5 d4_15 rfl rfl ?_
 refine o_sipush K X5 d4_17 rfl (z := 255) rfl ?_
 refine o_icmp_le_t K X5 d4_20 (by decide) (pc' := 26) (by decide) q7 ?_
 refine o_aloadN K X5 d4_26 rfl rfl rfl ?_
 refine o_iloadN K X5 d4_27 rfl rfl ?_
 refine o_iload K X5 d4_28 rfl rfl ?_
 refine o_i2b K X5 d4_30 rfl (z := (nar .byte c3)) rfl ?_
 refine o_bastore K X5 A5 (by decide) (show (3 : Int32).toNatClampNeg < 7 from (by decide)) q2 me0 (z := (.int (nar .byte c3))) (congrArg Value.int (oNarIdembyte _)) d4_31 rfl ?_
 intro T7 h7 X7 W7 A7
 replace A7 : oArr Z h7 d kd .byte [(.int (nar .byte c0)), (.int (nar .byte c1)), (.int (nar .byte c2)), (.int (nar .byte c3)), .int 0, .int 0, .int 0] := A7
 refine o_iinc K X7 d4_32 rfl rfl (L' := #[vR b, vI 4, vR d, vI 3, vI 7, vI 3, vI c3]) (by rw [show (3 : Int32) + Int32.ofInt 1 = (4 : Int32) from (by decide)]; rfl) ?_
 refine o_iinc K X7 d4_35 rfl rfl (L' := #[vR b, vI 4, vR d, vI 4, vI 7, vI 3, vI c3]) (by rw [show (3 : Int32) + Int32.ofInt 1 = (4 : Int32) from (by decide)]; rfl) ?_
 refine o_iinc K X7 d4_38 rfl rfl (L' := #[vR b, vI 4, vR d, vI 4, vI 7, vI 4, vI c3]) (by rw [show (3 : Int32) + Int32.ofInt 1 = (4 : Int32) from (by decide)]; rfl) ?_
 refine o_goto K X7 d4_41 (by decide) (pc' := 3) (by decide) ?_
 refine o_iload K X7 d4_3 rfl rfl ?_
 refine o_iload K X7 d4_5 rfl rfl ?_
 refine o_icmp_ge_f K X7 d4_7 rfl (by decide) ?_
 refine o_aloadN K X7 d4_10 rfl rfl rfl ?_
 refine o_iloadN K X7 d4_11 rfl rfl ?_
 have m8 := (m6.other W7 q3)
 refine o_caload K X7 m8 (by decide) (v := (.int c4)) rfl d4_12 rfl ?_
 refine o_istore K X7 d4_13 rfl (L' := #[vR b, vI 4, vR d, vI 4, vI 7, vI 4, vI c4]) rfl ?_
 refine o_iload K X7 d4_15 rfl rfl ?_
 refine o_sipush K X7 d4_17 rfl (z := 255) rfl ?_
 refine o_icmp_le_t K X7 d4_20 (by decide) (pc' := 26) (by decide) q8 ?_
 refine o_aloadN K X7 d4_26 rfl rfl rfl ?_
 refine o_iloadN K X7 d4_27 rfl rfl ?_
 refine o_iload K X7 d4_28 rfl rfl ?_
 refine o_i2b K X7 d4_30 rfl (z := (nar .byte c4)) rfl ?_
 refine o_bastore K X7 A7 (by decide) (show (4 : Int32).toNatClampNeg < 7 from (by decide)) q2 me0 (z := (.int (nar .byte c4))) (congrArg Value.int (oNarIdembyte _)) d4_31 rfl ?_
 intro T9 h9 X9 W9 A9
 replace A9 : oArr Z h9 d kd .byte [(.int (nar .byte c0)), (.int (nar .byte c1)), (.int (nar .byte c2)), (.int (nar .byte c3)), (.int (nar .byte c4)), .int 0, .int 0] := A9
 refine o_iinc K X9 d4_32 rfl rfl (L' := #[vR b, vI 5, vR d, vI 4, vI 7, vI 4, vI c4]) (by rw [show (4 : Int32) + Int32.ofInt 1 = (5 : Int32) from (by decide)]; rfl) ?_
 refine o_iinc K X9 d4_35 rfl rfl (L' := #[vR b, vI 5, vR d, vI 5, vI 7, vI 4, vI c4]) (by rw [show (4 : Int32) + Int32.ofInt 1 = (5 : Int32) from (by decide)]; rfl) ?_
 refine o_iinc K X9 d4_38 rfl rfl (L' := #[vR b, vI 5, vR d, vI 5, vI 7, vI 5, vI c4]) (by rw [show (4 : Int32) + Int32.ofInt 1 = (5 : Int32) from (by decide)]; rfl) ?_
 refine o_goto K X9 d4_41 (by decide) (pc' := 3) (by decide) ?_
 refine o_iload K X9 d4_3 rfl rfl ?_
 refine o_iload K X9 d4_5 rfl rfl ?_
 refine o_icmp_ge_f K X9 d4_7 rfl (by decide) ?_
 refine o_aloadN K X9 d4_10 rfl rfl rfl ?_
 refine o_iloadN K X9 d4_11 rfl rfl ?_
 have m10 := (m8.other W9 q3)
 refine o_caload K X9 m10 (by decide) (v := (.int c5)) rfl d4_12 rfl ?_
 refine o_istore K X9 d4_13 rfl (L' := #[vR b, vI 5, vR d, vI 5, vI 7, vI 5, vI c5]) rfl ?_
 refine o_iload K X9 d4_15 rfl rfl ?_
 refine o_sipush K X9 d4_17 rfl (z := 255) rfl ?_
 refine o_icmp_le_t K X9 d4_20 (by decide) (pc' := 26) (by decide) q9 ?_
 refine o_aloadN K X9 d4_26 rfl rfl rfl ?_
 refine o_iloadN K X9 d4_27 rfl rfl ?_
 refine o_iload K X9 d4_28 rfl rfl ?_
 refine o_i2b K X9 d4_30 rfl (z := (nar .byte c5)) rfl ?_
 refine o_bastore K X9 A9 (by decide) (show (5 : Int32).toNatClampNeg < 7 from (by decide)) q2 me0 (z := (.int (nar .byte c5))) (congrArg Value.int (oNarIdembyte _)) d4_31 rfl ?_
 intro T11 h11 X11 W11 A11
 replace A11 : oArr Z h11 d kd .byte [(.int (nar .byte c0)), (.int (nar .byte c1)), (.int (nar .byte c2)), (.int (nar .byte c3)), (.int (nar .byte c4)), (.int (nar .byte c5)), .int 0] := A11
 refine o_iinc K X11 d4_32 rfl rfl (L' := #[vR b, vI 6, vR d, vI 5, vI 7, vI 5, vI c5]) (by rw [show (5 : Int32) + Int32.ofInt 1 = (6 : Int32) from (by decide)]; rfl) ?_
 refine o_iinc K X11 d4_35 rfl rfl (L' := #[vR b, vI 6, vR d, vI 6, vI 7, vI 5, vI c5]) (by rw [show (5 : Int32) + Int32.ofInt 1 = (6 : Int32) from (by decide)]; rfl) ?_
 refine o_iinc K X11 d4_38 rfl rfl (L' := #[vR b, vI 6, vR d, vI 6, vI 7, vI 6, vI c5]) (by rw [show (5 : Int32) + Int32.ofInt 1 = (6 : Int32) from (by decide)]; rfl) ?_
 refine o_goto K X11 d4_41 (by decide) (pc' := 3) (by decide) ?_
 refine o_iload K X11 d4_3 rfl rfl ?_
 refine o_iload K X11 d4_5 rfl rfl ?_
 refine o_icmp_ge_f K X11 d4_7 rfl (by decide) ?_
 refine o_aloadN K X11 d4_10 rfl rfl rfl ?_
 refine o_iloadN K X11 d4_11 rfl rfl ?_
 have m12 := (m10.other W11 q3)
 refine o_caload K X11 m12 (by decide) (v := (.int c6)) rfl d4_12 rfl ?_
 refine o_istore K X11 d4_13 rfl (L' := #[vR b, vI 6, vR d, vI 6, vI 7, vI 6, vI c6]) rfl ?_
 refine o_iload K X11 d4_15 rfl rfl ?_
 refine o_sipush K X11 d4_17 rfl (z := 255) rfl ?_
 refine o_icmp_le_t K X11 d4_20 (by decide) (pc' := 26) (by decide) q10 ?_
 refine o_aloadN K X11 d4_26 rfl rfl rfl ?_
 refine o_iloadN K X11 d4_27 rfl rfl ?_
 refine o_iload K X11 d4_28 rfl rfl ?_
 refine o_i2b K X11 d4_30 rfl (z := (nar .byte c6)) rfl ?_
 refine o_bastore K X11 A11 (by decide) (show (6 : Int32).toNatClampNeg < 7 from (by decide)) q2 me0 (z := (.int (nar .byte c6))) (congrArg Value.int (oNarIdembyte _)) d4_31 rfl ?_
 intro T13 h13 X13 W13 A13
 replace A13 : oArr Z h13 d kd .byte [(.int (nar .byte c0)), (.int (nar .byte c1)), (.int (nar .byte c2)), (.int (nar .byte c3)), (.int (nar .byte c4)), (.int (nar .byte c5)), (.int (nar .byte c6))] := A13
 refine o_iinc K X13 d4_32 rfl rfl (L' := #[vR b, vI 7, vR d, vI 6, vI 7, vI 6, vI c6]) (by rw [show (6 : Int32) + Int32.ofInt 1 = (7 : Int32) from (by decide)]; rfl) ?_
 refine o_iinc K X13 d4_35 rfl rfl (L' := #[vR b, vI 7, vR d, vI 7, vI 7, vI 6, vI c6]) (by rw [show (6 : Int32) + Int32.ofInt 1 = (7 : Int32) from (by decide)]; rfl) ?_
 refine o_iinc K X13 d4_38 rfl rfl (L' := #[vR b, vI 7, vR d, vI 7, vI 7, vI 7, vI c6]) (by rw [show (6 : Int32) + Int32.ofInt 1 = (7 : Int32) from (by decide)]; rfl) ?_
 refine o_goto K X13 d4_41 (by decide) (pc' := 3) (by decide) ?_
 refine o_iload K X13 d4_3 rfl rfl ?_
 refine o_iload K X13 d4_5 rfl rfl ?_
 refine o_icmp_ge_t K X13 d4_7 (by decide) (pc' := 44) (by decide) (by decide) ?_
 refine o_iload K X13 d4_44 rfl rfl ?_
 refine o_ireturn K X13 d4_46 rfl ?_ (by decide) (by decide) (by decide)
 exact ⟨rfl, ((((((((Keep.refl h0 [d]).wr W1 (Or.inl me0)).wr W3 (Or.inl me0)).wr W5 (Or.inl me0)).wr W7 (Or.inl me0)).wr W9 (Or.inl me0)).wr W11 (Or.inl me0)).wr W13 (Or.inl me0)), A13⟩
def r_cmp3_7 : Room := { frames := 1, cells := 1, slots := 7, locals := 18 }
def Q_cmp3_7 (Z : State) (b : Addr) (kb : ClassId) (c0 c1 c2 c3 c4 c5 c6 : Int32) (h0 : Heap) (v : Option Value) (h : Heap) : Prop := ∃ r : Addr, ∃ k : ClassId, v = some (.ref r) ∧ Keep h0 h [] ∧ h0.size ≤ r ∧ oArr Z h r k .byte [(.int (nar .byte c0)), (.int (nar .byte c1)), (.int (nar .byte c2)), (.int (nar .byte c3)), (.int (nar .byte c4)), (.int (nar .byte c5)), (.int (nar .byte c6))]
theorem rm_cmp3_7 (l : Launch) (Z : State) (a0 : Array Value) (hw : oHw Z a0) (b : Addr) (kb : ClassId) (c0 c1 c2 c3 c4 c5 c6 : Int32) (h0 : Heap) (q0 : oArr Z h0 b kb .char [.int c0, .int c1, .int c2, .int c3, .int c4, .int c5, .int c6]) (q1 : ¬ ((255 : Int32) < c0)) (q2 : ¬ ((255 : Int32) < c1)) (q3 : ¬ ((255 : Int32) < c2)) (q4 : ¬ ((255 : Int32) < c3)) (q5 : ¬ ((255 : Int32) < c4)) (q6 : ¬ ((255 : Int32) < c5)) (q7 : ¬ ((255 : Int32) < c6)) : oMet l Z (⟨z15, "compress", "([CII)[B"⟩ : MethodName) jdk_52_method_16_code 6 (some (.array .byte)) r_cmp3_7 [] #[.ref b, .int 0, .int 7] h0 (Q_cmp3_7 Z b kb c0 c1 c2 c3 c4 c5 c6 h0) [] false := by
 refine oEnter (oEW hw) (plainFor_of_name (by first | (simp [plainName, overriddenIn]; done) | decide +kernel)) (own := z15) (nm := "compress") rfl rfl (L := #[.val (.ref b), .val (.int 0), .val (.int 7), .unset, .unset, .unset]) (fun m => by first | (simp [entryFrame, mkF, argsToLocals, Value.category]; done) | rfl) ?_
 intro pp ee ss mm bb mtd cc T0 K X0
 have E0 := X0.ext0
 refine o_iloadN K X0 d5_0 rfl rfl ?_
 refine o_newarray K X0 (aty := .byte) 7 (w20 hw) (ad := "[B") (by decide +kernel) (by decide) (by decide) (by decide) rfl d5_1 rfl (by decide) (by decide) ?_
 intro T1 h1 b1 k1 X1 g1 E1 A1 B1 G1
 replace A1 : oArr Z h1 b1 k1 .byte [.int 0, .int 0, .int 0, .int 0, .int 0, .int 0, .int 0] := A1
 refine o_astoreN K X1 d5_3 rfl rfl (L' := #[vR b, vI 0, vI 7, vR b1, uS, uS]) rfl ?_
 refine o_aloadN K X1 d5_4 rfl rfl rfl ?_
 refine o_iloadN K X1 d5_5 rfl rfl ?_
 refine o_aloadN K X1 d5_6 rfl rfl rfl ?_
 refine o_iconst K X1 d5_7 rfl (z := 0) rfl ?_
 refine o_iloadN K X1 d5_8 rfl rfl ?_
 have m2 := (q0.ext E1)
 have n3 := oLz q0.lt (oLe g1)
 refine o_static K X1  (w21 hw) (w22 hw) (w18 hw) (w23 hw) (by decide) (rm_cmp5_7 l Z a0 hw b kb b1 k1 c0 c1 c2 c3 c4 c5 c6 h1 m2 A1 G1 n3 q1 q2 q3 q4 q5 q6 q7) (allS me0 all0) (by decide) rfl (argsL := [.ref b, .int 0, .ref b1, .int 0, .int 7]) rfl (lenOf pd3 rfl) (W := 0) rfl (by decide) (by decide) (by decide) d5_9 rfl ?_
 intro v4 T4 h4 FX4 U4
 obtain ⟨rfl, u4_0, u4_1⟩ := U4
 have X4 := FX4 [] (Or.inl rfl) all0
 show oGoes pp ee bb ss Z T4 (mkF mm 12 _ [.int 7]) _ _ _ _
 refine o_istore K X4 d5_12 rfl (L' := #[vR b, vI 0, vI 7, vR b1, vI 7, uS]) rfl ?_
 refine o_iload K X4 d5_14 rfl rfl ?_
 refine o_iloadN K X4 d5_16 rfl rfl ?_
 refine o_icmp_eq_t K X4 d5_17 (by decide) (pc' := 57) (by decide) (by decide) ?_
 refine o_aloadN K X4 d5_57 rfl rfl rfl ?_
 refine o_areturn K X4 (t := (.array .byte)) d5_58 rfl rfl rfl ?_ (by decide) (by decide) (by decide)
 exact ⟨b1, k1, rfl, (((Keep.refl h0 []).ext E1).trans u4_0 (allS (Or.inr (oLe g1)) all0)), (oLe g1), u4_1⟩
def r_coder_7 : Room := { frames := 0, cells := 0, slots := 0, locals := 0 }
def Q_coder_7 (Z : State) (b : Addr) (kb : ClassId) (c0 c1 c2 c3 c4 c5 c6 : Int32) (h0 : Heap) (v : Option Value) (h : Heap) : Prop := v = some (.int 0) ∧ h0 = h
theorem rm_coder_7 (l : Launch) (Z : State) (a0 : Array Value) (hw : oHw Z a0) (b : Addr) (kb : ClassId) (c0 c1 c2 c3 c4 c5 c6 : Int32) (h0 : Heap) (q0 : oArr Z h0 b kb .byte [.int c0, .int c1, .int c2, .int c3, .int c4, .int c5, .int c6]) : oMet l Z (⟨z15, "coderFromArrayLen", "([BI)B"⟩ : MethodName) jdk_52_method_15_code 2 (some .byte) r_coder_7 [] #[.ref b, .int 7] h0 (Q_coder_7 Z b kb c0 c1 c2 c3 c4 c5 c6 h0) [] false := by
 refine oEnter (oEW hw) (plainFor_of_name (by first | (simp [plainName, overriddenIn]; done) | decide +kernel)) (own := z15) (nm := "coderFromArrayLen") rfl rfl (L := #[.val (.ref b), .val (.int 7)]) (fun m => by first | (simp [entryFrame, mkF, argsToLocals, Value.category]; done) | rfl) ?_
 intro pp ee ss mm bb mtd cc T0 K X0
 have E0 := X0.ext0
 refine o_iloadN K X0 d6_0 rfl rfl ?_
 refine o_aloadN K X0 d6_1 rfl rfl rfl ?_
 refine o_arraylength K X0 q0 (z := 7) rfl d6_2 rfl ?_
 refine o_isub K X0 d6_3 rfl (z := 0) (by decide) ?_
 refine o_bipush K X0 d6_4 rfl (z := 31) rfl ?_
 refine o_iushr K X0 d6_6 rfl (z := 0) (by decide) ?_
 refine o_i2b K X0 d6_7 rfl (z := 0) (by decide) ?_
 refine o_ireturnN K X0 .byte d6_8 rfl (by simp) (z' := 0) (by decide) ?_ (by decide) (by decide) (by decide)
 exact ⟨rfl, rfl⟩
def r_str4_7 : Room := { frames := 2, cells := 1, slots := 7, locals := 35 }
def Q_str4_7 (Z : State) (a b : Addr) (kb : ClassId) (cs c0 c1 c2 c3 c4 c5 c6 : Int32) (h0 : Heap) (v : Option Value) (h : Heap) : Prop := ∃ vb : Addr, ∃ k : ClassId, v = none ∧ Keep h0 h [a] ∧ Exa Z h a z0 ∧ Fld Z h a z0 "value" "[B" (.ref vb) ∧ Fld Z h a z0 "coder" "B" (.int 0) ∧ h0.size ≤ vb ∧ oArr Z h vb k .byte [(.int (nar .byte c0)), (.int (nar .byte c1)), (.int (nar .byte c2)), (.int (nar .byte c3)), (.int (nar .byte c4)), (.int (nar .byte c5)), (.int (nar .byte c6))]
theorem rm_str4_7 (l : Launch) (Z : State) (a0 : Array Value) (hw : oHw Z a0) (a b : Addr) (kb : ClassId) (cs c0 c1 c2 c3 c4 c5 c6 : Int32) (h0 : Heap) (q0 : Exa Z h0 a z0) (q1 : Fld Z h0 a z0 "value" "[B" .null) (q2 : Fld Z h0 a z0 "coder" "B" (.int 0)) (q3 : Z.heap.size ≤ a) (q4 : oArr Z h0 b kb .char [.int c0, .int c1, .int c2, .int c3, .int c4, .int c5, .int c6]) (q5 : Sta Z Z.heap z0 z5 "Z" (.int cs)) (q6 : ¬ (cs = (0 : Int32))) (q7 : ¬ ((255 : Int32) < c0)) (q8 : ¬ ((255 : Int32) < c1)) (q9 : ¬ ((255 : Int32) < c2)) (q10 : ¬ ((255 : Int32) < c3)) (q11 : ¬ ((255 : Int32) < c4)) (q12 : ¬ ((255 : Int32) < c5)) (q13 : ¬ ((255 : Int32) < c6)) : oMet l Z (⟨z0, "<init>", "([CIILjava/lang/Void;)V"⟩ : MethodName) jdk_42_method_149_code 6 none r_str4_7 [] #[.ref a, .ref b, .int 0, .int 7, .null] h0 (Q_str4_7 Z a b kb cs c0 c1 c2 c3 c4 c5 c6 h0) [a] false := by
 refine oEnter (oEW hw) (plainFor_of_name (by first | (simp [plainName, overriddenIn]; done) | decide +kernel)) (own := z0) (nm := "<init>") rfl rfl (L := #[.val (.ref a), .val (.ref b), .val (.int 0), .val (.int 7), .val .null, .unset]) (fun m => by first | (simp [entryFrame, mkF, argsToLocals, Value.category]; done) | rfl) ?_
 intro pp ee ss mm bb mtd cc T0 K X0
 have E0 := X0.ext0
 refine o_aloadN K X0 d7_0 rfl rfl rfl ?_
 refine o_initObj K X0 (w12 hw) (w13 hw) (w14 hw) d7_1 rfl rfl (by decide) (W := 0) rfl (by decide) ?_
 intro T1 X1
 refine o_iloadN K X1 d7_4 rfl rfl ?_
 refine o_if_ne_t K X1 d7_5 (by decide) (pc' := 27) (by decide) (by decide) ?_
 refine o_getstatic K X1 (host := "") (Or.inl (w15 hw)) Via.refl (q5.ext X1.ext0) d7_27 rfl ?_
 intro T2 X2
 refine o_if_eq_f K X2 d7_30 rfl q6 ?_
 refine o_aloadN K X2 d7_33 rfl rfl rfl ?_
 refine o_iloadN K X2 d7_34 rfl rfl ?_
 refine o_iloadN K X2 d7_35 rfl rfl ?_
 refine o_static K X2  (w16 hw) (w17 hw) (w18 hw) (w19 hw) (by decide) (rm_cmp3_7 l Z a0 hw b kb c0 c1 c2 c3 c4 c5 c6 h0 q4 q7 q8 q9 q10 q11 q12 q13) all0 (by decide) rfl (argsL := [.ref b, .int 0, .int 7]) rfl (lenOf pd4 rfl) (W := 0) rfl (by decide) (by decide) (by decide) d7_36 rfl ?_
 intro v3 T3 h3 FX3 U3
 obtain ⟨r_3, k_3, rfl, u3_0, u3_1, u3_2⟩ := U3
 have G3_r : Z.heap.size ≤ r_3 := Nat.le_trans X2.ext0.1 u3_1
 have X3 := FX3 [r_3] (Or.inl rfl) (allS ⟨u3_1, u3_2.lt⟩ all0)
 show oGoes pp ee bb ss Z T3 (mkF mm 39 _ [.ref r_3]) _ _ _ _
 refine o_astore K X3 d7_39 rfl rfl (L' := #[vR a, vR b, vI 0, vI 7, vN, vR r_3]) rfl ?_
 refine o_aloadN K X3 d7_41 rfl rfl rfl ?_
 refine o_aload K X3 d7_42 rfl rfl rfl ?_
 refine o_iloadN K X3 d7_44 rfl rfl ?_
 refine o_static K X3  (w24 hw) (w25 hw) (w18 hw) (w26 hw) (by decide) (rm_coder_7 l Z a0 hw r_3 k_3 (nar .byte c0) (nar .byte c1) (nar .byte c2) (nar .byte c3) (nar .byte c4) (nar .byte c5) (nar .byte c6) h3 u3_2) all0 (by decide) rfl (argsL := [.ref r_3, .int 7]) rfl (lenOf pd5 rfl) (W := 1) rfl (by decide) (by decide) (by decide) d7_45 rfl ?_
 intro v4 T4 h4 FX4 U4
 obtain ⟨rfl, rfl⟩ := U4
 have X4 := FX4 [] (Or.inl rfl) all0
 show oGoes pp ee bb ss Z T4 (mkF mm 48 _ [.int 0, .ref a]) _ _ _ _
 have m6 := (q2.keep u3_0 nin0)
 have m7 := (q0.keep u3_0)
 refine o_putfieldN K X4 (w27 hw) Via.refl m6 m7 (Or.inr ⟨(w28 hw), rfl, rfl⟩) (w3 hw) (ty := .byte) (by decide) (v' := (.int 0)) (congrArg Value.int (by decide)) (oFitbyte (x := (0 : Int32)) (by decide)) q3 me1 d7_48 rfl ?_
 intro T5 h5 X5 W5
 have F5 := Fld.same W5 m6
 refine o_aloadN K X5 d7_51 rfl rfl rfl ?_
 refine o_aload K X5 d7_52 rfl rfl rfl ?_
 have m9 := (Fld.other W5 (q1.keep u3_0 nin0) (Or.inr (slot_ne (Or.inr (w30 hw)) (Or.inr (w28 hw)) (by decide) (t := (.array .byte)) (t' := .byte) (by decide) (by decide))))
 have m10 := (Exa.wr W5 m7)
 refine o_putfield K X5 (host := "") (Or.inl (w29 hw)) Via.refl m9 m10 (Or.inr ⟨(w30 hw), rfl, rfl⟩) (w3 hw) (ty := (.array .byte)) (by decide) rfl rfl q3 me1 d7_54 rfl ?_
 intro T8 h8 X8 W8
 have F8 := Fld.same W8 m9
 refine o_return K X8 d7_57 rfl ?_ (by decide) (by decide) (by decide)
 have m11 := (Exa.wr W8 m10)
 have m12 := (Fld.other W8 F5 (Or.inr (slot_ne (Or.inr (w28 hw)) (Or.inr (w30 hw)) (by decide) (t := .byte) (t' := (.array .byte)) (by decide) (by decide))))
 have n13 := oLsz q0.lt u3_1
 have m14 := ((u3_2.other W5 n13).other W8 n13)
 exact ⟨r_3, k_3, rfl, ((((Keep.refl h0 [a]).trans u3_0 all0).wr W5 (Or.inl me0)).wr W8 (Or.inl me0)), m11, F8, m12, u3_1, m14⟩
def r_str_7 : Room := { frames := 3, cells := 1, slots := 7, locals := 52 }
def Q_str_7 (Z : State) (a b : Addr) (kb : ClassId) (cs c0 c1 c2 c3 c4 c5 c6 : Int32) (h0 : Heap) (v : Option Value) (h : Heap) : Prop := ∃ vb : Addr, ∃ k : ClassId, v = none ∧ Keep h0 h [a] ∧ Exa Z h a z0 ∧ Fld Z h a z0 "value" "[B" (.ref vb) ∧ Fld Z h a z0 "coder" "B" (.int 0) ∧ h0.size ≤ vb ∧ oArr Z h vb k .byte [(.int (nar .byte c0)), (.int (nar .byte c1)), (.int (nar .byte c2)), (.int (nar .byte c3)), (.int (nar .byte c4)), (.int (nar .byte c5)), (.int (nar .byte c6))]
theorem rm_str_7 (l : Launch) (Z : State) (a0 : Array Value) (hw : oHw Z a0) (a b : Addr) (kb : ClassId) (cs c0 c1 c2 c3 c4 c5 c6 : Int32) (h0 : Heap) (q0 : Exa Z h0 a z0) (q1 : Fld Z h0 a z0 "value" "[B" .null) (q2 : Fld Z h0 a z0 "coder" "B" (.int 0)) (q3 : Z.heap.size ≤ a) (q4 : oArr Z h0 b kb .char [.int c0, .int c1, .int c2, .int c3, .int c4, .int c5, .int c6]) (q5 : Sta Z Z.heap z0 z5 "Z" (.int cs)) (q6 : ¬ (cs = (0 : Int32))) (q7 : ¬ ((255 : Int32) < c0)) (q8 : ¬ ((255 : Int32) < c1)) (q9 : ¬ ((255 : Int32) < c2)) (q10 : ¬ ((255 : Int32) < c3)) (q11 : ¬ ((255 : Int32) < c4)) (q12 : ¬ ((255 : Int32) < c5)) (q13 : ¬ ((255 : Int32) < c6)) : oMet l Z (⟨z0, "<init>", "([C)V"⟩ : MethodName) jdk_42_method_3_code 2 none r_str_7 [] #[.ref a, .ref b] h0 (Q_str_7 Z a b kb cs c0 c1 c2 c3 c4 c5 c6 h0) [a] false := by
 refine oEnter (oEW hw) (plainFor_of_name (by first | (simp [plainName, overriddenIn]; done) | decide +kernel)) (own := z0) (nm := "<init>") rfl rfl (L := #[.val (.ref a), .val (.ref b)]) (fun m => by first | (simp [entryFrame, mkF, argsToLocals, Value.category]; done) | rfl) ?_
 intro pp ee ss mm bb mtd cc T0 K X0
 have E0 := X0.ext0
 refine o_aloadN K X0 d8_0 rfl rfl rfl ?_
 refine o_aloadN K X0 d8_1 rfl rfl rfl ?_
 refine o_iconst K X0 d8_2 rfl (z := 0) rfl ?_
 refine o_aloadN K X0 d8_3 rfl rfl rfl ?_
 refine o_arraylength K X0 q4 (z := 7) rfl d8_4 rfl ?_
 refine o_aconst_null K X0 d8_5 rfl ?_
 refine o_special K X0 (y := (⟨z0, "<init>", "([CIILjava/lang/Void;)V"⟩ : MethodName)) rfl (w8 hw) (w9 hw) (w4 hw) (w11 hw) (by decide) (rm_str4_7 l Z a0 hw a b kb cs c0 c1 c2 c3 c4 c5 c6 h0 q0 q1 q2 q3 q4 q5 q6 q7 q8 q9 q10 q11 q12 q13) (allS me0 all0) (by decide) rfl (argsL := [.ref b, .int 0, .int 7, .null]) rfl (lenOf pd6 rfl) (W := 0) rfl (by decide) (by decide) (by decide) d8_6 rfl ?_
 intro v1 T1 h1 FX1 U1
 obtain ⟨vb_1, k_1, rfl, u1_0, u1_1, u1_2, u1_3, u1_4, u1_5⟩ := U1
 have G1_vb : Z.heap.size ≤ vb_1 := Nat.le_trans X0.ext0.1 u1_4
 have X1 := FX1 [vb_1] (Or.inl rfl) (allS ⟨u1_4, u1_5.lt⟩ all0)
 show oGoes pp ee bb ss Z T1 (mkF mm 9 _ []) _ _ _ _
 refine o_return K X1 d8_9 rfl ?_ (by decide) (by decide) (by decide)
 exact ⟨vb_1, k_1, rfl, ((Keep.refl h0 [a]).trans u1_0 (allS (Or.inl me0) all0)), u1_1, u1_2, u1_3, u1_4, u1_5⟩
theorem d9_0 : decode jdk_30_method_1_code 0 = .ok (.aload_n 0, 1) := by decide +kernel
theorem d9_1 : decode jdk_30_method_1_code 1 = .ok (.invokespecial 1, 3) := by decide +kernel
theorem d9_4 : decode jdk_30_method_1_code 4 = .ok (.return_, 1) := by decide +kernel
def r_rec : Room := { frames := 1, cells := 0, slots := 0, locals := 12 }
def Q_rec (Z : State) (a : Addr) (h0 : Heap) (v : Option Value) (h : Heap) : Prop := v = none ∧ h0 = h
theorem rm_rec (l : Launch) (Z : State) (a0 : Array Value) (hw : oHw Z a0) (a : Addr) (h0 : Heap) : oMet l Z (⟨"java/lang/Record", "<init>", "()V"⟩ : MethodName) jdk_30_method_1_code 1 none r_rec [] #[.ref a] h0 (Q_rec Z a h0) [] false := by
 refine oEnter (oEW hw) (plainFor_of_name (by first | (simp [plainName, overriddenIn]; done) | decide +kernel)) (own := "java/lang/Record") (nm := "<init>") rfl rfl (L := #[.val (.ref a)]) (fun m => by first | (simp [entryFrame, mkF, argsToLocals, Value.category]; done) | rfl) ?_
 intro pp ee ss mm bb mtd cc T0 K X0
 have E0 := X0.ext0
 refine o_aloadN K X0 d9_0 rfl rfl rfl ?_
 refine o_initObj K X0 (w176 hw) (w13 hw) (w14 hw) d9_1 rfl rfl (by decide) (W := 0) rfl (by decide) ?_
 intro T1 X1
 refine o_return K X1 d9_4 rfl ?_ (by decide) (by decide) (by decide)
 exact ⟨rfl, rfl⟩
theorem d10_0 : decode jdk_68_method_2_code 0 = .ok (.aload_n 0, 1) := by decide +kernel
theorem d10_1 : decode jdk_68_method_2_code 1 = .ok (.invokespecial 3, 3) := by decide +kernel
theorem d10_4 : decode jdk_68_method_2_code 4 = .ok (.getstatic 18, 3) := by decide +kernel
theorem d10_7 : decode jdk_68_method_2_code 7 = .ok (.ifCond .eq 18, 3) := by decide +kernel
theorem d10_10 : decode jdk_68_method_2_code 10 = .ok (.aload_n 0, 1) := by decide +kernel
theorem d10_11 : decode jdk_68_method_2_code 11 = .ok (.iload_n 1, 1) := by decide +kernel
theorem d10_12 : decode jdk_68_method_2_code 12 = .ok (.newarray .byte, 2) := by decide +kernel
theorem d10_14 : decode jdk_68_method_2_code 14 = .ok (.putfield 15, 3) := by decide +kernel
theorem d10_17 : decode jdk_68_method_2_code 17 = .ok (.aload_n 0, 1) := by decide +kernel
theorem d10_18 : decode jdk_68_method_2_code 18 = .ok (.iconst 0, 1) := by decide +kernel
theorem d10_19 : decode jdk_68_method_2_code 19 = .ok (.putfield 22, 3) := by decide +kernel
theorem d10_22 : decode jdk_68_method_2_code 22 = .ok (.goto 16, 3) := by decide +kernel
theorem d10_38 : decode jdk_68_method_2_code 38 = .ok (.return_, 1) := by decide +kernel
def r_asbinit : Room := { frames := 1, cells := 1, slots := 16, locals := 12 }
def Q_asbinit (Z : State) (a : Addr) (cs : Int32) (h0 : Heap) (v : Option Value) (h : Heap) : Prop := ∃ r : Addr, ∃ k : ClassId, v = none ∧ Keep h0 h [a] ∧ h0.size ≤ r ∧ Exa Z h a z4 ∧ Fld Z h a z1 "value" "[B" (.ref r) ∧ Fld Z h a z1 "coder" "B" (.int 0) ∧ Fld Z h a z1 "count" "I" (.int 0) ∧ oArr Z h r k .byte [.int 0, .int 0, .int 0, .int 0, .int 0, .int 0, .int 0, .int 0, .int 0, .int 0, .int 0, .int 0, .int 0, .int 0, .int 0, .int 0]
theorem rm_asbinit (l : Launch) (Z : State) (a0 : Array Value) (hw : oHw Z a0) (a : Addr) (cs : Int32) (h0 : Heap) (q0 : Exa Z h0 a z4) (q1 : Fld Z h0 a z1 "value" "[B" .null) (q2 : Fld Z h0 a z1 "coder" "B" (.int 0)) (q3 : Fld Z h0 a z1 "count" "I" (.int 0)) (q4 : Z.heap.size ≤ a) (q5 : Sta Z Z.heap z0 z5 "Z" (.int cs)) (q6 : ¬ (cs = (0 : Int32))) : oMet l Z (⟨z1, "<init>", "(I)V"⟩ : MethodName) jdk_68_method_2_code 2 none r_asbinit [] #[.ref a, .int 16] h0 (Q_asbinit Z a cs h0) [a] false := by
 refine oEnter (oEW hw) (plainFor_of_name (by first | (simp [plainName, overriddenIn]; done) | decide +kernel)) (own := z1) (nm := "<init>") rfl rfl (L := #[.val (.ref a), .val (.int 16)]) (fun m => by first | (simp [entryFrame, mkF, argsToLocals, Value.category]; done) | rfl) ?_
 intro pp ee ss mm bb mtd cc T0 K X0
 have E0 := X0.ext0
 refine o_aloadN K X0 d10_0 rfl rfl rfl ?_
 refine o_initObj K X0 (w47 hw) (w13 hw) (w14 hw) d10_1 rfl rfl (by decide) (W := 0) rfl (by decide) ?_
 intro T1 X1
 refine o_getstatic K X1 (host := "") (Or.inl (w48 hw)) Via.refl (q5.ext X1.ext0) d10_4 rfl ?_
 intro T2 X2
 refine o_if_eq_f K X2 d10_7 rfl q6 ?_
 refine o_aloadN K X2 d10_10 rfl rfl rfl ?_
 refine o_iloadN K X2 d10_11 rfl rfl ?_
 refine o_newarray K X2 (aty := .byte) 16 (w20 hw) (ad := "[B") (by decide +kernel) (by decide) (by decide) (by decide) rfl d10_12 rfl (by decide) (by decide) ?_
 intro T3 h3 b3 k3 X3 g3 E3 A3 B3 G3
 replace A3 : oArr Z h3 b3 k3 .byte [.int 0, .int 0, .int 0, .int 0, .int 0, .int 0, .int 0, .int 0, .int 0, .int 0, .int 0, .int 0, .int 0, .int 0, .int 0, .int 0] := A3
 have m5 := (q1.ext E3)
 have m6 := (q0.ext E3)
 refine o_putfield K X3 (host := "") (Or.inl (w49 hw)) Via.refl m5 m6 (Or.inl (w50 hw)) (w36 hw) (ty := (.array .byte)) (by decide) rfl rfl q4 me1 d10_14 rfl ?_
 intro T4 h4 X4 W4
 have F4 := Fld.same W4 m5
 refine o_aloadN K X4 d10_17 rfl rfl rfl ?_
 refine o_iconst K X4 d10_18 rfl (z := 0) rfl ?_
 have m8 := (Fld.other W4 (q2.ext E3) (Or.inr (slot_ne (Or.inl (w52 hw)) (Or.inl (w50 hw)) (by decide) (t := .byte) (t' := (.array .byte)) (by decide) (by decide))))
 have m9 := (Exa.wr W4 m6)
 refine o_putfieldN K X4 (w51 hw) Via.refl m8 m9 (Or.inl (w52 hw)) (w36 hw) (ty := .byte) (by decide) (v' := (.int 0)) (congrArg Value.int (by decide)) (oFitbyte (x := (0 : Int32)) (by decide)) q4 me1 d10_19 rfl ?_
 intro T7 h7 X7 W7
 have F7 := Fld.same W7 m8
 refine o_goto K X7 d10_22 (by decide) (pc' := 38) (by decide) ?_
 refine o_return K X7 d10_38 rfl ?_ (by decide) (by decide) (by decide)
 have m10 := (Exa.wr W7 m9)
 have m11 := (Fld.other W7 F4 (Or.inr (slot_ne (Or.inl (w50 hw)) (Or.inl (w52 hw)) (by decide) (t := (.array .byte)) (t' := .byte) (by decide) (by decide))))
 have m12 := (Fld.other W7 (Fld.other W4 (q3.ext E3) (Or.inr (slot_ne (Or.inl (w108 hw)) (Or.inl (w50 hw)) (by decide) (t := .int) (t' := (.array .byte)) (by decide) (by decide)))) (Or.inr (slot_ne (Or.inl (w108 hw)) (Or.inl (w52 hw)) (by decide) (t := .int) (t' := .byte) (by decide) (by decide))))
 have n13 := oLsz q0.lt (oLe g3)
 have m14 := ((A3.other W4 n13).other W7 n13)
 exact ⟨b3, k3, rfl, ((((Keep.refl h0 [a]).ext E3).wr W4 (Or.inl me0)).wr W7 (Or.inl me0)), (oLe g3), m10, m11, F7, m12, m14⟩
theorem d11_0 : decode jdk_67_method_1_code 0 = .ok (.aload_n 0, 1) := by decide +kernel
theorem d11_1 : decode jdk_67_method_1_code 1 = .ok (.bipush 16, 2) := by decide +kernel
theorem d11_3 : decode jdk_67_method_1_code 3 = .ok (.invokespecial 1, 3) := by decide +kernel
theorem d11_6 : decode jdk_67_method_1_code 6 = .ok (.return_, 1) := by decide +kernel
theorem pd7 : parseMethodDescriptor "(I)V" = some ⟨[.int], none⟩ := by decide +kernel
def r_sbinit : Room := { frames := 2, cells := 1, slots := 16, locals := 25 }
def Q_sbinit (Z : State) (a : Addr) (cs : Int32) (h0 : Heap) (v : Option Value) (h : Heap) : Prop := ∃ r : Addr, ∃ k : ClassId, v = none ∧ Keep h0 h [a] ∧ h0.size ≤ r ∧ Exa Z h a z4 ∧ Fld Z h a z1 "value" "[B" (.ref r) ∧ Fld Z h a z1 "coder" "B" (.int 0) ∧ Fld Z h a z1 "count" "I" (.int 0) ∧ oArr Z h r k .byte [.int 0, .int 0, .int 0, .int 0, .int 0, .int 0, .int 0, .int 0, .int 0, .int 0, .int 0, .int 0, .int 0, .int 0, .int 0, .int 0]
theorem rm_sbinit (l : Launch) (Z : State) (a0 : Array Value) (hw : oHw Z a0) (a : Addr) (cs : Int32) (h0 : Heap) (q0 : Exa Z h0 a z4) (q1 : Fld Z h0 a z1 "value" "[B" .null) (q2 : Fld Z h0 a z1 "coder" "B" (.int 0)) (q3 : Fld Z h0 a z1 "count" "I" (.int 0)) (q4 : Z.heap.size ≤ a) (q5 : Sta Z Z.heap z0 z5 "Z" (.int cs)) (q6 : ¬ (cs = (0 : Int32))) : oMet l Z (⟨z4, "<init>", "()V"⟩ : MethodName) jdk_67_method_1_code 1 none r_sbinit [] #[.ref a] h0 (Q_sbinit Z a cs h0) [a] false := by
 refine oEnter (oEW hw) (plainFor_of_name (by first | (simp [plainName, overriddenIn]; done) | decide +kernel)) (own := z4) (nm := "<init>") rfl rfl (L := #[.val (.ref a)]) (fun m => by first | (simp [entryFrame, mkF, argsToLocals, Value.category]; done) | rfl) ?_
 intro pp ee ss mm bb mtd cc T0 K X0
 have E0 := X0.ext0
 refine o_aloadN K X0 d11_0 rfl rfl rfl ?_
 refine o_bipush K X0 d11_1 rfl (z := 16) rfl ?_
 refine o_special K X0 (y := (⟨z1, "<init>", "(I)V"⟩ : MethodName)) rfl (w41 hw) (w42 hw) (w45 hw) (w46 hw) (by decide) (rm_asbinit l Z a0 hw a cs h0 q0 q1 q2 q3 q4 q5 q6) (allS me0 all0) (by decide) rfl (argsL := [.int 16]) rfl (lenOf pd7 rfl) (W := 0) rfl (by decide) (by decide) (by decide) d11_3 rfl ?_
 intro v1 T1 h1 FX1 U1
 obtain ⟨r_1, k_1, rfl, u1_0, u1_1, u1_2, u1_3, u1_4, u1_5, u1_6⟩ := U1
 have G1_r : Z.heap.size ≤ r_1 := Nat.le_trans X0.ext0.1 u1_1
 have X1 := FX1 [r_1] (Or.inl rfl) (allS ⟨u1_1, u1_6.lt⟩ all0)
 show oGoes pp ee bb ss Z T1 (mkF mm 6 _ []) _ _ _ _
 refine o_return K X1 d11_6 rfl ?_ (by decide) (by decide) (by decide)
 exact ⟨r_1, k_1, rfl, ((Keep.refl h0 [a]).trans u1_0 (allS (Or.inl me0) all0)), u1_1, u1_2, u1_3, u1_4, u1_5, u1_6⟩
theorem d12_0 : decode jdk_68_method_68_code 0 = .ok (.getstatic 18, 3) := by decide +kernel
theorem d12_3 : decode jdk_68_method_68_code 3 = .ok (.ifCond .eq 14, 3) := by decide +kernel
theorem d12_6 : decode jdk_68_method_68_code 6 = .ok (.aload_n 0, 1) := by decide +kernel
theorem d12_7 : decode jdk_68_method_68_code 7 = .ok (.getfield 22, 3) := by decide +kernel
theorem d12_10 : decode jdk_68_method_68_code 10 = .ok (.ifCond .ne 7, 3) := by decide +kernel
theorem d12_13 : decode jdk_68_method_68_code 13 = .ok (.iconst 1, 1) := by decide +kernel
theorem d12_14 : decode jdk_68_method_68_code 14 = .ok (.goto 4, 3) := by decide +kernel
theorem d12_18 : decode jdk_68_method_68_code 18 = .ok (.ireturn, 1) := by decide +kernel
def r_asblat : Room := { frames := 0, cells := 0, slots := 0, locals := 0 }
def Q_asblat (Z : State) (a : Addr) (cs : Int32) (h0 : Heap) (v : Option Value) (h : Heap) : Prop := v = some (.int 1) ∧ h0 = h
theorem rm_asblat (l : Launch) (Z : State) (a0 : Array Value) (hw : oHw Z a0) (a : Addr) (cs : Int32) (h0 : Heap) (q0 : Fld Z h0 a z1 "coder" "B" (.int 0)) (q1 : Sta Z Z.heap z0 z5 "Z" (.int cs)) (q2 : ¬ (cs = (0 : Int32))) : oMet l Z (⟨z1, "isLatin1", "()Z"⟩ : MethodName) jdk_68_method_68_code 1 (some .boolean) r_asblat [] #[.ref a] h0 (Q_asblat Z a cs h0) [] false := by
 refine oEnter (oEW hw) (plainFor_of_name (by first | (simp [plainName, overriddenIn]; done) | decide +kernel)) (own := z1) (nm := "isLatin1") rfl rfl (L := #[.val (.ref a)]) (fun m => by first | (simp [entryFrame, mkF, argsToLocals, Value.category]; done) | rfl) ?_
 intro pp ee ss mm bb mtd cc T0 K X0
 have E0 := X0.ext0
 refine o_getstatic K X0 (host := "") (Or.inl (w48 hw)) Via.refl (q1.ext X0.ext0) d12_0 rfl ?_
 intro T1 X1
 refine o_if_eq_f K X1 d12_3 rfl q2 ?_
 refine o_aloadN K X1 d12_6 rfl rfl rfl ?_
 refine o_getfield K X1 (host := "") (Or.inl (w51 hw)) Via.refl q0 d12_7 rfl ?_
 intro T2 X2
 refine o_if_ne_f K X2 d12_10 rfl (by decide) ?_
 refine o_iconst K X2 d12_13 rfl (z := 1) rfl ?_
 refine o_goto K X2 d12_14 (by decide) (pc' := 18) (by decide) ?_
 refine o_ireturnN K X2 .boolean d12_18 rfl (by simp) (z' := 1) (by decide) ?_ (by decide) (by decide) (by decide)
 exact ⟨rfl, rfl⟩
theorem d13_0 : decode jdk_68_method_9_code 0 = .ok (.aload_n 0, 1) := by decide +kernel
theorem d13_1 : decode jdk_68_method_9_code 1 = .ok (.getfield 15, 3) := by decide +kernel
theorem d13_4 : decode jdk_68_method_9_code 4 = .ok (.arraylength, 1) := by decide +kernel
theorem d13_5 : decode jdk_68_method_9_code 5 = .ok (.aload_n 0, 1) := by decide +kernel
theorem d13_6 : decode jdk_68_method_9_code 6 = .ok (.getfield 22, 3) := by decide +kernel
theorem d13_9 : decode jdk_68_method_9_code 9 = .ok (.ishr, 1) := by decide +kernel
theorem d13_10 : decode jdk_68_method_9_code 10 = .ok (.istore_n 2, 1) := by decide +kernel
theorem d13_11 : decode jdk_68_method_9_code 11 = .ok (.iload_n 1, 1) := by decide +kernel
theorem d13_12 : decode jdk_68_method_9_code 12 = .ok (.iload_n 2, 1) := by decide +kernel
theorem d13_13 : decode jdk_68_method_9_code 13 = .ok (.isub, 1) := by decide +kernel
theorem d13_14 : decode jdk_68_method_9_code 14 = .ok (.ifCond .le 24, 3) := by decide +kernel
theorem d13_38 : decode jdk_68_method_9_code 38 = .ok (.return_, 1) := by decide +kernel
def r_ensure0 : Room := { frames := 0, cells := 0, slots := 0, locals := 0 }
def Q_ensure0 (Z : State) (a va : Addr) (k : ClassId) (h0 : Heap) (v : Option Value) (h : Heap) : Prop := v = none ∧ h0 = h
theorem rm_ensure0 (l : Launch) (Z : State) (a0 : Array Value) (hw : oHw Z a0) (a va : Addr) (k : ClassId) (h0 : Heap) (q0 : Exa Z h0 a z4) (q1 : Fld Z h0 a z1 "value" "[B" (.ref va)) (q2 : Fld Z h0 a z1 "coder" "B" (.int 0)) (q3 : Fld Z h0 a z1 "count" "I" (.int 0)) (q4 : oArr Z h0 va k .byte [.int 0, .int 0, .int 0, .int 0, .int 0, .int 0, .int 0, .int 0, .int 0, .int 0, .int 0, .int 0, .int 0, .int 0, .int 0, .int 0]) : oMet l Z (⟨z1, "ensureCapacityInternal", "(I)V"⟩ : MethodName) jdk_68_method_9_code 3 none r_ensure0 [] #[.ref a, .int 1] h0 (Q_ensure0 Z a va k h0) [] false := by
 refine oEnter (oEW hw) (plainFor_of_name (by first | (simp [plainName, overriddenIn]; done) | decide +kernel)) (own := z1) (nm := "ensureCapacityInternal") rfl rfl (L := #[.val (.ref a), .val (.int 1), .unset]) (fun m => by first | (simp [entryFrame, mkF, argsToLocals, Value.category]; done) | rfl) ?_
 intro pp ee ss mm bb mtd cc T0 K X0
 have E0 := X0.ext0
 refine o_aloadN K X0 d13_0 rfl rfl rfl ?_
 refine o_getfield K X0 (host := "") (Or.inl (w49 hw)) Via.refl q1 d13_1 rfl ?_
 intro T1 X1
 refine o_arraylength K X1 q4 (z := 16) rfl d13_4 rfl ?_
 refine o_aloadN K X1 d13_5 rfl rfl rfl ?_
 refine o_getfield K X1 (host := "") (Or.inl (w51 hw)) Via.refl q2 d13_6 rfl ?_
 intro T2 X2
 refine o_ishr K X2 d13_9 rfl (z := 16) (by decide) ?_
 refine o_istoreN K X2 d13_10 rfl (L' := #[vR a, vI 1, vI 16]) rfl ?_
 refine o_iloadN K X2 d13_11 rfl rfl ?_
 refine o_iloadN K X2 d13_12 rfl rfl ?_
 refine o_isub K X2 d13_13 rfl (z := -15) (by decide) ?_
 refine o_if_le_t K X2 d13_14 (by decide) (pc' := 38) (by decide) (by decide) ?_
 refine o_return K X2 d13_38 rfl ?_ (by decide) (by decide) (by decide)
 exact ⟨rfl, rfl⟩
theorem d14_0 : decode jdk_68_method_31_code 0 = .ok (.aload_n 0, 1) := by decide +kernel
theorem d14_1 : decode jdk_68_method_31_code 1 = .ok (.aload_n 0, 1) := by decide +kernel
theorem d14_2 : decode jdk_68_method_31_code 2 = .ok (.getfield 79, 3) := by decide +kernel
theorem d14_5 : decode jdk_68_method_31_code 5 = .ok (.iconst 1, 1) := by decide +kernel
theorem d14_6 : decode jdk_68_method_31_code 6 = .ok (.iadd, 1) := by decide +kernel
theorem d14_7 : decode jdk_68_method_31_code 7 = .ok (.invokevirtual 100, 3) := by decide +kernel
theorem d14_10 : decode jdk_68_method_31_code 10 = .ok (.aload_n 0, 1) := by decide +kernel
theorem d14_11 : decode jdk_68_method_31_code 11 = .ok (.invokevirtual 83, 3) := by decide +kernel
theorem d14_14 : decode jdk_68_method_31_code 14 = .ok (.ifCond .eq 31, 3) := by decide +kernel
theorem d14_17 : decode jdk_68_method_31_code 17 = .ok (.iload_n 1, 1) := by decide +kernel
theorem d14_18 : decode jdk_68_method_31_code 18 = .ok (.invokestatic 191, 3) := by decide +kernel
theorem d14_21 : decode jdk_68_method_31_code 21 = .ok (.ifCond .eq 24, 3) := by decide +kernel
theorem d14_24 : decode jdk_68_method_31_code 24 = .ok (.aload_n 0, 1) := by decide +kernel
theorem d14_25 : decode jdk_68_method_31_code 25 = .ok (.getfield 15, 3) := by decide +kernel
theorem d14_28 : decode jdk_68_method_31_code 28 = .ok (.aload_n 0, 1) := by decide +kernel
theorem d14_29 : decode jdk_68_method_31_code 29 = .ok (.dup, 1) := by decide +kernel
theorem d14_30 : decode jdk_68_method_31_code 30 = .ok (.getfield 79, 3) := by decide +kernel
theorem d14_33 : decode jdk_68_method_31_code 33 = .ok (.dup_x1, 1) := by decide +kernel
theorem d14_34 : decode jdk_68_method_31_code 34 = .ok (.iconst 1, 1) := by decide +kernel
theorem d14_35 : decode jdk_68_method_31_code 35 = .ok (.iadd, 1) := by decide +kernel
theorem d14_36 : decode jdk_68_method_31_code 36 = .ok (.putfield 79, 3) := by decide +kernel
theorem d14_39 : decode jdk_68_method_31_code 39 = .ok (.iload_n 1, 1) := by decide +kernel
theorem d14_40 : decode jdk_68_method_31_code 40 = .ok (.i2b, 1) := by decide +kernel
theorem d14_41 : decode jdk_68_method_31_code 41 = .ok (.bastore, 1) := by decide +kernel
theorem d14_42 : decode jdk_68_method_31_code 42 = .ok (.goto 33, 3) := by decide +kernel
theorem d14_75 : decode jdk_68_method_31_code 75 = .ok (.aload_n 0, 1) := by decide +kernel
theorem d14_76 : decode jdk_68_method_31_code 76 = .ok (.areturn, 1) := by decide +kernel
theorem pd8 : parseMethodDescriptor "()Z" = some ⟨[], some .boolean⟩ := by decide +kernel
def r_asbapp0 : Room := { frames := 1, cells := 0, slots := 0, locals := 14 }
def Q_asbapp0 (Z : State) (a va : Addr) (k : ClassId) (c cs : Int32) (h0 : Heap) (v : Option Value) (h : Heap) : Prop := v = some (.ref a) ∧ Keep h0 h [a, va] ∧ Exa Z h a z4 ∧ Fld Z h a z1 "value" "[B" (.ref va) ∧ Fld Z h a z1 "coder" "B" (.int 0) ∧ Fld Z h a z1 "count" "I" (.int 1) ∧ oArr Z h va k .byte [(.int (nar .byte c)), .int 0, .int 0, .int 0, .int 0, .int 0, .int 0, .int 0, .int 0, .int 0, .int 0, .int 0, .int 0, .int 0, .int 0, .int 0]
theorem rm_asbapp0 (l : Launch) (Z : State) (a0 : Array Value) (hw : oHw Z a0) (a va : Addr) (k : ClassId) (c cs : Int32) (h0 : Heap) (q0 : Exa Z h0 a z4) (q1 : Fld Z h0 a z1 "value" "[B" (.ref va)) (q2 : Fld Z h0 a z1 "coder" "B" (.int 0)) (q3 : Fld Z h0 a z1 "count" "I" (.int 0)) (q4 : oArr Z h0 va k .byte [.int 0, .int 0, .int 0, .int 0, .int 0, .int 0, .int 0, .int 0, .int 0, .int 0, .int 0, .int 0, .int 0, .int 0, .int 0, .int 0]) (q5 : Z.heap.size ≤ a) (q6 : Z.heap.size ≤ va) (q7 : va ≠ a) (q8 : ¬ ((255 : Int32) < c)) (q9 : Sta Z Z.heap z0 z5 "Z" (.int cs)) (q10 : ¬ (cs = (0 : Int32))) : oMet l Z (⟨z1, "append", "(C)Ljava/lang/AbstractStringBuilder;"⟩ : MethodName) jdk_68_method_31_code 2 (some (.object z1)) r_asbapp0 [] #[.ref a, .int c] h0 (Q_asbapp0 Z a va k c cs h0) [a, va] false := by
 refine oEnter (oEW hw) (plainFor_of_name (by first | (simp [plainName, overriddenIn]; done) | decide +kernel)) (own := z1) (nm := "append") rfl rfl (L := #[.val (.ref a), .val (.int c)]) (fun m => by first | (simp [entryFrame, mkF, argsToLocals, Value.category]; done) | rfl) ?_
 intro pp ee ss mm bb mtd cc T0 K X0
 have E0 := X0.ext0
 refine o_aloadN K X0 d14_0 rfl rfl rfl ?_
 refine o_aloadN K X0 d14_1 rfl rfl rfl ?_
 refine o_getfield K X0 (host := "") (Or.inl (w107 hw)) Via.refl q3 d14_2 rfl ?_
 intro T1 X1
 refine o_iconst K X1 d14_5 rfl (z := 1) rfl ?_
 refine o_iadd K X1 d14_6 rfl (z := 1) (by decide) ?_
 refine o_private K X1 (y := (⟨z1, "ensureCapacityInternal", "(I)V"⟩ : MethodName)) (w109 hw) (w110 hw) (oSelectsV (w112 hw) (w110 hw) (w111 hw) (by decide)) (w111 hw) (w45 hw) (w113 hw) (by decide) q0 (rm_ensure0 l Z a0 hw a va k h0 q0 q1 q2 q3 q4) all0 (by decide) rfl (argsL := [.int 1]) rfl (lenOf pd7 rfl) (W := 0) rfl (by decide) (by decide) (by decide) d14_7 rfl ?_
 intro v2 T2 h2 FX2 U2
 obtain ⟨rfl, rfl⟩ := U2
 have X2 := FX2 [] (Or.inl rfl) all0
 show oGoes pp ee bb ss Z T2 (mkF mm 10 _ []) _ _ _ _
 refine o_aloadN K X2 d14_10 rfl rfl rfl ?_
 refine o_virtual K X2   (w114 hw) (w115 hw) (oNF (w117 hw)) (w117 hw) (w116 hw) (w45 hw) (w118 hw) (by decide) q0 (rm_asblat l Z a0 hw a cs h0 q2 q9 q10) all0 (by decide) rfl (argsL := []) rfl (lenOf pd8 rfl) (W := 0) rfl (by decide) (by decide) (by decide) d14_11 rfl ?_
 intro v3 T3 h3 FX3 U3
 obtain ⟨rfl, rfl⟩ := U3
 have X3 := FX3 [] (Or.inl rfl) all0
 show oGoes pp ee bb ss Z T3 (mkF mm 14 _ [.int 1]) _ _ _ _
 refine o_if_eq_f K X3 d14_14 rfl (by decide) ?_
 refine o_iloadN K X3 d14_17 rfl rfl ?_
 refine o_static K X3  (w119 hw) (w120 hw) (w87 hw) (w121 hw) (by decide) (rm_canenc l Z a0 hw c h0 q8) all0 (by decide) rfl (argsL := [.int c]) rfl (lenOf pd0 rfl) (W := 0) rfl (by decide) (by decide) (by decide) d14_18 rfl ?_
 intro v4 T4 h4 FX4 U4
 obtain ⟨rfl, rfl⟩ := U4
 have X4 := FX4 [] (Or.inl rfl) all0
 show oGoes pp ee bb ss Z T4 (mkF mm 21 _ [.int 1]) _ _ _ _
 refine o_if_eq_f K X4 d14_21 rfl (by decide) ?_
 refine o_aloadN K X4 d14_24 rfl rfl rfl ?_
 refine o_getfield K X4 (host := "") (Or.inl (w49 hw)) Via.refl q1 d14_25 rfl ?_
 intro T5 X5
 refine o_aloadN K X5 d14_28 rfl rfl rfl ?_
 refine o_dup K X5 d14_29 rfl rfl ?_
 refine o_getfield K X5 (host := "") (Or.inl (w107 hw)) Via.refl q3 d14_30 rfl ?_
 intro T6 X6
 refine o_dup_x1 K X6 d14_33 rfl rfl rfl ?_
 refine o_iconst K X6 d14_34 rfl (z := 1) rfl ?_
 refine o_iadd K X6 d14_35 rfl (z := 1) (by decide) ?_
 refine o_putfield K X6 (host := "") (Or.inl (w107 hw)) Via.refl q3 q0 (Or.inl (w108 hw)) (w36 hw) (ty := .int) (by decide) rfl rfl q5 me0 d14_36 rfl ?_
 intro T7 h7 X7 W7
 have F7 := Fld.same W7 q3
 refine o_iloadN K X7 d14_39 rfl rfl ?_
 refine o_i2b K X7 d14_40 rfl (z := (nar .byte c)) rfl ?_
 have m9 := (q4.other W7 q7)
 refine o_bastore K X7 m9 (by decide) (show (0 : Int32).toNatClampNeg < 16 from (by decide)) q6 me1 (z := (.int (nar .byte c))) (congrArg Value.int (oNarIdembyte _)) d14_41 rfl ?_
 intro T8 h8 X8 W8 A8
 replace A8 : oArr Z h8 va k .byte [(.int (nar .byte c)), .int 0, .int 0, .int 0, .int 0, .int 0, .int 0, .int 0, .int 0, .int 0, .int 0, .int 0, .int 0, .int 0, .int 0, .int 0] := A8
 refine o_goto K X8 d14_42 (by decide) (pc' := 75) (by decide) ?_
 refine o_aloadN K X8 d14_75 rfl rfl rfl ?_
 refine o_areturn K X8 (t := (.object z1)) d14_76 rfl rfl rfl ?_ (by decide) (by decide) (by decide)
 have m10 := (Exa.wr W8 (Exa.wr W7 q0))
 have m11 := (Fld.other W8 (Fld.other W7 q1 (Or.inr (slot_ne (Or.inl (w50 hw)) (Or.inl (w108 hw)) (by decide) (t := (.array .byte)) (t' := .int) (by decide) (by decide)))) (Or.inl (Ne.symm q7)))
 have m12 := (Fld.other W8 (Fld.other W7 q2 (Or.inr (slot_ne (Or.inl (w52 hw)) (Or.inl (w108 hw)) (by decide) (t := .byte) (t' := .int) (by decide) (by decide)))) (Or.inl (Ne.symm q7)))
 have m13 := (Fld.other W8 F7 (Or.inl (Ne.symm q7)))
 exact ⟨rfl, (((Keep.refl h0 [a, va]).wr W7 (Or.inl me0)).wr W8 (Or.inl me1)), m10, m11, m12, m13, A8⟩
theorem d15_0 : decode jdk_67_method_14_code 0 = .ok (.aload_n 0, 1) := by decide +kernel
theorem d15_1 : decode jdk_67_method_14_code 1 = .ok (.iload_n 1, 1) := by decide +kernel
theorem d15_2 : decode jdk_67_method_14_code 2 = .ok (.invokespecial 50, 3) := by decide +kernel
theorem d15_5 : decode jdk_67_method_14_code 5 = .ok (.pop, 1) := by decide +kernel
theorem d15_6 : decode jdk_67_method_14_code 6 = .ok (.aload_n 0, 1) := by decide +kernel
theorem d15_7 : decode jdk_67_method_14_code 7 = .ok (.areturn, 1) := by decide +kernel
theorem pd9 : parseMethodDescriptor "(C)Ljava/lang/AbstractStringBuilder;" = some ⟨[.char], some (.object z1)⟩ := by decide +kernel
def r_sbapp0 : Room := { frames := 2, cells := 0, slots := 0, locals := 27 }
def Q_sbapp0 (Z : State) (a va : Addr) (k : ClassId) (c cs : Int32) (h0 : Heap) (v : Option Value) (h : Heap) : Prop := v = some (.ref a) ∧ Keep h0 h [a, va] ∧ Exa Z h a z4 ∧ Fld Z h a z1 "value" "[B" (.ref va) ∧ Fld Z h a z1 "coder" "B" (.int 0) ∧ Fld Z h a z1 "count" "I" (.int 1) ∧ oArr Z h va k .byte [(.int (nar .byte c)), .int 0, .int 0, .int 0, .int 0, .int 0, .int 0, .int 0, .int 0, .int 0, .int 0, .int 0, .int 0, .int 0, .int 0, .int 0]
theorem rm_sbapp0 (l : Launch) (Z : State) (a0 : Array Value) (hw : oHw Z a0) (a va : Addr) (k : ClassId) (c cs : Int32) (h0 : Heap) (q0 : Exa Z h0 a z4) (q1 : Fld Z h0 a z1 "value" "[B" (.ref va)) (q2 : Fld Z h0 a z1 "coder" "B" (.int 0)) (q3 : Fld Z h0 a z1 "count" "I" (.int 0)) (q4 : oArr Z h0 va k .byte [.int 0, .int 0, .int 0, .int 0, .int 0, .int 0, .int 0, .int 0, .int 0, .int 0, .int 0, .int 0, .int 0, .int 0, .int 0, .int 0]) (q5 : Z.heap.size ≤ a) (q6 : Z.heap.size ≤ va) (q7 : va ≠ a) (q8 : ¬ ((255 : Int32) < c)) (q9 : Sta Z Z.heap z0 z5 "Z" (.int cs)) (q10 : ¬ (cs = (0 : Int32))) : oMet l Z (⟨z4, "append", "(C)Ljava/lang/StringBuilder;"⟩ : MethodName) jdk_67_method_14_code 2 (some (.object z4)) r_sbapp0 [] #[.ref a, .int c] h0 (Q_sbapp0 Z a va k c cs h0) [a, va] false := by
 refine oEnter (oEW hw) (plainFor_of_name (by first | (simp [plainName, overriddenIn]; done) | decide +kernel)) (own := z4) (nm := "append") rfl rfl (L := #[.val (.ref a), .val (.int c)]) (fun m => by first | (simp [entryFrame, mkF, argsToLocals, Value.category]; done) | rfl) ?_
 intro pp ee ss mm bb mtd cc T0 K X0
 have E0 := X0.ext0
 refine o_aloadN K X0 d15_0 rfl rfl rfl ?_
 refine o_iloadN K X0 d15_1 rfl rfl ?_
 refine o_super K X0 (y := (⟨z1, "append", "(C)Ljava/lang/AbstractStringBuilder;"⟩ : MethodName)) (by decide) (w102 hw) (oSameM (y := (⟨z1, "append", "(C)Ljava/lang/AbstractStringBuilder;"⟩ : MethodName)) (w105 hw) (w112 hw) rfl (by decide)) (w103 hw) (w104 hw) (w45 hw) (w106 hw) (Ins.self q0) (rm_asbapp0 l Z a0 hw a va k c cs h0 q0 q1 q2 q3 q4 q5 q6 q7 q8 q9 q10) (allS me0 (allS me1 all0)) (by decide) rfl (argsL := [.int c]) rfl (lenOf pd9 rfl) (W := 0) rfl (by decide) (by decide) (by decide) d15_2 rfl ?_
 intro v1 T1 h1 FX1 U1
 obtain ⟨rfl, u1_0, u1_1, u1_2, u1_3, u1_4, u1_5⟩ := U1
 have X1 := FX1 [] (Or.inl rfl) all0
 show oGoes pp ee bb ss Z T1 (mkF mm 5 _ [.ref a]) _ _ _ _
 refine o_pop K X1 d15_5 rfl rfl ?_
 refine o_aloadN K X1 d15_6 rfl rfl rfl ?_
 refine o_areturn K X1 (t := (.object z4)) d15_7 rfl rfl rfl ?_ (by decide) (by decide) (by decide)
 exact ⟨rfl, ((Keep.refl h0 [a, va]).trans u1_0 (allS (Or.inl me0) (allS (Or.inl me1) all0))), u1_1, u1_2, u1_3, u1_4, u1_5⟩
def r_ensure1 : Room := { frames := 0, cells := 0, slots := 0, locals := 0 }
def Q_ensure1 (Z : State) (a va : Addr) (k : ClassId) (w0 : Int32) (h0 : Heap) (v : Option Value) (h : Heap) : Prop := v = none ∧ h0 = h
theorem rm_ensure1 (l : Launch) (Z : State) (a0 : Array Value) (hw : oHw Z a0) (a va : Addr) (k : ClassId) (w0 : Int32) (h0 : Heap) (q0 : Exa Z h0 a z4) (q1 : Fld Z h0 a z1 "value" "[B" (.ref va)) (q2 : Fld Z h0 a z1 "coder" "B" (.int 0)) (q3 : Fld Z h0 a z1 "count" "I" (.int 1)) (q4 : oArr Z h0 va k .byte [.int w0, .int 0, .int 0, .int 0, .int 0, .int 0, .int 0, .int 0, .int 0, .int 0, .int 0, .int 0, .int 0, .int 0, .int 0, .int 0]) : oMet l Z (⟨z1, "ensureCapacityInternal", "(I)V"⟩ : MethodName) jdk_68_method_9_code 3 none r_ensure1 [] #[.ref a, .int 2] h0 (Q_ensure1 Z a va k w0 h0) [] false := by
 refine oEnter (oEW hw) (plainFor_of_name (by first | (simp [plainName, overriddenIn]; done) | decide +kernel)) (own := z1) (nm := "ensureCapacityInternal") rfl rfl (L := #[.val (.ref a), .val (.int 2), .unset]) (fun m => by first | (simp [entryFrame, mkF, argsToLocals, Value.category]; done) | rfl) ?_
 intro pp ee ss mm bb mtd cc T0 K X0
 have E0 := X0.ext0
 refine o_aloadN K X0 d13_0 rfl rfl rfl ?_
 refine o_getfield K X0 (host := "") (Or.inl (w49 hw)) Via.refl q1 d13_1 rfl ?_
 intro T1 X1
 refine o_arraylength K X1 q4 (z := 16) rfl d13_4 rfl ?_
 refine o_aloadN K X1 d13_5 rfl rfl rfl ?_
 refine o_getfield K X1 (host := "") (Or.inl (w51 hw)) Via.refl q2 d13_6 rfl ?_
 intro T2 X2
 refine o_ishr K X2 d13_9 rfl (z := 16) (by decide) ?_
 refine o_istoreN K X2 d13_10 rfl (L' := #[vR a, vI 2, vI 16]) rfl ?_
 refine o_iloadN K X2 d13_11 rfl rfl ?_
 refine o_iloadN K X2 d13_12 rfl rfl ?_
 refine o_isub K X2 d13_13 rfl (z := -14) (by decide) ?_
 refine o_if_le_t K X2 d13_14 (by decide) (pc' := 38) (by decide) (by decide) ?_
 refine o_return K X2 d13_38 rfl ?_ (by decide) (by decide) (by decide)
 exact ⟨rfl, rfl⟩
def r_asbapp1 : Room := { frames := 1, cells := 0, slots := 0, locals := 14 }
def Q_asbapp1 (Z : State) (a va : Addr) (k : ClassId) (c w0 cs : Int32) (h0 : Heap) (v : Option Value) (h : Heap) : Prop := v = some (.ref a) ∧ Keep h0 h [a, va] ∧ Exa Z h a z4 ∧ Fld Z h a z1 "value" "[B" (.ref va) ∧ Fld Z h a z1 "coder" "B" (.int 0) ∧ Fld Z h a z1 "count" "I" (.int 2) ∧ oArr Z h va k .byte [.int w0, (.int (nar .byte c)), .int 0, .int 0, .int 0, .int 0, .int 0, .int 0, .int 0, .int 0, .int 0, .int 0, .int 0, .int 0, .int 0, .int 0]
theorem rm_asbapp1 (l : Launch) (Z : State) (a0 : Array Value) (hw : oHw Z a0) (a va : Addr) (k : ClassId) (c w0 cs : Int32) (h0 : Heap) (q0 : Exa Z h0 a z4) (q1 : Fld Z h0 a z1 "value" "[B" (.ref va)) (q2 : Fld Z h0 a z1 "coder" "B" (.int 0)) (q3 : Fld Z h0 a z1 "count" "I" (.int 1)) (q4 : oArr Z h0 va k .byte [.int w0, .int 0, .int 0, .int 0, .int 0, .int 0, .int 0, .int 0, .int 0, .int 0, .int 0, .int 0, .int 0, .int 0, .int 0, .int 0]) (q5 : Z.heap.size ≤ a) (q6 : Z.heap.size ≤ va) (q7 : va ≠ a) (q8 : ¬ ((255 : Int32) < c)) (q9 : Sta Z Z.heap z0 z5 "Z" (.int cs)) (q10 : ¬ (cs = (0 : Int32))) : oMet l Z (⟨z1, "append", "(C)Ljava/lang/AbstractStringBuilder;"⟩ : MethodName) jdk_68_method_31_code 2 (some (.object z1)) r_asbapp1 [] #[.ref a, .int c] h0 (Q_asbapp1 Z a va k c w0 cs h0) [a, va] false := by
 refine oEnter (oEW hw) (plainFor_of_name (by first | (simp [plainName, overriddenIn]; done) | decide +kernel)) (own := z1) (nm := "append") rfl rfl (L := #[.val (.ref a), .val (.int c)]) (fun m => by first | (simp [entryFrame, mkF, argsToLocals, Value.category]; done) | rfl) ?_
 intro pp ee ss mm bb mtd cc T0 K X0
 have E0 := X0.ext0
 refine o_aloadN K X0 d14_0 rfl rfl rfl ?_
 refine o_aloadN K X0 d14_1 rfl rfl rfl ?_
 refine o_getfield K X0 (host := "") (Or.inl (w107 hw)) Via.refl q3 d14_2 rfl ?_
 intro T1 X1
 refine o_iconst K X1 d14_5 rfl (z := 1) rfl ?_
 refine o_iadd K X1 d14_6 rfl (z := 2) (by decide) ?_
 refine o_private K X1 (y := (⟨z1, "ensureCapacityInternal", "(I)V"⟩ : MethodName)) (w109 hw) (w110 hw) (oSelectsV (w112 hw) (w110 hw) (w111 hw) (by decide)) (w111 hw) (w45 hw) (w113 hw) (by decide) q0 (rm_ensure1 l Z a0 hw a va k w0 h0 q0 q1 q2 q3 q4) all0 (by decide) rfl (argsL := [.int 2]) rfl (lenOf pd7 rfl) (W := 0) rfl (by decide) (by decide) (by decide) d14_7 rfl ?_
 intro v2 T2 h2 FX2 U2
 obtain ⟨rfl, rfl⟩ := U2
 have X2 := FX2 [] (Or.inl rfl) all0
 show oGoes pp ee bb ss Z T2 (mkF mm 10 _ []) _ _ _ _
 refine o_aloadN K X2 d14_10 rfl rfl rfl ?_
 refine o_virtual K X2   (w114 hw) (w115 hw) (oNF (w117 hw)) (w117 hw) (w116 hw) (w45 hw) (w118 hw) (by decide) q0 (rm_asblat l Z a0 hw a cs h0 q2 q9 q10) all0 (by decide) rfl (argsL := []) rfl (lenOf pd8 rfl) (W := 0) rfl (by decide) (by decide) (by decide) d14_11 rfl ?_
 intro v3 T3 h3 FX3 U3
 obtain ⟨rfl, rfl⟩ := U3
 have X3 := FX3 [] (Or.inl rfl) all0
 show oGoes pp ee bb ss Z T3 (mkF mm 14 _ [.int 1]) _ _ _ _
 refine o_if_eq_f K X3 d14_14 rfl (by decide) ?_
 refine o_iloadN K X3 d14_17 rfl rfl ?_
 refine o_static K X3  (w119 hw) (w120 hw) (w87 hw) (w121 hw) (by decide) (rm_canenc l Z a0 hw c h0 q8) all0 (by decide) rfl (argsL := [.int c]) rfl (lenOf pd0 rfl) (W := 0) rfl (by decide) (by decide) (by decide) d14_18 rfl ?_
 intro v4 T4 h4 FX4 U4
 obtain ⟨rfl, rfl⟩ := U4
 have X4 := FX4 [] (Or.inl rfl) all0
 show oGoes pp ee bb ss Z T4 (mkF mm 21 _ [.int 1]) _ _ _ _
 refine o_if_eq_f K X4 d14_21 rfl (by decide) ?_
 refine o_aloadN K X4 d14_24 rfl rfl rfl ?_
 refine o_getfield K X4 (host := "") (Or.inl (w49 hw)) Via.refl q1 d14_25 rfl ?_
 intro T5 X5
 refine o_aloadN K X5 d14_28 rfl rfl rfl ?_
 refine o_dup K X5 d14_29 rfl rfl ?_
 refine o_getfield K X5 (host := "") (Or.inl (w107 hw)) Via.refl q3 d14_30 rfl ?_
 intro T6 X6
 refine o_dup_x1 K X6 d14_33 rfl rfl rfl ?_
 refine o_iconst K X6 d14_34 rfl (z := 1) rfl ?_
 refine o_iadd K X6 d14_35 rfl (z := 2) (by decide) ?_
 refine o_putfield K X6 (host := "") (Or.inl (w107 hw)) Via.refl q3 q0 (Or.inl (w108 hw)) (w36 hw) (ty := .int) (by decide) rfl rfl q5 me0 d14_36 rfl ?_
 intro T7 h7 X7 W7
 have F7 := Fld.same W7 q3
 refine o_iloadN K X7 d14_39 rfl rfl ?_
 refine o_i2b K X7 d14_40 rfl (z := (nar .byte c)) rfl ?_
 have m9 := (q4.other W7 q7)
 refine o_bastore K X7 m9 (by decide) (show (1 : Int32).toNatClampNeg < 16 from (by decide)) q6 me1 (z := (.int (nar .byte c))) (congrArg Value.int (oNarIdembyte _)) d14_41 rfl ?_
 intro T8 h8 X8 W8 A8
 replace A8 : oArr Z h8 va k .byte [.int w0, (.int (nar .byte c)), .int 0, .int 0, .int 0, .int 0, .int 0, .int 0, .int 0, .int 0, .int 0, .int 0, .int 0, .int 0, .int 0, .int 0] := A8
 refine o_goto K X8 d14_42 (by decide) (pc' := 75) (by decide) ?_
 refine o_aloadN K X8 d14_75 rfl rfl rfl ?_
 refine o_areturn K X8 (t := (.object z1)) d14_76 rfl rfl rfl ?_ (by decide) (by decide) (by decide)
 have m10 := (Exa.wr W8 (Exa.wr W7 q0))
 have m11 := (Fld.other W8 (Fld.other W7 q1 (Or.inr (slot_ne (Or.inl (w50 hw)) (Or.inl (w108 hw)) (by decide) (t := (.array .byte)) (t' := .int) (by decide) (by decide)))) (Or.inl (Ne.symm q7)))
 have m12 := (Fld.other W8 (Fld.other W7 q2 (Or.inr (slot_ne (Or.inl (w52 hw)) (Or.inl (w108 hw)) (by decide) (t := .byte) (t' := .int) (by decide) (by decide)))) (Or.inl (Ne.symm q7)))
 have m13 := (Fld.other W8 F7 (Or.inl (Ne.symm q7)))
 exact ⟨rfl, (((Keep.refl h0 [a, va]).wr W7 (Or.inl me0)).wr W8 (Or.inl me1)), m10, m11, m12, m13, A8⟩
def r_sbapp1 : Room := { frames := 2, cells := 0, slots := 0, locals := 27 }
def Q_sbapp1 (Z : State) (a va : Addr) (k : ClassId) (c w0 cs : Int32) (h0 : Heap) (v : Option Value) (h : Heap) : Prop := v = some (.ref a) ∧ Keep h0 h [a, va] ∧ Exa Z h a z4 ∧ Fld Z h a z1 "value" "[B" (.ref va) ∧ Fld Z h a z1 "coder" "B" (.int 0) ∧ Fld Z h a z1 "count" "I" (.int 2) ∧ oArr Z h va k .byte [.int w0, (.int (nar .byte c)), .int 0, .int 0, .int 0, .int 0, .int 0, .int 0, .int 0, .int 0, .int 0, .int 0, .int 0, .int 0, .int 0, .int 0]
theorem rm_sbapp1 (l : Launch) (Z : State) (a0 : Array Value) (hw : oHw Z a0) (a va : Addr) (k : ClassId) (c w0 cs : Int32) (h0 : Heap) (q0 : Exa Z h0 a z4) (q1 : Fld Z h0 a z1 "value" "[B" (.ref va)) (q2 : Fld Z h0 a z1 "coder" "B" (.int 0)) (q3 : Fld Z h0 a z1 "count" "I" (.int 1)) (q4 : oArr Z h0 va k .byte [.int w0, .int 0, .int 0, .int 0, .int 0, .int 0, .int 0, .int 0, .int 0, .int 0, .int 0, .int 0, .int 0, .int 0, .int 0, .int 0]) (q5 : Z.heap.size ≤ a) (q6 : Z.heap.size ≤ va) (q7 : va ≠ a) (q8 : ¬ ((255 : Int32) < c)) (q9 : Sta Z Z.heap z0 z5 "Z" (.int cs)) (q10 : ¬ (cs = (0 : Int32))) : oMet l Z (⟨z4, "append", "(C)Ljava/lang/StringBuilder;"⟩ : MethodName) jdk_67_method_14_code 2 (some (.object z4)) r_sbapp1 [] #[.ref a, .int c] h0 (Q_sbapp1 Z a va k c w0 cs h0) [a, va] false := by
 refine oEnter (oEW hw) (plainFor_of_name (by first | (simp [plainName, overriddenIn]; done) | decide +kernel)) (own := z4) (nm := "append") rfl rfl (L := #[.val (.ref a), .val (.int c)]) (fun m => by first | (simp [entryFrame, mkF, argsToLocals, Value.category]; done) | rfl) ?_
 intro pp ee ss mm bb mtd cc T0 K X0
 have E0 := X0.ext0
 refine o_aloadN K X0 d15_0 rfl rfl rfl ?_
 refine o_iloadN K X0 d15_1 rfl rfl ?_
 refine o_super K X0 (y := (⟨z1, "append", "(C)Ljava/lang/AbstractStringBuilder;"⟩ : MethodName)) (by decide) (w102 hw) (oSameM (y := (⟨z1, "append", "(C)Ljava/lang/AbstractStringBuilder;"⟩ : MethodName)) (w105 hw) (w112 hw) rfl (by decide)) (w103 hw) (w104 hw) (w45 hw) (w106 hw) (Ins.self q0) (rm_asbapp1 l Z a0 hw a va k c w0 cs h0 q0 q1 q2 q3 q4 q5 q6 q7 q8 q9 q10) (allS me0 (allS me1 all0)) (by decide) rfl (argsL := [.int c]) rfl (lenOf pd9 rfl) (W := 0) rfl (by decide) (by decide) (by decide) d15_2 rfl ?_
 intro v1 T1 h1 FX1 U1
 obtain ⟨rfl, u1_0, u1_1, u1_2, u1_3, u1_4, u1_5⟩ := U1
 have X1 := FX1 [] (Or.inl rfl) all0
 show oGoes pp ee bb ss Z T1 (mkF mm 5 _ [.ref a]) _ _ _ _
 refine o_pop K X1 d15_5 rfl rfl ?_
 refine o_aloadN K X1 d15_6 rfl rfl rfl ?_
 refine o_areturn K X1 (t := (.object z4)) d15_7 rfl rfl rfl ?_ (by decide) (by decide) (by decide)
 exact ⟨rfl, ((Keep.refl h0 [a, va]).trans u1_0 (allS (Or.inl me0) (allS (Or.inl me1) all0))), u1_1, u1_2, u1_3, u1_4, u1_5⟩
theorem d16_0 : decode jdk_68_method_64_code 0 = .ok (.aload_n 0, 1) := by decide +kernel
theorem d16_1 : decode jdk_68_method_64_code 1 = .ok (.getfield 15, 3) := by decide +kernel
theorem d16_4 : decode jdk_68_method_64_code 4 = .ok (.areturn, 1) := by decide +kernel
def r_asbval : Room := { frames := 0, cells := 0, slots := 0, locals := 0 }
def Q_asbval (Z : State) (a va : Addr) (h0 : Heap) (v : Option Value) (h : Heap) : Prop := v = some (.ref va) ∧ h0 = h
theorem rm_asbval (l : Launch) (Z : State) (a0 : Array Value) (hw : oHw Z a0) (a va : Addr) (h0 : Heap) (q0 : Fld Z h0 a z1 "value" "[B" (.ref va)) : oMet l Z (⟨z1, "getValue", "()[B"⟩ : MethodName) jdk_68_method_64_code 1 (some (.array .byte)) r_asbval [] #[.ref a] h0 (Q_asbval Z a va h0) [] false := by
 refine oEnter (oEW hw) (plainFor_of_name (by first | (simp [plainName, overriddenIn]; done) | decide +kernel)) (own := z1) (nm := "getValue") rfl rfl (L := #[.val (.ref a)]) (fun m => by first | (simp [entryFrame, mkF, argsToLocals, Value.category]; done) | rfl) ?_
 intro pp ee ss mm bb mtd cc T0 K X0
 have E0 := X0.ext0
 refine o_aloadN K X0 d16_0 rfl rfl rfl ?_
 refine o_getfield K X0 (host := "") (Or.inl (w49 hw)) Via.refl q0 d16_1 rfl ?_
 intro T1 X1
 refine o_areturn K X1 (t := (.array .byte)) d16_4 rfl rfl rfl ?_ (by decide) (by decide) (by decide)
 exact ⟨rfl, rfl⟩
theorem d17_0 : decode jdk_68_method_6_code 0 = .ok (.aload_n 0, 1) := by decide +kernel
theorem d17_1 : decode jdk_68_method_6_code 1 = .ok (.getfield 79, 3) := by decide +kernel
theorem d17_4 : decode jdk_68_method_6_code 4 = .ok (.ireturn, 1) := by decide +kernel
def r_asblen0 : Room := { frames := 0, cells := 0, slots := 0, locals := 0 }
def Q_asblen0 (Z : State) (a : Addr) (h0 : Heap) (v : Option Value) (h : Heap) : Prop := v = some (.int 0) ∧ h0 = h
theorem rm_asblen0 (l : Launch) (Z : State) (a0 : Array Value) (hw : oHw Z a0) (a : Addr) (h0 : Heap) (q0 : Fld Z h0 a z1 "count" "I" (.int 0)) : oMet l Z (⟨z1, "length", "()I"⟩ : MethodName) jdk_68_method_6_code 1 (some .int) r_asblen0 [] #[.ref a] h0 (Q_asblen0 Z a h0) [] false := by
 refine oEnter (oEW hw) (plainFor_of_name (by first | (simp [plainName, overriddenIn]; done) | decide +kernel)) (own := z1) (nm := "length") rfl rfl (L := #[.val (.ref a)]) (fun m => by first | (simp [entryFrame, mkF, argsToLocals, Value.category]; done) | rfl) ?_
 intro pp ee ss mm bb mtd cc T0 K X0
 have E0 := X0.ext0
 refine o_aloadN K X0 d17_0 rfl rfl rfl ?_
 refine o_getfield K X0 (host := "") (Or.inl (w107 hw)) Via.refl q0 d17_1 rfl ?_
 intro T1 X1
 refine o_ireturn K X1 d17_4 rfl ?_ (by decide) (by decide) (by decide)
 exact ⟨rfl, rfl⟩
theorem d18_0 : decode jdk_67_method_93_code 0 = .ok (.aload_n 0, 1) := by decide +kernel
theorem d18_1 : decode jdk_67_method_93_code 1 = .ok (.invokespecial 343, 3) := by decide +kernel
theorem d18_4 : decode jdk_67_method_93_code 4 = .ok (.ireturn, 1) := by decide +kernel
theorem pd10 : parseMethodDescriptor "()I" = some ⟨[], some .int⟩ := by decide +kernel
def r_sblen0 : Room := { frames := 1, cells := 0, slots := 0, locals := 12 }
def Q_sblen0 (Z : State) (a : Addr) (h0 : Heap) (v : Option Value) (h : Heap) : Prop := v = some (.int 0) ∧ h0 = h
theorem rm_sblen0 (l : Launch) (Z : State) (a0 : Array Value) (hw : oHw Z a0) (a : Addr) (h0 : Heap) (q0 : Exa Z h0 a z4) (q1 : Fld Z h0 a z1 "count" "I" (.int 0)) : oMet l Z (⟨z4, "length", "()I"⟩ : MethodName) jdk_67_method_93_code 1 (some .int) r_sblen0 [] #[.ref a] h0 (Q_sblen0 Z a h0) [] false := by
 refine oEnter (oEW hw) (plainFor_of_name (by first | (simp [plainName, overriddenIn]; done) | decide +kernel)) (own := z4) (nm := "length") rfl rfl (L := #[.val (.ref a)]) (fun m => by first | (simp [entryFrame, mkF, argsToLocals, Value.category]; done) | rfl) ?_
 intro pp ee ss mm bb mtd cc T0 K X0
 have E0 := X0.ext0
 refine o_aloadN K X0 d18_0 rfl rfl rfl ?_
 refine o_super K X0 (y := (⟨z1, "length", "()I"⟩ : MethodName)) (by decide) (w147 hw) (oSameM (y := (⟨z1, "length", "()I"⟩ : MethodName)) (w142 hw) (w112 hw) rfl (by decide)) (w143 hw) (w104 hw) (w45 hw) (w148 hw) (Ins.self q0) (rm_asblen0 l Z a0 hw a h0 q1) all0 (by decide) rfl (argsL := []) rfl (lenOf pd10 rfl) (W := 0) rfl (by decide) (by decide) (by decide) d18_1 rfl ?_
 intro v1 T1 h1 FX1 U1
 obtain ⟨rfl, rfl⟩ := U1
 have X1 := FX1 [] (Or.inl rfl) all0
 show oGoes pp ee bb ss Z T1 (mkF mm 4 _ [.int 0]) _ _ _ _
 refine o_ireturn K X1 d18_4 rfl ?_ (by decide) (by decide) (by decide)
 exact ⟨rfl, rfl⟩
theorem d19_0 : decode jdk_65_method_131_code 0 = .ok (.iload_n 1, 1) := by decide +kernel
theorem d19_1 : decode jdk_65_method_131_code 1 = .ok (.iload_n 0, 1) := by decide +kernel
theorem d19_2 : decode jdk_65_method_131_code 2 = .ok (.if_icmp .ge 35, 3) := by decide +kernel
theorem d19_37 : decode jdk_65_method_131_code 37 = .ok (.return_, 1) := by decide +kernel
def r_chkl0 : Room := { frames := 0, cells := 0, slots := 0, locals := 0 }
def Q_chkl0 (Z : State) (h0 : Heap) (v : Option Value) (h : Heap) : Prop := v = none ∧ h0 = h
theorem rm_chkl0 (l : Launch) (Z : State) (a0 : Array Value) (hw : oHw Z a0) (h0 : Heap) : oMet l Z (⟨z10, "checkLength", "(II)V"⟩ : MethodName) jdk_65_method_131_code 2 none r_chkl0 [] #[.int 0, .int 0] h0 (Q_chkl0 Z h0) [] false := by
 refine oEnter (oEW hw) (plainFor_of_name (by first | (simp [plainName, overriddenIn]; done) | decide +kernel)) (own := z10) (nm := "checkLength") rfl rfl (L := #[.val (.int 0), .val (.int 0)]) (fun m => by first | (simp [entryFrame, mkF, argsToLocals, Value.category]; done) | rfl) ?_
 intro pp ee ss mm bb mtd cc T0 K X0
 have E0 := X0.ext0
 refine o_iloadN K X0 d19_0 rfl rfl ?_
 refine o_iloadN K X0 d19_1 rfl rfl ?_
 refine o_icmp_ge_t K X0 d19_2 (by decide) (pc' := 37) (by decide) (by decide) ?_
 refine o_return K X0 d19_37 rfl ?_ (by decide) (by decide) (by decide)
 exact ⟨rfl, rfl⟩
theorem d20_0 : decode jdk_29_method_69_code 0 = .ok (.iload_n 0, 1) := by decide +kernel
theorem d20_1 : decode jdk_29_method_69_code 1 = .ok (.iload_n 1, 1) := by decide +kernel
theorem d20_2 : decode jdk_29_method_69_code 2 = .ok (.if_icmp .gt 7, 3) := by decide +kernel
theorem d20_9 : decode jdk_29_method_69_code 9 = .ok (.iload_n 1, 1) := by decide +kernel
theorem d20_10 : decode jdk_29_method_69_code 10 = .ok (.ireturn, 1) := by decide +kernel
def r_min0 : Room := { frames := 0, cells := 0, slots := 0, locals := 0 }
def Q_min0 (Z : State) (h0 : Heap) (v : Option Value) (h : Heap) : Prop := v = some (.int 0) ∧ h0 = h
theorem rm_min0 (l : Launch) (Z : State) (a0 : Array Value) (hw : oHw Z a0) (h0 : Heap) : oMet l Z (⟨"java/lang/Math", "min", "(II)I"⟩ : MethodName) jdk_29_method_69_code 2 (some .int) r_min0 [] #[.int 16, .int 0] h0 (Q_min0 Z h0) [] false := by
 refine oEnter (oEW hw) (Jvm.Free.JP.mathPlain rfl (by decide +kernel)) (own := "java/lang/Math") (nm := "min") rfl rfl (L := #[.val (.int 16), .val (.int 0)]) (fun m => by first | (simp [entryFrame, mkF, argsToLocals, Value.category]; done) | rfl) ?_
 intro pp ee ss mm bb mtd cc T0 K X0
 have E0 := X0.ext0
 refine o_iloadN K X0 d20_0 rfl rfl ?_
 refine o_iloadN K X0 d20_1 rfl rfl ?_
 refine o_icmp_gt_t K X0 d20_2 (by decide) (pc' := 9) (by decide) (by decide) ?_
 refine o_iloadN K X0 d20_9 rfl rfl ?_
 refine o_ireturn K X0 d20_10 rfl ?_ (by decide) (by decide) (by decide)
 exact ⟨rfl, rfl⟩
theorem d21_0 : decode jdk_65_method_133_code 0 = .ok (.iload_n 1, 1) := by decide +kernel
theorem d21_1 : decode jdk_65_method_133_code 1 = .ok (.iload_n 2, 1) := by decide +kernel
theorem d21_2 : decode jdk_65_method_133_code 2 = .ok (.invokestatic 343, 3) := by decide +kernel
theorem d21_5 : decode jdk_65_method_133_code 5 = .ok (.iload_n 2, 1) := by decide +kernel
theorem d21_6 : decode jdk_65_method_133_code 6 = .ok (.iload_n 1, 1) := by decide +kernel
theorem d21_7 : decode jdk_65_method_133_code 7 = .ok (.isub, 1) := by decide +kernel
theorem d21_8 : decode jdk_65_method_133_code 8 = .ok (.istore_n 3, 1) := by decide +kernel
theorem d21_9 : decode jdk_65_method_133_code 9 = .ok (.iload_n 3, 1) := by decide +kernel
theorem d21_10 : decode jdk_65_method_133_code 10 = .ok (.newarray .byte, 2) := by decide +kernel
theorem d21_12 : decode jdk_65_method_133_code 12 = .ok (.astore 4, 2) := by decide +kernel
theorem d21_14 : decode jdk_65_method_133_code 14 = .ok (.aload_n 0, 1) := by decide +kernel
theorem d21_15 : decode jdk_65_method_133_code 15 = .ok (.iload_n 1, 1) := by decide +kernel
theorem d21_16 : decode jdk_65_method_133_code 16 = .ok (.aload 4, 2) := by decide +kernel
theorem d21_18 : decode jdk_65_method_133_code 18 = .ok (.iconst 0, 1) := by decide +kernel
theorem d21_19 : decode jdk_65_method_133_code 19 = .ok (.aload_n 0, 1) := by decide +kernel
theorem d21_20 : decode jdk_65_method_133_code 20 = .ok (.arraylength, 1) := by decide +kernel
theorem d21_21 : decode jdk_65_method_133_code 21 = .ok (.iload_n 1, 1) := by decide +kernel
theorem d21_22 : decode jdk_65_method_133_code 22 = .ok (.isub, 1) := by decide +kernel
theorem d21_23 : decode jdk_65_method_133_code 23 = .ok (.iload_n 3, 1) := by decide +kernel
theorem d21_24 : decode jdk_65_method_133_code 24 = .ok (.invokestatic 304, 3) := by decide +kernel
theorem d21_27 : decode jdk_65_method_133_code 27 = .ok (.invokestatic 150, 3) := by decide +kernel
theorem d21_30 : decode jdk_65_method_133_code 30 = .ok (.aload 4, 2) := by decide +kernel
theorem d21_32 : decode jdk_65_method_133_code 32 = .ok (.areturn, 1) := by decide +kernel
theorem pd11 : parseMethodDescriptor "(II)V" = some ⟨[.int, .int], none⟩ := by decide +kernel
theorem pd12 : parseMethodDescriptor "(II)I" = some ⟨[.int, .int], some .int⟩ := by decide +kernel
def r_corb0 : Room := { frames := 1, cells := 1, slots := 0, locals := 18 }
def Q_corb0 (Z : State) (va : Addr) (k : ClassId) (h0 : Heap) (v : Option Value) (h : Heap) : Prop := ∃ r : Addr, ∃ kr : ClassId, v = some (.ref r) ∧ Keep h0 h [] ∧ h0.size ≤ r ∧ oArr Z h r kr .byte []
theorem rm_corb0 (l : Launch) (Z : State) (a0 : Array Value) (hw : oHw Z a0) (va : Addr) (k : ClassId) (h0 : Heap) (q0 : oArr Z h0 va k .byte [.int 0, .int 0, .int 0, .int 0, .int 0, .int 0, .int 0, .int 0, .int 0, .int 0, .int 0, .int 0, .int 0, .int 0, .int 0, .int 0]) : oMet l Z (⟨z10, "copyOfRangeByte", "([BII)[B"⟩ : MethodName) jdk_65_method_133_code 5 (some (.array .byte)) r_corb0 [] #[.ref va, .int 0, .int 0] h0 (Q_corb0 Z va k h0) [] false := by
 refine oEnter (oEW hw) (plainFor_of_name (by first | (simp [plainName, overriddenIn]; done) | decide +kernel)) (own := z10) (nm := "copyOfRangeByte") rfl rfl (L := #[.val (.ref va), .val (.int 0), .val (.int 0), .unset, .unset]) (fun m => by first | (simp [entryFrame, mkF, argsToLocals, Value.category]; done) | rfl) ?_
 intro pp ee ss mm bb mtd cc T0 K X0
 have E0 := X0.ext0
 refine o_iloadN K X0 d21_0 rfl rfl ?_
 refine o_iloadN K X0 d21_1 rfl rfl ?_
 refine o_static K X0  (w157 hw) (w158 hw) (w152 hw) (w159 hw) (by decide) (rm_chkl0 l Z a0 hw  h0) all0 (by decide) rfl (argsL := [.int 0, .int 0]) rfl (lenOf pd11 rfl) (W := 0) rfl (by decide) (by decide) (by decide) d21_2 rfl ?_
 intro v1 T1 h1 FX1 U1
 obtain ⟨rfl, rfl⟩ := U1
 have X1 := FX1 [] (Or.inl rfl) all0
 show oGoes pp ee bb ss Z T1 (mkF mm 5 _ []) _ _ _ _
 refine o_iloadN K X1 d21_5 rfl rfl ?_
 refine o_iloadN K X1 d21_6 rfl rfl ?_
 refine o_isub K X1 d21_7 rfl (z := 0) (by decide) ?_
 refine o_istoreN K X1 d21_8 rfl (L' := #[vR va, vI 0, vI 0, vI 0, uS]) rfl ?_
 refine o_iloadN K X1 d21_9 rfl rfl ?_
 refine o_newarray K X1 (aty := .byte) 0 (w20 hw) (ad := "[B") (by decide +kernel) (by decide) (by decide) (by decide) rfl d21_10 rfl (by decide) (by decide) ?_
 intro T2 h2 b2 k2 X2 g2 E2 A2 B2 G2
 replace A2 : oArr Z h2 b2 k2 .byte [] := A2
 refine o_astore K X2 d21_12 rfl rfl (L' := #[vR va, vI 0, vI 0, vI 0, vR b2]) rfl ?_
 refine o_aloadN K X2 d21_14 rfl rfl rfl ?_
 refine o_iloadN K X2 d21_15 rfl rfl ?_
 refine o_aload K X2 d21_16 rfl rfl rfl ?_
 refine o_iconst K X2 d21_18 rfl (z := 0) rfl ?_
 refine o_aloadN K X2 d21_19 rfl rfl rfl ?_
 have m3 := (q0.ext E2)
 refine o_arraylength K X2 m3 (z := 16) rfl d21_20 rfl ?_
 refine o_iloadN K X2 d21_21 rfl rfl ?_
 refine o_isub K X2 d21_22 rfl (z := 16) (by decide) ?_
 refine o_iloadN K X2 d21_23 rfl rfl ?_
 refine o_static K X2  (w160 hw) (w161 hw) (w162 hw) (w163 hw) (by decide) (rm_min0 l Z a0 hw  h2) all0 (by decide) rfl (argsL := [.int 16, .int 0]) rfl (lenOf pd12 rfl) (W := 4) rfl (by decide) (by decide) (by decide) d21_24 rfl ?_
 intro v4 T4 h4 FX4 U4
 obtain ⟨rfl, rfl⟩ := U4
 have X4 := FX4 [] (Or.inl rfl) all0
 show oGoes pp ee bb ss Z T4 (mkF mm 27 _ [.int 0, .int 0, .ref b2, .int 0, .ref va]) _ _ _ _
 refine o_arraycopy K X4 [] [] (w164 hw) (w167 hw) (w165 hw) (w166 hw) m3 A2 (Or.inl ⟨rfl, rfl⟩) (by decide) (by decide) (by decide) (show (0 : Int32).toNatClampNeg + (0 : Int32).toNatClampNeg ≤ 16 from (by decide)) (show (0 : Int32).toNatClampNeg + (0 : Int32).toNatClampNeg ≤ 0 from (by decide)) rfl rfl rfl G2 me0 d21_27 rfl rfl (by decide) (W := 0) rfl (by decide) ?_
 intro T5 h5 X5 K5 A5
 refine o_aload K X5 d21_30 rfl rfl rfl ?_
 refine o_areturn K X5 (t := (.array .byte)) d21_32 rfl rfl rfl ?_ (by decide) (by decide) (by decide)
 exact ⟨b2, k2, rfl, (((Keep.refl h0 []).ext E2).trans K5 (allS (Or.inr (oLe g2)) all0)), (oLe g2), A5⟩
theorem d22_0 : decode jdk_65_method_132_code 0 = .ok (.iload_n 1, 1) := by decide +kernel
theorem d22_1 : decode jdk_65_method_132_code 1 = .ok (.ifCond .ne 9, 3) := by decide +kernel
theorem d22_4 : decode jdk_65_method_132_code 4 = .ok (.iload_n 2, 1) := by decide +kernel
theorem d22_5 : decode jdk_65_method_132_code 5 = .ok (.aload_n 0, 1) := by decide +kernel
theorem d22_6 : decode jdk_65_method_132_code 6 = .ok (.arraylength, 1) := by decide +kernel
theorem d22_7 : decode jdk_65_method_132_code 7 = .ok (.if_icmp .eq 10, 3) := by decide +kernel
theorem d22_10 : decode jdk_65_method_132_code 10 = .ok (.aload_n 0, 1) := by decide +kernel
theorem d22_11 : decode jdk_65_method_132_code 11 = .ok (.iload_n 1, 1) := by decide +kernel
theorem d22_12 : decode jdk_65_method_132_code 12 = .ok (.iload_n 2, 1) := by decide +kernel
theorem d22_13 : decode jdk_65_method_132_code 13 = .ok (.invokestatic 339, 3) := by decide +kernel
theorem d22_16 : decode jdk_65_method_132_code 16 = .ok (.areturn, 1) := by decide +kernel
theorem pd13 : parseMethodDescriptor "([BII)[B" = some ⟨[(.array .byte), .int, .int], some (.array .byte)⟩ := by decide +kernel
def r_cor0 : Room := { frames := 2, cells := 1, slots := 0, locals := 34 }
def Q_cor0 (Z : State) (va : Addr) (k : ClassId) (h0 : Heap) (v : Option Value) (h : Heap) : Prop := ∃ r : Addr, ∃ kr : ClassId, v = some (.ref r) ∧ Keep h0 h [] ∧ h0.size ≤ r ∧ oArr Z h r kr .byte []
theorem rm_cor0 (l : Launch) (Z : State) (a0 : Array Value) (hw : oHw Z a0) (va : Addr) (k : ClassId) (h0 : Heap) (q0 : oArr Z h0 va k .byte [.int 0, .int 0, .int 0, .int 0, .int 0, .int 0, .int 0, .int 0, .int 0, .int 0, .int 0, .int 0, .int 0, .int 0, .int 0, .int 0]) : oMet l Z (⟨z10, "copyOfRange", "([BII)[B"⟩ : MethodName) jdk_65_method_132_code 3 (some (.array .byte)) r_cor0 [] #[.ref va, .int 0, .int 0] h0 (Q_cor0 Z va k h0) [] false := by
 refine oEnter (oEW hw) (plainFor_of_name (by first | (simp [plainName, overriddenIn]; done) | decide +kernel)) (own := z10) (nm := "copyOfRange") rfl rfl (L := #[.val (.ref va), .val (.int 0), .val (.int 0)]) (fun m => by first | (simp [entryFrame, mkF, argsToLocals, Value.category]; done) | rfl) ?_
 intro pp ee ss mm bb mtd cc T0 K X0
 have E0 := X0.ext0
 refine o_iloadN K X0 d22_0 rfl rfl ?_
 refine o_if_ne_f K X0 d22_1 rfl (by decide) ?_
 refine o_iloadN K X0 d22_4 rfl rfl ?_
 refine o_aloadN K X0 d22_5 rfl rfl rfl ?_
 refine o_arraylength K X0 q0 (z := 16) rfl d22_6 rfl ?_
 refine o_icmp_eq_f K X0 d22_7 rfl (by decide) ?_
 refine o_aloadN K X0 d22_10 rfl rfl rfl ?_
 refine o_iloadN K X0 d22_11 rfl rfl ?_
 refine o_iloadN K X0 d22_12 rfl rfl ?_
 refine o_static K X0  (w154 hw) (w155 hw) (w152 hw) (w156 hw) (by decide) (rm_corb0 l Z a0 hw va k h0 q0) all0 (by decide) rfl (argsL := [.ref va, .int 0, .int 0]) rfl (lenOf pd13 rfl) (W := 0) rfl (by decide) (by decide) (by decide) d22_13 rfl ?_
 intro v1 T1 h1 FX1 U1
 obtain ⟨r_1, kr_1, rfl, u1_0, u1_1, u1_2⟩ := U1
 have G1_r : Z.heap.size ≤ r_1 := Nat.le_trans X0.ext0.1 u1_1
 have X1 := FX1 [r_1] (Or.inl rfl) (allS ⟨u1_1, u1_2.lt⟩ all0)
 show oGoes pp ee bb ss Z T1 (mkF mm 16 _ [.ref r_1]) _ _ _ _
 refine o_areturn K X1 (t := (.array .byte)) d22_16 rfl rfl rfl ?_ (by decide) (by decide) (by decide)
 exact ⟨r_1, kr_1, rfl, ((Keep.refl h0 []).trans u1_0 all0), u1_1, u1_2⟩
theorem d23_0 : decode jdk_42_method_150_code 0 = .ok (.aload_n 0, 1) := by decide +kernel
theorem d23_1 : decode jdk_42_method_150_code 1 = .ok (.invokespecial 1, 3) := by decide +kernel
theorem d23_4 : decode jdk_42_method_150_code 4 = .ok (.aload_n 1, 1) := by decide +kernel
theorem d23_5 : decode jdk_42_method_150_code 5 = .ok (.invokevirtual 552, 3) := by decide +kernel
theorem d23_8 : decode jdk_42_method_150_code 8 = .ok (.astore_n 3, 1) := by decide +kernel
theorem d23_9 : decode jdk_42_method_150_code 9 = .ok (.aload_n 1, 1) := by decide +kernel
theorem d23_10 : decode jdk_42_method_150_code 10 = .ok (.invokevirtual 549, 3) := by decide +kernel
theorem d23_13 : decode jdk_42_method_150_code 13 = .ok (.istore 4, 2) := by decide +kernel
theorem d23_15 : decode jdk_42_method_150_code 15 = .ok (.aload_n 1, 1) := by decide +kernel
theorem d23_16 : decode jdk_42_method_150_code 16 = .ok (.invokevirtual 1047, 3) := by decide +kernel
theorem d23_19 : decode jdk_42_method_150_code 19 = .ok (.ifCond .eq 22, 3) := by decide +kernel
theorem d23_22 : decode jdk_42_method_150_code 22 = .ok (.aload_n 0, 1) := by decide +kernel
theorem d23_23 : decode jdk_42_method_150_code 23 = .ok (.iconst 0, 1) := by decide +kernel
theorem d23_24 : decode jdk_42_method_150_code 24 = .ok (.putfield 15, 3) := by decide +kernel
theorem d23_27 : decode jdk_42_method_150_code 27 = .ok (.aload_n 0, 1) := by decide +kernel
theorem d23_28 : decode jdk_42_method_150_code 28 = .ok (.aload_n 3, 1) := by decide +kernel
theorem d23_29 : decode jdk_42_method_150_code 29 = .ok (.iconst 0, 1) := by decide +kernel
theorem d23_30 : decode jdk_42_method_150_code 30 = .ok (.iload 4, 2) := by decide +kernel
theorem d23_32 : decode jdk_42_method_150_code 32 = .ok (.invokestatic 54, 3) := by decide +kernel
theorem d23_35 : decode jdk_42_method_150_code 35 = .ok (.putfield 9, 3) := by decide +kernel
theorem d23_38 : decode jdk_42_method_150_code 38 = .ok (.goto 59, 3) := by decide +kernel
theorem d23_97 : decode jdk_42_method_150_code 97 = .ok (.return_, 1) := by decide +kernel
theorem pd14 : parseMethodDescriptor "()[B" = some ⟨[], some (.array .byte)⟩ := by decide +kernel
def r_strasb0 : Room := { frames := 3, cells := 1, slots := 0, locals := 49 }
def Q_strasb0 (Z : State) (s a va : Addr) (k : ClassId) (cs : Int32) (h0 : Heap) (v : Option Value) (h : Heap) : Prop := ∃ r : Addr, ∃ kr : ClassId, v = none ∧ Keep h0 h [s] ∧ h0.size ≤ r ∧ Exa Z h s z0 ∧ Fld Z h s z0 "value" "[B" (.ref r) ∧ Fld Z h s z0 "coder" "B" (.int 0) ∧ oArr Z h r kr .byte []
theorem rm_strasb0 (l : Launch) (Z : State) (a0 : Array Value) (hw : oHw Z a0) (s a va : Addr) (k : ClassId) (cs : Int32) (h0 : Heap) (q0 : Exa Z h0 s z0) (q1 : Fld Z h0 s z0 "value" "[B" .null) (q2 : Fld Z h0 s z0 "coder" "B" (.int 0)) (q3 : Z.heap.size ≤ s) (q4 : Exa Z h0 a z4) (q5 : Fld Z h0 a z1 "value" "[B" (.ref va)) (q6 : Fld Z h0 a z1 "coder" "B" (.int 0)) (q7 : Fld Z h0 a z1 "count" "I" (.int 0)) (q8 : oArr Z h0 va k .byte [.int 0, .int 0, .int 0, .int 0, .int 0, .int 0, .int 0, .int 0, .int 0, .int 0, .int 0, .int 0, .int 0, .int 0, .int 0, .int 0]) (q9 : Sta Z Z.heap z0 z5 "Z" (.int cs)) (q10 : ¬ (cs = (0 : Int32))) : oMet l Z (⟨z0, "<init>", z17⟩ : MethodName) jdk_42_method_150_code 5 none r_strasb0 [] #[.ref s, .ref a, .null] h0 (Q_strasb0 Z s a va k cs h0) [s] false := by
 refine oEnter (oEW hw) (plainFor_of_name (by first | (simp [plainName, overriddenIn]; done) | decide +kernel)) (own := z0) (nm := "<init>") rfl rfl (L := #[.val (.ref s), .val (.ref a), .val .null, .unset, .unset]) (fun m => by first | (simp [entryFrame, mkF, argsToLocals, Value.category]; done) | rfl) ?_
 intro pp ee ss mm bb mtd cc T0 K X0
 have E0 := X0.ext0
 refine o_aloadN K X0 d23_0 rfl rfl rfl ?_
 refine o_initObj K X0 (w12 hw) (w13 hw) (w14 hw) d23_1 rfl rfl (by decide) (W := 0) rfl (by decide) ?_
 intro T1 X1
 refine o_aloadN K X1 d23_4 rfl rfl rfl ?_
 refine o_virtual K X1   (w136 hw) (w137 hw) (oNF (w139 hw)) (w139 hw) (w138 hw) (w45 hw) (w140 hw) (by decide) q4 (rm_asbval l Z a0 hw a va h0 q5) all0 (by decide) rfl (argsL := []) rfl (lenOf pd14 rfl) (W := 0) rfl (by decide) (by decide) (by decide) d23_5 rfl ?_
 intro v2 T2 h2 FX2 U2
 obtain ⟨rfl, rfl⟩ := U2
 have X2 := FX2 [] (Or.inl rfl) all0
 show oGoes pp ee bb ss Z T2 (mkF mm 8 _ [.ref va]) _ _ _ _
 refine o_astoreN K X2 d23_8 rfl rfl (L' := #[vR s, vR a, vN, vR va, uS]) rfl ?_
 refine o_aloadN K X2 d23_9 rfl rfl rfl ?_
 refine o_virtual K X2   (w141 hw) (w142 hw) (fun _ q => oNotFaceV (args := #[]) (mvT q (w112 hw)) rfl) (w144 hw) (w145 hw) (w37 hw) (w146 hw) (by decide) q4 (rm_sblen0 l Z a0 hw a h0 q4 q7) all0 (by decide) rfl (argsL := []) rfl (lenOf pd10 rfl) (W := 0) rfl (by decide) (by decide) (by decide) d23_10 rfl ?_
 intro v3 T3 h3 FX3 U3
 obtain ⟨rfl, rfl⟩ := U3
 have X3 := FX3 [] (Or.inl rfl) all0
 show oGoes pp ee bb ss Z T3 (mkF mm 13 _ [.int 0]) _ _ _ _
 refine o_istore K X3 d23_13 rfl (L' := #[vR s, vR a, vN, vR va, vI 0]) rfl ?_
 refine o_aloadN K X3 d23_15 rfl rfl rfl ?_
 refine o_virtual K X3   (w149 hw) (w115 hw) (oNF (w117 hw)) (w117 hw) (w116 hw) (w45 hw) (w118 hw) (by decide) q4 (rm_asblat l Z a0 hw a cs h0 q6 q9 q10) all0 (by decide) rfl (argsL := []) rfl (lenOf pd8 rfl) (W := 0) rfl (by decide) (by decide) (by decide) d23_16 rfl ?_
 intro v4 T4 h4 FX4 U4
 obtain ⟨rfl, rfl⟩ := U4
 have X4 := FX4 [] (Or.inl rfl) all0
 show oGoes pp ee bb ss Z T4 (mkF mm 19 _ [.int 1]) _ _ _ _
 refine o_if_eq_f K X4 d23_19 rfl (by decide) ?_
 refine o_aloadN K X4 d23_22 rfl rfl rfl ?_
 refine o_iconst K X4 d23_23 rfl (z := 0) rfl ?_
 refine o_putfieldN K X4 (w27 hw) Via.refl q2 q0 (Or.inr ⟨(w28 hw), rfl, rfl⟩) (w3 hw) (ty := .byte) (by decide) (v' := (.int 0)) (congrArg Value.int (by decide)) (oFitbyte (x := (0 : Int32)) (by decide)) q3 me0 d23_24 rfl ?_
 intro T5 h5 X5 W5
 have F5 := Fld.same W5 q2
 refine o_aloadN K X5 d23_27 rfl rfl rfl ?_
 refine o_aloadN K X5 d23_28 rfl rfl rfl ?_
 refine o_iconst K X5 d23_29 rfl (z := 0) rfl ?_
 refine o_iload K X5 d23_30 rfl rfl ?_
 have n6 : va ≠ s := (oNeArr q0 (w3 hw) q8)
 have m7 := (q8.other W5 n6)
 refine o_static K X5  (w150 hw) (w151 hw) (w152 hw) (w153 hw) (by decide) (rm_cor0 l Z a0 hw va k h5 m7) all0 (by decide) rfl (argsL := [.ref va, .int 0, .int 0]) rfl (lenOf pd13 rfl) (W := 1) rfl (by decide) (by decide) (by decide) d23_32 rfl ?_
 intro v8 T8 h8 FX8 U8
 obtain ⟨r_8, kr_8, rfl, u8_0, u8_1, u8_2⟩ := U8
 have G8_r : Z.heap.size ≤ r_8 := Nat.le_trans X5.ext0.1 u8_1
 have X8 := FX8 [r_8] (Or.inl rfl) (allS ⟨u8_1, u8_2.lt⟩ all0)
 show oGoes pp ee bb ss Z T8 (mkF mm 35 _ [.ref r_8, .ref s]) _ _ _ _
 have m10 := ((Fld.other W5 q1 (Or.inr (slot_ne (Or.inr (w30 hw)) (Or.inr (w28 hw)) (by decide) (t := (.array .byte)) (t' := .byte) (by decide) (by decide)))).keep u8_0 nin0)
 have m11 := ((Exa.wr W5 q0).keep u8_0)
 refine o_putfield K X8 (host := "") (Or.inl (w29 hw)) Via.refl m10 m11 (Or.inr ⟨(w30 hw), rfl, rfl⟩) (w3 hw) (ty := (.array .byte)) (by decide) rfl rfl q3 me1 d23_35 rfl ?_
 intro T9 h9 X9 W9
 have F9 := Fld.same W9 m10
 refine o_goto K X9 d23_38 (by decide) (pc' := 97) (by decide) ?_
 refine o_return K X9 d23_97 rfl ?_ (by decide) (by decide) (by decide)
 have m12 := (Exa.wr W9 m11)
 have m13 := (Fld.other W9 (F5.keep u8_0 nin0) (Or.inr (slot_ne (Or.inr (w28 hw)) (Or.inr (w30 hw)) (by decide) (t := .byte) (t' := (.array .byte)) (by decide) (by decide))))
 have n14 := oLsn q0.lt (Keep.of_wr W5).1 u8_1
 have m15 := (u8_2.other W9 n14)
 exact ⟨r_8, kr_8, rfl, ((((Keep.refl h0 [s]).wr W5 (Or.inl me0)).trans u8_0 all0).wr W9 (Or.inl me0)), (Nat.le_trans (Keep.of_wr W5).1 u8_1), m12, F9, m13, m15⟩
theorem d24_0 : decode jdk_42_method_53_code 0 = .ok (.aload_n 0, 1) := by decide +kernel
theorem d24_1 : decode jdk_42_method_53_code 1 = .ok (.aload_n 1, 1) := by decide +kernel
theorem d24_2 : decode jdk_42_method_53_code 2 = .ok (.aconst_null, 1) := by decide +kernel
theorem d24_3 : decode jdk_42_method_53_code 3 = .ok (.invokespecial 489, 3) := by decide +kernel
theorem d24_6 : decode jdk_42_method_53_code 6 = .ok (.return_, 1) := by decide +kernel
theorem pd15 : parseMethodDescriptor z17 = some ⟨[(.object z1), (.object "java/lang/Void")], none⟩ := by decide +kernel
def r_strsb0 : Room := { frames := 4, cells := 1, slots := 0, locals := 65 }
def Q_strsb0 (Z : State) (s a va : Addr) (k : ClassId) (cs : Int32) (h0 : Heap) (v : Option Value) (h : Heap) : Prop := ∃ r : Addr, ∃ kr : ClassId, v = none ∧ Keep h0 h [s] ∧ h0.size ≤ r ∧ Exa Z h s z0 ∧ Fld Z h s z0 "value" "[B" (.ref r) ∧ Fld Z h s z0 "coder" "B" (.int 0) ∧ oArr Z h r kr .byte []
theorem rm_strsb0 (l : Launch) (Z : State) (a0 : Array Value) (hw : oHw Z a0) (s a va : Addr) (k : ClassId) (cs : Int32) (h0 : Heap) (q0 : Exa Z h0 s z0) (q1 : Fld Z h0 s z0 "value" "[B" .null) (q2 : Fld Z h0 s z0 "coder" "B" (.int 0)) (q3 : Z.heap.size ≤ s) (q4 : Exa Z h0 a z4) (q5 : Fld Z h0 a z1 "value" "[B" (.ref va)) (q6 : Fld Z h0 a z1 "coder" "B" (.int 0)) (q7 : Fld Z h0 a z1 "count" "I" (.int 0)) (q8 : oArr Z h0 va k .byte [.int 0, .int 0, .int 0, .int 0, .int 0, .int 0, .int 0, .int 0, .int 0, .int 0, .int 0, .int 0, .int 0, .int 0, .int 0, .int 0]) (q9 : Sta Z Z.heap z0 z5 "Z" (.int cs)) (q10 : ¬ (cs = (0 : Int32))) : oMet l Z (⟨z0, "<init>", "(Ljava/lang/StringBuilder;)V"⟩ : MethodName) jdk_42_method_53_code 2 none r_strsb0 [] #[.ref s, .ref a] h0 (Q_strsb0 Z s a va k cs h0) [s] false := by
 refine oEnter (oEW hw) (plainFor_of_name (by first | (simp [plainName, overriddenIn]; done) | decide +kernel)) (own := z0) (nm := "<init>") rfl rfl (L := #[.val (.ref s), .val (.ref a)]) (fun m => by first | (simp [entryFrame, mkF, argsToLocals, Value.category]; done) | rfl) ?_
 intro pp ee ss mm bb mtd cc T0 K X0
 have E0 := X0.ext0
 refine o_aloadN K X0 d24_0 rfl rfl rfl ?_
 refine o_aloadN K X0 d24_1 rfl rfl rfl ?_
 refine o_aconst_null K X0 d24_2 rfl ?_
 refine o_special K X0 (y := (⟨z0, "<init>", z17⟩ : MethodName)) rfl (w133 hw) (w134 hw) (w4 hw) (w135 hw) (by decide) (rm_strasb0 l Z a0 hw s a va k cs h0 q0 q1 q2 q3 q4 q5 q6 q7 q8 q9 q10) (allS me0 all0) (by decide) rfl (argsL := [.ref a, .null]) rfl (lenOf pd15 rfl) (W := 0) rfl (by decide) (by decide) (by decide) d24_3 rfl ?_
 intro v1 T1 h1 FX1 U1
 obtain ⟨r_1, kr_1, rfl, u1_0, u1_1, u1_2, u1_3, u1_4, u1_5⟩ := U1
 have G1_r : Z.heap.size ≤ r_1 := Nat.le_trans X0.ext0.1 u1_1
 have X1 := FX1 [r_1] (Or.inl rfl) (allS ⟨u1_1, u1_5.lt⟩ all0)
 show oGoes pp ee bb ss Z T1 (mkF mm 6 _ []) _ _ _ _
 refine o_return K X1 d24_6 rfl ?_ (by decide) (by decide) (by decide)
 exact ⟨r_1, kr_1, rfl, ((Keep.refl h0 [s]).trans u1_0 (allS (Or.inl me0) all0)), u1_1, u1_2, u1_3, u1_4, u1_5⟩
theorem d25_0 : decode jdk_67_method_42_code 0 = .ok (.new 18, 3) := by decide +kernel
theorem d25_3 : decode jdk_67_method_42_code 3 = .ok (.dup, 1) := by decide +kernel
theorem d25_4 : decode jdk_67_method_42_code 4 = .ok (.aload_n 0, 1) := by decide +kernel
theorem d25_5 : decode jdk_67_method_42_code 5 = .ok (.invokespecial 137, 3) := by decide +kernel
theorem d25_8 : decode jdk_67_method_42_code 8 = .ok (.areturn, 1) := by decide +kernel
theorem pd16 : parseMethodDescriptor "(Ljava/lang/StringBuilder;)V" = some ⟨[(.object z4)], none⟩ := by decide +kernel
def r_tostr0 : Room := { frames := 5, cells := 2, slots := 4, locals := 79 }
def Q_tostr0 (Z : State) (a va : Addr) (k : ClassId) (cs : Int32) (h0 : Heap) (v : Option Value) (h : Heap) : Prop := ∃ s r : Addr, ∃ kr : ClassId, v = some (.ref s) ∧ Keep h0 h [] ∧ h0.size ≤ s ∧ h0.size ≤ r ∧ Exa Z h s z0 ∧ Fld Z h s z0 "value" "[B" (.ref r) ∧ Fld Z h s z0 "coder" "B" (.int 0) ∧ oArr Z h r kr .byte []
theorem rm_tostr0 (l : Launch) (Z : State) (a0 : Array Value) (hw : oHw Z a0) (a va : Addr) (k : ClassId) (cs : Int32) (h0 : Heap) (q0 : Exa Z h0 a z4) (q1 : Fld Z h0 a z1 "value" "[B" (.ref va)) (q2 : Fld Z h0 a z1 "coder" "B" (.int 0)) (q3 : Fld Z h0 a z1 "count" "I" (.int 0)) (q4 : oArr Z h0 va k .byte [.int 0, .int 0, .int 0, .int 0, .int 0, .int 0, .int 0, .int 0, .int 0, .int 0, .int 0, .int 0, .int 0, .int 0, .int 0, .int 0]) (q5 : Sta Z Z.heap z0 z5 "Z" (.int cs)) (q6 : ¬ (cs = (0 : Int32))) : oMet l Z (⟨z4, "toString", "()Ljava/lang/String;"⟩ : MethodName) jdk_67_method_42_code 1 (some (.object z0)) r_tostr0 [] #[.ref a] h0 (Q_tostr0 Z a va k cs h0) [] false := by
 refine oEnter (oEW hw) (plainFor_of_name (by first | (simp [plainName, overriddenIn]; done) | decide +kernel)) (own := z4) (nm := "toString") rfl rfl (L := #[.val (.ref a)]) (fun m => by first | (simp [entryFrame, mkF, argsToLocals, Value.category]; done) | rfl) ?_
 intro pp ee ss mm bb mtd cc T0 K X0
 have E0 := X0.ext0
 refine o_new K X0 (w129 hw) (w3 hw) (w4 hw) d25_0 rfl (by decide) (by decide) ?_
 intro T1 h1 b1 X1 g1 E1 A1 D1 G1
 have F1_coder : Fld Z h1 b1 z0 "coder" "B" (.int 0) := (D1 (Or.inr (w28 hw)) (ty := .byte) (by decide))
 have F1_value : Fld Z h1 b1 z0 "value" "[B" .null := (D1 (Or.inr (w30 hw)) (ty := (.array .byte)) (by decide))
 refine o_dup K X1 d25_3 rfl rfl ?_
 refine o_aloadN K X1 d25_4 rfl rfl rfl ?_
 have m2 := (q0.ext E1)
 have m3 := (q1.ext E1)
 have m4 := (q2.ext E1)
 have m5 := (q3.ext E1)
 have m6 := (q4.ext E1)
 refine o_special K X1 (y := (⟨z0, "<init>", "(Ljava/lang/StringBuilder;)V"⟩ : MethodName)) rfl (w130 hw) (w131 hw) (w4 hw) (w132 hw) (by decide) (rm_strsb0 l Z a0 hw b1 a va k cs h1 A1 F1_value F1_coder G1 m2 m3 m4 m5 m6 q5 q6) (allS me0 all0) (by decide) rfl (argsL := [.ref a]) rfl (lenOf pd16 rfl) (W := 1) rfl (by decide) (by decide) (by decide) d25_5 rfl ?_
 intro v7 T7 h7 FX7 U7
 obtain ⟨r_7, kr_7, rfl, u7_0, u7_1, u7_2, u7_3, u7_4, u7_5⟩ := U7
 have G7_r : Z.heap.size ≤ r_7 := Nat.le_trans X1.ext0.1 u7_1
 have X7 := FX7 [r_7] (Or.inl rfl) (allS ⟨u7_1, u7_5.lt⟩ all0)
 show oGoes pp ee bb ss Z T7 (mkF mm 8 _ [.ref b1]) _ _ _ _
 refine o_areturn K X7 (t := (.object z0)) d25_8 rfl rfl rfl ?_ (by decide) (by decide) (by decide)
 exact ⟨b1, r_7, kr_7, rfl, (((Keep.refl h0 []).ext E1).trans u7_0 (allS (Or.inr (oLe g1)) all0)), (oLe g1), (Nat.le_trans E1.1 u7_1), u7_2, u7_3, u7_4, u7_5⟩
def r_asblen1 : Room := { frames := 0, cells := 0, slots := 0, locals := 0 }
def Q_asblen1 (Z : State) (a : Addr) (h0 : Heap) (v : Option Value) (h : Heap) : Prop := v = some (.int 1) ∧ h0 = h
theorem rm_asblen1 (l : Launch) (Z : State) (a0 : Array Value) (hw : oHw Z a0) (a : Addr) (h0 : Heap) (q0 : Fld Z h0 a z1 "count" "I" (.int 1)) : oMet l Z (⟨z1, "length", "()I"⟩ : MethodName) jdk_68_method_6_code 1 (some .int) r_asblen1 [] #[.ref a] h0 (Q_asblen1 Z a h0) [] false := by
 refine oEnter (oEW hw) (plainFor_of_name (by first | (simp [plainName, overriddenIn]; done) | decide +kernel)) (own := z1) (nm := "length") rfl rfl (L := #[.val (.ref a)]) (fun m => by first | (simp [entryFrame, mkF, argsToLocals, Value.category]; done) | rfl) ?_
 intro pp ee ss mm bb mtd cc T0 K X0
 have E0 := X0.ext0
 refine o_aloadN K X0 d17_0 rfl rfl rfl ?_
 refine o_getfield K X0 (host := "") (Or.inl (w107 hw)) Via.refl q0 d17_1 rfl ?_
 intro T1 X1
 refine o_ireturn K X1 d17_4 rfl ?_ (by decide) (by decide) (by decide)
 exact ⟨rfl, rfl⟩
def r_sblen1 : Room := { frames := 1, cells := 0, slots := 0, locals := 12 }
def Q_sblen1 (Z : State) (a : Addr) (h0 : Heap) (v : Option Value) (h : Heap) : Prop := v = some (.int 1) ∧ h0 = h
theorem rm_sblen1 (l : Launch) (Z : State) (a0 : Array Value) (hw : oHw Z a0) (a : Addr) (h0 : Heap) (q0 : Exa Z h0 a z4) (q1 : Fld Z h0 a z1 "count" "I" (.int 1)) : oMet l Z (⟨z4, "length", "()I"⟩ : MethodName) jdk_67_method_93_code 1 (some .int) r_sblen1 [] #[.ref a] h0 (Q_sblen1 Z a h0) [] false := by
 refine oEnter (oEW hw) (plainFor_of_name (by first | (simp [plainName, overriddenIn]; done) | decide +kernel)) (own := z4) (nm := "length") rfl rfl (L := #[.val (.ref a)]) (fun m => by first | (simp [entryFrame, mkF, argsToLocals, Value.category]; done) | rfl) ?_
 intro pp ee ss mm bb mtd cc T0 K X0
 have E0 := X0.ext0
 refine o_aloadN K X0 d18_0 rfl rfl rfl ?_
 refine o_super K X0 (y := (⟨z1, "length", "()I"⟩ : MethodName)) (by decide) (w147 hw) (oSameM (y := (⟨z1, "length", "()I"⟩ : MethodName)) (w142 hw) (w112 hw) rfl (by decide)) (w143 hw) (w104 hw) (w45 hw) (w148 hw) (Ins.self q0) (rm_asblen1 l Z a0 hw a h0 q1) all0 (by decide) rfl (argsL := []) rfl (lenOf pd10 rfl) (W := 0) rfl (by decide) (by decide) (by decide) d18_1 rfl ?_
 intro v1 T1 h1 FX1 U1
 obtain ⟨rfl, rfl⟩ := U1
 have X1 := FX1 [] (Or.inl rfl) all0
 show oGoes pp ee bb ss Z T1 (mkF mm 4 _ [.int 1]) _ _ _ _
 refine o_ireturn K X1 d18_4 rfl ?_ (by decide) (by decide) (by decide)
 exact ⟨rfl, rfl⟩
def r_chkl1 : Room := { frames := 0, cells := 0, slots := 0, locals := 0 }
def Q_chkl1 (Z : State) (h0 : Heap) (v : Option Value) (h : Heap) : Prop := v = none ∧ h0 = h
theorem rm_chkl1 (l : Launch) (Z : State) (a0 : Array Value) (hw : oHw Z a0) (h0 : Heap) : oMet l Z (⟨z10, "checkLength", "(II)V"⟩ : MethodName) jdk_65_method_131_code 2 none r_chkl1 [] #[.int 0, .int 1] h0 (Q_chkl1 Z h0) [] false := by
 refine oEnter (oEW hw) (plainFor_of_name (by first | (simp [plainName, overriddenIn]; done) | decide +kernel)) (own := z10) (nm := "checkLength") rfl rfl (L := #[.val (.int 0), .val (.int 1)]) (fun m => by first | (simp [entryFrame, mkF, argsToLocals, Value.category]; done) | rfl) ?_
 intro pp ee ss mm bb mtd cc T0 K X0
 have E0 := X0.ext0
 refine o_iloadN K X0 d19_0 rfl rfl ?_
 refine o_iloadN K X0 d19_1 rfl rfl ?_
 refine o_icmp_ge_t K X0 d19_2 (by decide) (pc' := 37) (by decide) (by decide) ?_
 refine o_return K X0 d19_37 rfl ?_ (by decide) (by decide) (by decide)
 exact ⟨rfl, rfl⟩
def r_min1 : Room := { frames := 0, cells := 0, slots := 0, locals := 0 }
def Q_min1 (Z : State) (h0 : Heap) (v : Option Value) (h : Heap) : Prop := v = some (.int 1) ∧ h0 = h
theorem rm_min1 (l : Launch) (Z : State) (a0 : Array Value) (hw : oHw Z a0) (h0 : Heap) : oMet l Z (⟨"java/lang/Math", "min", "(II)I"⟩ : MethodName) jdk_29_method_69_code 2 (some .int) r_min1 [] #[.int 16, .int 1] h0 (Q_min1 Z h0) [] false := by
 refine oEnter (oEW hw) (Jvm.Free.JP.mathPlain rfl (by decide +kernel)) (own := "java/lang/Math") (nm := "min") rfl rfl (L := #[.val (.int 16), .val (.int 1)]) (fun m => by first | (simp [entryFrame, mkF, argsToLocals, Value.category]; done) | rfl) ?_
 intro pp ee ss mm bb mtd cc T0 K X0
 have E0 := X0.ext0
 refine o_iloadN K X0 d20_0 rfl rfl ?_
 refine o_iloadN K X0 d20_1 rfl rfl ?_
 refine o_icmp_gt_t K X0 d20_2 (by decide) (pc' := 9) (by decide) (by decide) ?_
 refine o_iloadN K X0 d20_9 rfl rfl ?_
 refine o_ireturn K X0 d20_10 rfl ?_ (by decide) (by decide) (by decide)
 exact ⟨rfl, rfl⟩
def r_corb1 : Room := { frames := 1, cells := 1, slots := 1, locals := 18 }
def Q_corb1 (Z : State) (va : Addr) (k : ClassId) (w0 : Int32) (h0 : Heap) (v : Option Value) (h : Heap) : Prop := ∃ r : Addr, ∃ kr : ClassId, v = some (.ref r) ∧ Keep h0 h [] ∧ h0.size ≤ r ∧ oArr Z h r kr .byte [.int w0]
theorem rm_corb1 (l : Launch) (Z : State) (a0 : Array Value) (hw : oHw Z a0) (va : Addr) (k : ClassId) (w0 : Int32) (h0 : Heap) (q0 : oArr Z h0 va k .byte [.int w0, .int 0, .int 0, .int 0, .int 0, .int 0, .int 0, .int 0, .int 0, .int 0, .int 0, .int 0, .int 0, .int 0, .int 0, .int 0]) : oMet l Z (⟨z10, "copyOfRangeByte", "([BII)[B"⟩ : MethodName) jdk_65_method_133_code 5 (some (.array .byte)) r_corb1 [] #[.ref va, .int 0, .int 1] h0 (Q_corb1 Z va k w0 h0) [] false := by
 refine oEnter (oEW hw) (plainFor_of_name (by first | (simp [plainName, overriddenIn]; done) | decide +kernel)) (own := z10) (nm := "copyOfRangeByte") rfl rfl (L := #[.val (.ref va), .val (.int 0), .val (.int 1), .unset, .unset]) (fun m => by first | (simp [entryFrame, mkF, argsToLocals, Value.category]; done) | rfl) ?_
 intro pp ee ss mm bb mtd cc T0 K X0
 have E0 := X0.ext0
 refine o_iloadN K X0 d21_0 rfl rfl ?_
 refine o_iloadN K X0 d21_1 rfl rfl ?_
 refine o_static K X0  (w157 hw) (w158 hw) (w152 hw) (w159 hw) (by decide) (rm_chkl1 l Z a0 hw  h0) all0 (by decide) rfl (argsL := [.int 0, .int 1]) rfl (lenOf pd11 rfl) (W := 0) rfl (by decide) (by decide) (by decide) d21_2 rfl ?_
 intro v1 T1 h1 FX1 U1
 obtain ⟨rfl, rfl⟩ := U1
 have X1 := FX1 [] (Or.inl rfl) all0
 show oGoes pp ee bb ss Z T1 (mkF mm 5 _ []) _ _ _ _
 refine o_iloadN K X1 d21_5 rfl rfl ?_
 refine o_iloadN K X1 d21_6 rfl rfl ?_
 refine o_isub K X1 d21_7 rfl (z := 1) (by decide) ?_
 refine o_istoreN K X1 d21_8 rfl (L' := #[vR va, vI 0, vI 1, vI 1, uS]) rfl ?_
 refine o_iloadN K X1 d21_9 rfl rfl ?_
 refine o_newarray K X1 (aty := .byte) 1 (w20 hw) (ad := "[B") (by decide +kernel) (by decide) (by decide) (by decide) rfl d21_10 rfl (by decide) (by decide) ?_
 intro T2 h2 b2 k2 X2 g2 E2 A2 B2 G2
 replace A2 : oArr Z h2 b2 k2 .byte [.int 0] := A2
 refine o_astore K X2 d21_12 rfl rfl (L' := #[vR va, vI 0, vI 1, vI 1, vR b2]) rfl ?_
 refine o_aloadN K X2 d21_14 rfl rfl rfl ?_
 refine o_iloadN K X2 d21_15 rfl rfl ?_
 refine o_aload K X2 d21_16 rfl rfl rfl ?_
 refine o_iconst K X2 d21_18 rfl (z := 0) rfl ?_
 refine o_aloadN K X2 d21_19 rfl rfl rfl ?_
 have m3 := (q0.ext E2)
 refine o_arraylength K X2 m3 (z := 16) rfl d21_20 rfl ?_
 refine o_iloadN K X2 d21_21 rfl rfl ?_
 refine o_isub K X2 d21_22 rfl (z := 16) (by decide) ?_
 refine o_iloadN K X2 d21_23 rfl rfl ?_
 refine o_static K X2  (w160 hw) (w161 hw) (w162 hw) (w163 hw) (by decide) (rm_min1 l Z a0 hw  h2) all0 (by decide) rfl (argsL := [.int 16, .int 1]) rfl (lenOf pd12 rfl) (W := 4) rfl (by decide) (by decide) (by decide) d21_24 rfl ?_
 intro v4 T4 h4 FX4 U4
 obtain ⟨rfl, rfl⟩ := U4
 have X4 := FX4 [] (Or.inl rfl) all0
 show oGoes pp ee bb ss Z T4 (mkF mm 27 _ [.int 1, .int 0, .ref b2, .int 0, .ref va]) _ _ _ _
 refine o_arraycopy K X4 [.int w0] [.int w0] (w164 hw) (w167 hw) (w165 hw) (w166 hw) m3 A2 (Or.inl ⟨rfl, rfl⟩) (by decide) (by decide) (by decide) (show (0 : Int32).toNatClampNeg + (1 : Int32).toNatClampNeg ≤ 16 from (by decide)) (show (0 : Int32).toNatClampNeg + (1 : Int32).toNatClampNeg ≤ 1 from (by decide)) rfl rfl rfl G2 me0 d21_27 rfl rfl (by decide) (W := 0) rfl (by decide) ?_
 intro T5 h5 X5 K5 A5
 refine o_aload K X5 d21_30 rfl rfl rfl ?_
 refine o_areturn K X5 (t := (.array .byte)) d21_32 rfl rfl rfl ?_ (by decide) (by decide) (by decide)
 exact ⟨b2, k2, rfl, (((Keep.refl h0 []).ext E2).trans K5 (allS (Or.inr (oLe g2)) all0)), (oLe g2), A5⟩
def r_cor1 : Room := { frames := 2, cells := 1, slots := 1, locals := 34 }
def Q_cor1 (Z : State) (va : Addr) (k : ClassId) (w0 : Int32) (h0 : Heap) (v : Option Value) (h : Heap) : Prop := ∃ r : Addr, ∃ kr : ClassId, v = some (.ref r) ∧ Keep h0 h [] ∧ h0.size ≤ r ∧ oArr Z h r kr .byte [.int w0]
theorem rm_cor1 (l : Launch) (Z : State) (a0 : Array Value) (hw : oHw Z a0) (va : Addr) (k : ClassId) (w0 : Int32) (h0 : Heap) (q0 : oArr Z h0 va k .byte [.int w0, .int 0, .int 0, .int 0, .int 0, .int 0, .int 0, .int 0, .int 0, .int 0, .int 0, .int 0, .int 0, .int 0, .int 0, .int 0]) : oMet l Z (⟨z10, "copyOfRange", "([BII)[B"⟩ : MethodName) jdk_65_method_132_code 3 (some (.array .byte)) r_cor1 [] #[.ref va, .int 0, .int 1] h0 (Q_cor1 Z va k w0 h0) [] false := by
 refine oEnter (oEW hw) (plainFor_of_name (by first | (simp [plainName, overriddenIn]; done) | decide +kernel)) (own := z10) (nm := "copyOfRange") rfl rfl (L := #[.val (.ref va), .val (.int 0), .val (.int 1)]) (fun m => by first | (simp [entryFrame, mkF, argsToLocals, Value.category]; done) | rfl) ?_
 intro pp ee ss mm bb mtd cc T0 K X0
 have E0 := X0.ext0
 refine o_iloadN K X0 d22_0 rfl rfl ?_
 refine o_if_ne_f K X0 d22_1 rfl (by decide) ?_
 refine o_iloadN K X0 d22_4 rfl rfl ?_
 refine o_aloadN K X0 d22_5 rfl rfl rfl ?_
 refine o_arraylength K X0 q0 (z := 16) rfl d22_6 rfl ?_
 refine o_icmp_eq_f K X0 d22_7 rfl (by decide) ?_
 refine o_aloadN K X0 d22_10 rfl rfl rfl ?_
 refine o_iloadN K X0 d22_11 rfl rfl ?_
 refine o_iloadN K X0 d22_12 rfl rfl ?_
 refine o_static K X0  (w154 hw) (w155 hw) (w152 hw) (w156 hw) (by decide) (rm_corb1 l Z a0 hw va k w0 h0 q0) all0 (by decide) rfl (argsL := [.ref va, .int 0, .int 1]) rfl (lenOf pd13 rfl) (W := 0) rfl (by decide) (by decide) (by decide) d22_13 rfl ?_
 intro v1 T1 h1 FX1 U1
 obtain ⟨r_1, kr_1, rfl, u1_0, u1_1, u1_2⟩ := U1
 have G1_r : Z.heap.size ≤ r_1 := Nat.le_trans X0.ext0.1 u1_1
 have X1 := FX1 [r_1] (Or.inl rfl) (allS ⟨u1_1, u1_2.lt⟩ all0)
 show oGoes pp ee bb ss Z T1 (mkF mm 16 _ [.ref r_1]) _ _ _ _
 refine o_areturn K X1 (t := (.array .byte)) d22_16 rfl rfl rfl ?_ (by decide) (by decide) (by decide)
 exact ⟨r_1, kr_1, rfl, ((Keep.refl h0 []).trans u1_0 all0), u1_1, u1_2⟩
def r_strasb1 : Room := { frames := 3, cells := 1, slots := 1, locals := 49 }
def Q_strasb1 (Z : State) (s a va : Addr) (k : ClassId) (w0 cs : Int32) (h0 : Heap) (v : Option Value) (h : Heap) : Prop := ∃ r : Addr, ∃ kr : ClassId, v = none ∧ Keep h0 h [s] ∧ h0.size ≤ r ∧ Exa Z h s z0 ∧ Fld Z h s z0 "value" "[B" (.ref r) ∧ Fld Z h s z0 "coder" "B" (.int 0) ∧ oArr Z h r kr .byte [.int w0]
theorem rm_strasb1 (l : Launch) (Z : State) (a0 : Array Value) (hw : oHw Z a0) (s a va : Addr) (k : ClassId) (w0 cs : Int32) (h0 : Heap) (q0 : Exa Z h0 s z0) (q1 : Fld Z h0 s z0 "value" "[B" .null) (q2 : Fld Z h0 s z0 "coder" "B" (.int 0)) (q3 : Z.heap.size ≤ s) (q4 : Exa Z h0 a z4) (q5 : Fld Z h0 a z1 "value" "[B" (.ref va)) (q6 : Fld Z h0 a z1 "coder" "B" (.int 0)) (q7 : Fld Z h0 a z1 "count" "I" (.int 1)) (q8 : oArr Z h0 va k .byte [.int w0, .int 0, .int 0, .int 0, .int 0, .int 0, .int 0, .int 0, .int 0, .int 0, .int 0, .int 0, .int 0, .int 0, .int 0, .int 0]) (q9 : Sta Z Z.heap z0 z5 "Z" (.int cs)) (q10 : ¬ (cs = (0 : Int32))) : oMet l Z (⟨z0, "<init>", z17⟩ : MethodName) jdk_42_method_150_code 5 none r_strasb1 [] #[.ref s, .ref a, .null] h0 (Q_strasb1 Z s a va k w0 cs h0) [s] false := by
 refine oEnter (oEW hw) (plainFor_of_name (by first | (simp [plainName, overriddenIn]; done) | decide +kernel)) (own := z0) (nm := "<init>") rfl rfl (L := #[.val (.ref s), .val (.ref a), .val .null, .unset, .unset]) (fun m => by first | (simp [entryFrame, mkF, argsToLocals, Value.category]; done) | rfl) ?_
 intro pp ee ss mm bb mtd cc T0 K X0
 have E0 := X0.ext0
 refine o_aloadN K X0 d23_0 rfl rfl rfl ?_
 refine o_initObj K X0 (w12 hw) (w13 hw) (w14 hw) d23_1 rfl rfl (by decide) (W := 0) rfl (by decide) ?_
 intro T1 X1
 refine o_aloadN K X1 d23_4 rfl rfl rfl ?_
 refine o_virtual K X1   (w136 hw) (w137 hw) (oNF (w139 hw)) (w139 hw) (w138 hw) (w45 hw) (w140 hw) (by decide) q4 (rm_asbval l Z a0 hw a va h0 q5) all0 (by decide) rfl (argsL := []) rfl (lenOf pd14 rfl) (W := 0) rfl (by decide) (by decide) (by decide) d23_5 rfl ?_
 intro v2 T2 h2 FX2 U2
 obtain ⟨rfl, rfl⟩ := U2
 have X2 := FX2 [] (Or.inl rfl) all0
 show oGoes pp ee bb ss Z T2 (mkF mm 8 _ [.ref va]) _ _ _ _
 refine o_astoreN K X2 d23_8 rfl rfl (L' := #[vR s, vR a, vN, vR va, uS]) rfl ?_
 refine o_aloadN K X2 d23_9 rfl rfl rfl ?_
 refine o_virtual K X2   (w141 hw) (w142 hw) (fun _ q => oNotFaceV (args := #[]) (mvT q (w112 hw)) rfl) (w144 hw) (w145 hw) (w37 hw) (w146 hw) (by decide) q4 (rm_sblen1 l Z a0 hw a h0 q4 q7) all0 (by decide) rfl (argsL := []) rfl (lenOf pd10 rfl) (W := 0) rfl (by decide) (by decide) (by decide) d23_10 rfl ?_
 intro v3 T3 h3 FX3 U3
 obtain ⟨rfl, rfl⟩ := U3
 have X3 := FX3 [] (Or.inl rfl) all0
 show oGoes pp ee bb ss Z T3 (mkF mm 13 _ [.int 1]) _ _ _ _
 refine o_istore K X3 d23_13 rfl (L' := #[vR s, vR a, vN, vR va, vI 1]) rfl ?_
 refine o_aloadN K X3 d23_15 rfl rfl rfl ?_
 refine o_virtual K X3   (w149 hw) (w115 hw) (oNF (w117 hw)) (w117 hw) (w116 hw) (w45 hw) (w118 hw) (by decide) q4 (rm_asblat l Z a0 hw a cs h0 q6 q9 q10) all0 (by decide) rfl (argsL := []) rfl (lenOf pd8 rfl) (W := 0) rfl (by decide) (by decide) (by decide) d23_16 rfl ?_
 intro v4 T4 h4 FX4 U4
 obtain ⟨rfl, rfl⟩ := U4
 have X4 := FX4 [] (Or.inl rfl) all0
 show oGoes pp ee bb ss Z T4 (mkF mm 19 _ [.int 1]) _ _ _ _
 refine o_if_eq_f K X4 d23_19 rfl (by decide) ?_
 refine o_aloadN K X4 d23_22 rfl rfl rfl ?_
 refine o_iconst K X4 d23_23 rfl (z := 0) rfl ?_
 refine o_putfieldN K X4 (w27 hw) Via.refl q2 q0 (Or.inr ⟨(w28 hw), rfl, rfl⟩) (w3 hw) (ty := .byte) (by decide) (v' := (.int 0)) (congrArg Value.int (by decide)) (oFitbyte (x := (0 : Int32)) (by decide)) q3 me0 d23_24 rfl ?_
 intro T5 h5 X5 W5
 have F5 := Fld.same W5 q2
 refine o_aloadN K X5 d23_27 rfl rfl rfl ?_
 refine o_aloadN K X5 d23_28 rfl rfl rfl ?_
 refine o_iconst K X5 d23_29 rfl (z := 0) rfl ?_
 refine o_iload K X5 d23_30 rfl rfl ?_
 have n6 : va ≠ s := (oNeArr q0 (w3 hw) q8)
 have m7 := (q8.other W5 n6)
 refine o_static K X5  (w150 hw) (w151 hw) (w152 hw) (w153 hw) (by decide) (rm_cor1 l Z a0 hw va k w0 h5 m7) all0 (by decide) rfl (argsL := [.ref va, .int 0, .int 1]) rfl (lenOf pd13 rfl) (W := 1) rfl (by decide) (by decide) (by decide) d23_32 rfl ?_
 intro v8 T8 h8 FX8 U8
 obtain ⟨r_8, kr_8, rfl, u8_0, u8_1, u8_2⟩ := U8
 have G8_r : Z.heap.size ≤ r_8 := Nat.le_trans X5.ext0.1 u8_1
 have X8 := FX8 [r_8] (Or.inl rfl) (allS ⟨u8_1, u8_2.lt⟩ all0)
 show oGoes pp ee bb ss Z T8 (mkF mm 35 _ [.ref r_8, .ref s]) _ _ _ _
 have m10 := ((Fld.other W5 q1 (Or.inr (slot_ne (Or.inr (w30 hw)) (Or.inr (w28 hw)) (by decide) (t := (.array .byte)) (t' := .byte) (by decide) (by decide)))).keep u8_0 nin0)
 have m11 := ((Exa.wr W5 q0).keep u8_0)
 refine o_putfield K X8 (host := "") (Or.inl (w29 hw)) Via.refl m10 m11 (Or.inr ⟨(w30 hw), rfl, rfl⟩) (w3 hw) (ty := (.array .byte)) (by decide) rfl rfl q3 me1 d23_35 rfl ?_
 intro T9 h9 X9 W9
 have F9 := Fld.same W9 m10
 refine o_goto K X9 d23_38 (by decide) (pc' := 97) (by decide) ?_
 refine o_return K X9 d23_97 rfl ?_ (by decide) (by decide) (by decide)
 have m12 := (Exa.wr W9 m11)
 have m13 := (Fld.other W9 (F5.keep u8_0 nin0) (Or.inr (slot_ne (Or.inr (w28 hw)) (Or.inr (w30 hw)) (by decide) (t := .byte) (t' := (.array .byte)) (by decide) (by decide))))
 have n14 := oLsn q0.lt (Keep.of_wr W5).1 u8_1
 have m15 := (u8_2.other W9 n14)
 exact ⟨r_8, kr_8, rfl, ((((Keep.refl h0 [s]).wr W5 (Or.inl me0)).trans u8_0 all0).wr W9 (Or.inl me0)), (Nat.le_trans (Keep.of_wr W5).1 u8_1), m12, F9, m13, m15⟩
def r_strsb1 : Room := { frames := 4, cells := 1, slots := 1, locals := 65 }
def Q_strsb1 (Z : State) (s a va : Addr) (k : ClassId) (w0 cs : Int32) (h0 : Heap) (v : Option Value) (h : Heap) : Prop := ∃ r : Addr, ∃ kr : ClassId, v = none ∧ Keep h0 h [s] ∧ h0.size ≤ r ∧ Exa Z h s z0 ∧ Fld Z h s z0 "value" "[B" (.ref r) ∧ Fld Z h s z0 "coder" "B" (.int 0) ∧ oArr Z h r kr .byte [.int w0]
theorem rm_strsb1 (l : Launch) (Z : State) (a0 : Array Value) (hw : oHw Z a0) (s a va : Addr) (k : ClassId) (w0 cs : Int32) (h0 : Heap) (q0 : Exa Z h0 s z0) (q1 : Fld Z h0 s z0 "value" "[B" .null) (q2 : Fld Z h0 s z0 "coder" "B" (.int 0)) (q3 : Z.heap.size ≤ s) (q4 : Exa Z h0 a z4) (q5 : Fld Z h0 a z1 "value" "[B" (.ref va)) (q6 : Fld Z h0 a z1 "coder" "B" (.int 0)) (q7 : Fld Z h0 a z1 "count" "I" (.int 1)) (q8 : oArr Z h0 va k .byte [.int w0, .int 0, .int 0, .int 0, .int 0, .int 0, .int 0, .int 0, .int 0, .int 0, .int 0, .int 0, .int 0, .int 0, .int 0, .int 0]) (q9 : Sta Z Z.heap z0 z5 "Z" (.int cs)) (q10 : ¬ (cs = (0 : Int32))) : oMet l Z (⟨z0, "<init>", "(Ljava/lang/StringBuilder;)V"⟩ : MethodName) jdk_42_method_53_code 2 none r_strsb1 [] #[.ref s, .ref a] h0 (Q_strsb1 Z s a va k w0 cs h0) [s] false := by
 refine oEnter (oEW hw) (plainFor_of_name (by first | (simp [plainName, overriddenIn]; done) | decide +kernel)) (own := z0) (nm := "<init>") rfl rfl (L := #[.val (.ref s), .val (.ref a)]) (fun m => by first | (simp [entryFrame, mkF, argsToLocals, Value.category]; done) | rfl) ?_
 intro pp ee ss mm bb mtd cc T0 K X0
 have E0 := X0.ext0
 refine o_aloadN K X0 d24_0 rfl rfl rfl ?_
 refine o_aloadN K X0 d24_1 rfl rfl rfl ?_
 refine o_aconst_null K X0 d24_2 rfl ?_
 refine o_special K X0 (y := (⟨z0, "<init>", z17⟩ : MethodName)) rfl (w133 hw) (w134 hw) (w4 hw) (w135 hw) (by decide) (rm_strasb1 l Z a0 hw s a va k w0 cs h0 q0 q1 q2 q3 q4 q5 q6 q7 q8 q9 q10) (allS me0 all0) (by decide) rfl (argsL := [.ref a, .null]) rfl (lenOf pd15 rfl) (W := 0) rfl (by decide) (by decide) (by decide) d24_3 rfl ?_
 intro v1 T1 h1 FX1 U1
 obtain ⟨r_1, kr_1, rfl, u1_0, u1_1, u1_2, u1_3, u1_4, u1_5⟩ := U1
 have G1_r : Z.heap.size ≤ r_1 := Nat.le_trans X0.ext0.1 u1_1
 have X1 := FX1 [r_1] (Or.inl rfl) (allS ⟨u1_1, u1_5.lt⟩ all0)
 show oGoes pp ee bb ss Z T1 (mkF mm 6 _ []) _ _ _ _
 refine o_return K X1 d24_6 rfl ?_ (by decide) (by decide) (by decide)
 exact ⟨r_1, kr_1, rfl, ((Keep.refl h0 [s]).trans u1_0 (allS (Or.inl me0) all0)), u1_1, u1_2, u1_3, u1_4, u1_5⟩
def r_tostr1 : Room := { frames := 5, cells := 2, slots := 5, locals := 79 }
def Q_tostr1 (Z : State) (a va : Addr) (k : ClassId) (w0 cs : Int32) (h0 : Heap) (v : Option Value) (h : Heap) : Prop := ∃ s r : Addr, ∃ kr : ClassId, v = some (.ref s) ∧ Keep h0 h [] ∧ h0.size ≤ s ∧ h0.size ≤ r ∧ Exa Z h s z0 ∧ Fld Z h s z0 "value" "[B" (.ref r) ∧ Fld Z h s z0 "coder" "B" (.int 0) ∧ oArr Z h r kr .byte [.int w0]
theorem rm_tostr1 (l : Launch) (Z : State) (a0 : Array Value) (hw : oHw Z a0) (a va : Addr) (k : ClassId) (w0 cs : Int32) (h0 : Heap) (q0 : Exa Z h0 a z4) (q1 : Fld Z h0 a z1 "value" "[B" (.ref va)) (q2 : Fld Z h0 a z1 "coder" "B" (.int 0)) (q3 : Fld Z h0 a z1 "count" "I" (.int 1)) (q4 : oArr Z h0 va k .byte [.int w0, .int 0, .int 0, .int 0, .int 0, .int 0, .int 0, .int 0, .int 0, .int 0, .int 0, .int 0, .int 0, .int 0, .int 0, .int 0]) (q5 : Sta Z Z.heap z0 z5 "Z" (.int cs)) (q6 : ¬ (cs = (0 : Int32))) : oMet l Z (⟨z4, "toString", "()Ljava/lang/String;"⟩ : MethodName) jdk_67_method_42_code 1 (some (.object z0)) r_tostr1 [] #[.ref a] h0 (Q_tostr1 Z a va k w0 cs h0) [] false := by
 refine oEnter (oEW hw) (plainFor_of_name (by first | (simp [plainName, overriddenIn]; done) | decide +kernel)) (own := z4) (nm := "toString") rfl rfl (L := #[.val (.ref a)]) (fun m => by first | (simp [entryFrame, mkF, argsToLocals, Value.category]; done) | rfl) ?_
 intro pp ee ss mm bb mtd cc T0 K X0
 have E0 := X0.ext0
 refine o_new K X0 (w129 hw) (w3 hw) (w4 hw) d25_0 rfl (by decide) (by decide) ?_
 intro T1 h1 b1 X1 g1 E1 A1 D1 G1
 have F1_coder : Fld Z h1 b1 z0 "coder" "B" (.int 0) := (D1 (Or.inr (w28 hw)) (ty := .byte) (by decide))
 have F1_value : Fld Z h1 b1 z0 "value" "[B" .null := (D1 (Or.inr (w30 hw)) (ty := (.array .byte)) (by decide))
 refine o_dup K X1 d25_3 rfl rfl ?_
 refine o_aloadN K X1 d25_4 rfl rfl rfl ?_
 have m2 := (q0.ext E1)
 have m3 := (q1.ext E1)
 have m4 := (q2.ext E1)
 have m5 := (q3.ext E1)
 have m6 := (q4.ext E1)
 refine o_special K X1 (y := (⟨z0, "<init>", "(Ljava/lang/StringBuilder;)V"⟩ : MethodName)) rfl (w130 hw) (w131 hw) (w4 hw) (w132 hw) (by decide) (rm_strsb1 l Z a0 hw b1 a va k w0 cs h1 A1 F1_value F1_coder G1 m2 m3 m4 m5 m6 q5 q6) (allS me0 all0) (by decide) rfl (argsL := [.ref a]) rfl (lenOf pd16 rfl) (W := 1) rfl (by decide) (by decide) (by decide) d25_5 rfl ?_
 intro v7 T7 h7 FX7 U7
 obtain ⟨r_7, kr_7, rfl, u7_0, u7_1, u7_2, u7_3, u7_4, u7_5⟩ := U7
 have G7_r : Z.heap.size ≤ r_7 := Nat.le_trans X1.ext0.1 u7_1
 have X7 := FX7 [r_7] (Or.inl rfl) (allS ⟨u7_1, u7_5.lt⟩ all0)
 show oGoes pp ee bb ss Z T7 (mkF mm 8 _ [.ref b1]) _ _ _ _
 refine o_areturn K X7 (t := (.object z0)) d25_8 rfl rfl rfl ?_ (by decide) (by decide) (by decide)
 exact ⟨b1, r_7, kr_7, rfl, (((Keep.refl h0 []).ext E1).trans u7_0 (allS (Or.inr (oLe g1)) all0)), (oLe g1), (Nat.le_trans E1.1 u7_1), u7_2, u7_3, u7_4, u7_5⟩
def r_asblen2 : Room := { frames := 0, cells := 0, slots := 0, locals := 0 }
def Q_asblen2 (Z : State) (a : Addr) (h0 : Heap) (v : Option Value) (h : Heap) : Prop := v = some (.int 2) ∧ h0 = h
theorem rm_asblen2 (l : Launch) (Z : State) (a0 : Array Value) (hw : oHw Z a0) (a : Addr) (h0 : Heap) (q0 : Fld Z h0 a z1 "count" "I" (.int 2)) : oMet l Z (⟨z1, "length", "()I"⟩ : MethodName) jdk_68_method_6_code 1 (some .int) r_asblen2 [] #[.ref a] h0 (Q_asblen2 Z a h0) [] false := by
 refine oEnter (oEW hw) (plainFor_of_name (by first | (simp [plainName, overriddenIn]; done) | decide +kernel)) (own := z1) (nm := "length") rfl rfl (L := #[.val (.ref a)]) (fun m => by first | (simp [entryFrame, mkF, argsToLocals, Value.category]; done) | rfl) ?_
 intro pp ee ss mm bb mtd cc T0 K X0
 have E0 := X0.ext0
 refine o_aloadN K X0 d17_0 rfl rfl rfl ?_
 refine o_getfield K X0 (host := "") (Or.inl (w107 hw)) Via.refl q0 d17_1 rfl ?_
 intro T1 X1
 refine o_ireturn K X1 d17_4 rfl ?_ (by decide) (by decide) (by decide)
 exact ⟨rfl, rfl⟩
def r_sblen2 : Room := { frames := 1, cells := 0, slots := 0, locals := 12 }
def Q_sblen2 (Z : State) (a : Addr) (h0 : Heap) (v : Option Value) (h : Heap) : Prop := v = some (.int 2) ∧ h0 = h
theorem rm_sblen2 (l : Launch) (Z : State) (a0 : Array Value) (hw : oHw Z a0) (a : Addr) (h0 : Heap) (q0 : Exa Z h0 a z4) (q1 : Fld Z h0 a z1 "count" "I" (.int 2)) : oMet l Z (⟨z4, "length", "()I"⟩ : MethodName) jdk_67_method_93_code 1 (some .int) r_sblen2 [] #[.ref a] h0 (Q_sblen2 Z a h0) [] false := by
 refine oEnter (oEW hw) (plainFor_of_name (by first | (simp [plainName, overriddenIn]; done) | decide +kernel)) (own := z4) (nm := "length") rfl rfl (L := #[.val (.ref a)]) (fun m => by first | (simp [entryFrame, mkF, argsToLocals, Value.category]; done) | rfl) ?_
 intro pp ee ss mm bb mtd cc T0 K X0
 have E0 := X0.ext0
 refine o_aloadN K X0 d18_0 rfl rfl rfl ?_
 refine o_super K X0 (y := (⟨z1, "length", "()I"⟩ : MethodName)) (by decide) (w147 hw) (oSameM (y := (⟨z1, "length", "()I"⟩ : MethodName)) (w142 hw) (w112 hw) rfl (by decide)) (w143 hw) (w104 hw) (w45 hw) (w148 hw) (Ins.self q0) (rm_asblen2 l Z a0 hw a h0 q1) all0 (by decide) rfl (argsL := []) rfl (lenOf pd10 rfl) (W := 0) rfl (by decide) (by decide) (by decide) d18_1 rfl ?_
 intro v1 T1 h1 FX1 U1
 obtain ⟨rfl, rfl⟩ := U1
 have X1 := FX1 [] (Or.inl rfl) all0
 show oGoes pp ee bb ss Z T1 (mkF mm 4 _ [.int 2]) _ _ _ _
 refine o_ireturn K X1 d18_4 rfl ?_ (by decide) (by decide) (by decide)
 exact ⟨rfl, rfl⟩
def r_chkl2 : Room := { frames := 0, cells := 0, slots := 0, locals := 0 }
def Q_chkl2 (Z : State) (h0 : Heap) (v : Option Value) (h : Heap) : Prop := v = none ∧ h0 = h
theorem rm_chkl2 (l : Launch) (Z : State) (a0 : Array Value) (hw : oHw Z a0) (h0 : Heap) : oMet l Z (⟨z10, "checkLength", "(II)V"⟩ : MethodName) jdk_65_method_131_code 2 none r_chkl2 [] #[.int 0, .int 2] h0 (Q_chkl2 Z h0) [] false := by
 refine oEnter (oEW hw) (plainFor_of_name (by first | (simp [plainName, overriddenIn]; done) | decide +kernel)) (own := z10) (nm := "checkLength") rfl rfl (L := #[.val (.int 0), .val (.int 2)]) (fun m => by first | (simp [entryFrame, mkF, argsToLocals, Value.category]; done) | rfl) ?_
 intro pp ee ss mm bb mtd cc T0 K X0
 have E0 := X0.ext0
 refine o_iloadN K X0 d19_0 rfl rfl ?_
 refine o_iloadN K X0 d19_1 rfl rfl ?_
 refine o_icmp_ge_t K X0 d19_2 (by decide) (pc' := 37) (by decide) (by decide) ?_
 refine o_return K X0 d19_37 rfl ?_ (by decide) (by decide) (by decide)
 exact ⟨rfl, rfl⟩
def r_min2 : Room := { frames := 0, cells := 0, slots := 0, locals := 0 }
def Q_min2 (Z : State) (h0 : Heap) (v : Option Value) (h : Heap) : Prop := v = some (.int 2) ∧ h0 = h
theorem rm_min2 (l : Launch) (Z : State) (a0 : Array Value) (hw : oHw Z a0) (h0 : Heap) : oMet l Z (⟨"java/lang/Math", "min", "(II)I"⟩ : MethodName) jdk_29_method_69_code 2 (some .int) r_min2 [] #[.int 16, .int 2] h0 (Q_min2 Z h0) [] false := by
 refine oEnter (oEW hw) (Jvm.Free.JP.mathPlain rfl (by decide +kernel)) (own := "java/lang/Math") (nm := "min") rfl rfl (L := #[.val (.int 16), .val (.int 2)]) (fun m => by first | (simp [entryFrame, mkF, argsToLocals, Value.category]; done) | rfl) ?_
 intro pp ee ss mm bb mtd cc T0 K X0
 have E0 := X0.ext0
 refine o_iloadN K X0 d20_0 rfl rfl ?_
 refine o_iloadN K X0 d20_1 rfl rfl ?_
 refine o_icmp_gt_t K X0 d20_2 (by decide) (pc' := 9) (by decide) (by decide) ?_
 refine o_iloadN K X0 d20_9 rfl rfl ?_
 refine o_ireturn K X0 d20_10 rfl ?_ (by decide) (by decide) (by decide)
 exact ⟨rfl, rfl⟩
def r_corb2 : Room := { frames := 1, cells := 1, slots := 2, locals := 18 }
def Q_corb2 (Z : State) (va : Addr) (k : ClassId) (w0 w1 : Int32) (h0 : Heap) (v : Option Value) (h : Heap) : Prop := ∃ r : Addr, ∃ kr : ClassId, v = some (.ref r) ∧ Keep h0 h [] ∧ h0.size ≤ r ∧ oArr Z h r kr .byte [.int w0, .int w1]
theorem rm_corb2 (l : Launch) (Z : State) (a0 : Array Value) (hw : oHw Z a0) (va : Addr) (k : ClassId) (w0 w1 : Int32) (h0 : Heap) (q0 : oArr Z h0 va k .byte [.int w0, .int w1, .int 0, .int 0, .int 0, .int 0, .int 0, .int 0, .int 0, .int 0, .int 0, .int 0, .int 0, .int 0, .int 0, .int 0]) : oMet l Z (⟨z10, "copyOfRangeByte", "([BII)[B"⟩ : MethodName) jdk_65_method_133_code 5 (some (.array .byte)) r_corb2 [] #[.ref va, .int 0, .int 2] h0 (Q_corb2 Z va k w0 w1 h0) [] false := by
 refine oEnter (oEW hw) (plainFor_of_name (by first | (simp [plainName, overriddenIn]; done) | decide +kernel)) (own := z10) (nm := "copyOfRangeByte") rfl rfl (L := #[.val (.ref va), .val (.int 0), .val (.int 2), .unset, .unset]) (fun m => by first | (simp [entryFrame, mkF, argsToLocals, Value.category]; done) | rfl) ?_
 intro pp ee ss mm bb mtd cc T0 K X0
 have E0 := X0.ext0
 refine o_iloadN K X0 d21_0 rfl rfl ?_
 refine o_iloadN K X0 d21_1 rfl rfl ?_
 refine o_static K X0  (w157 hw) (w158 hw) (w152 hw) (w159 hw) (by decide) (rm_chkl2 l Z a0 hw  h0) all0 (by decide) rfl (argsL := [.int 0, .int 2]) rfl (lenOf pd11 rfl) (W := 0) rfl (by decide) (by decide) (by decide) d21_2 rfl ?_
 intro v1 T1 h1 FX1 U1
 obtain ⟨rfl, rfl⟩ := U1
 have X1 := FX1 [] (Or.inl rfl) all0
 show oGoes pp ee bb ss Z T1 (mkF mm 5 _ []) _ _ _ _
 refine o_iloadN K X1 d21_5 rfl rfl ?_
 refine o_iloadN K X1 d21_6 rfl rfl ?_
 refine o_isub K X1 d21_7 rfl (z := 2) (by decide) ?_
 refine o_istoreN K X1 d21_8 rfl (L' := #[vR va, vI 0, vI 2, vI 2, uS]) rfl ?_
 refine o_iloadN K X1 d21_9 rfl rfl ?_
 refine o_newarray K X1 (aty := .byte) 2 (w20 hw) (ad := "[B") (by decide +kernel) (by decide) (by decide) (by decide) rfl d21_10 rfl (by decide) (by decide) ?_
 intro T2 h2 b2 k2 X2 g2 E2 A2 B2 G2
 replace A2 : oArr Z h2 b2 k2 .byte [.int 0, .int 0] := A2
 refine o_astore K X2 d21_12 rfl rfl (L' := #[vR va, vI 0, vI 2, vI 2, vR b2]) rfl ?_
 refine o_aloadN K X2 d21_14 rfl rfl rfl ?_
 refine o_iloadN K X2 d21_15 rfl rfl ?_
 refine o_aload K X2 d21_16 rfl rfl rfl ?_
 refine o_iconst K X2 d21_18 rfl (z := 0) rfl ?_
 refine o_aloadN K X2 d21_19 rfl rfl rfl ?_
 have m3 := (q0.ext E2)
 refine o_arraylength K X2 m3 (z := 16) rfl d21_20 rfl ?_
 refine o_iloadN K X2 d21_21 rfl rfl ?_
 refine o_isub K X2 d21_22 rfl (z := 16) (by decide) ?_
 refine o_iloadN K X2 d21_23 rfl rfl ?_
 refine o_static K X2  (w160 hw) (w161 hw) (w162 hw) (w163 hw) (by decide) (rm_min2 l Z a0 hw  h2) all0 (by decide) rfl (argsL := [.int 16, .int 2]) rfl (lenOf pd12 rfl) (W := 4) rfl (by decide) (by decide) (by decide) d21_24 rfl ?_
 intro v4 T4 h4 FX4 U4
 obtain ⟨rfl, rfl⟩ := U4
 have X4 := FX4 [] (Or.inl rfl) all0
 show oGoes pp ee bb ss Z T4 (mkF mm 27 _ [.int 2, .int 0, .ref b2, .int 0, .ref va]) _ _ _ _
 refine o_arraycopy K X4 [.int w0, .int w1] [.int w0, .int w1] (w164 hw) (w167 hw) (w165 hw) (w166 hw) m3 A2 (Or.inl ⟨rfl, rfl⟩) (by decide) (by decide) (by decide) (show (0 : Int32).toNatClampNeg + (2 : Int32).toNatClampNeg ≤ 16 from (by decide)) (show (0 : Int32).toNatClampNeg + (2 : Int32).toNatClampNeg ≤ 2 from (by decide)) rfl rfl rfl G2 me0 d21_27 rfl rfl (by decide) (W := 0) rfl (by decide) ?_
 intro T5 h5 X5 K5 A5
 refine o_aload K X5 d21_30 rfl rfl rfl ?_
 refine o_areturn K X5 (t := (.array .byte)) d21_32 rfl rfl rfl ?_ (by decide) (by decide) (by decide)
 exact ⟨b2, k2, rfl, (((Keep.refl h0 []).ext E2).trans K5 (allS (Or.inr (oLe g2)) all0)), (oLe g2), A5⟩
def r_cor2 : Room := { frames := 2, cells := 1, slots := 2, locals := 34 }
def Q_cor2 (Z : State) (va : Addr) (k : ClassId) (w0 w1 : Int32) (h0 : Heap) (v : Option Value) (h : Heap) : Prop := ∃ r : Addr, ∃ kr : ClassId, v = some (.ref r) ∧ Keep h0 h [] ∧ h0.size ≤ r ∧ oArr Z h r kr .byte [.int w0, .int w1]
theorem rm_cor2 (l : Launch) (Z : State) (a0 : Array Value) (hw : oHw Z a0) (va : Addr) (k : ClassId) (w0 w1 : Int32) (h0 : Heap) (q0 : oArr Z h0 va k .byte [.int w0, .int w1, .int 0, .int 0, .int 0, .int 0, .int 0, .int 0, .int 0, .int 0, .int 0, .int 0, .int 0, .int 0, .int 0, .int 0]) : oMet l Z (⟨z10, "copyOfRange", "([BII)[B"⟩ : MethodName) jdk_65_method_132_code 3 (some (.array .byte)) r_cor2 [] #[.ref va, .int 0, .int 2] h0 (Q_cor2 Z va k w0 w1 h0) [] false := by
 refine oEnter (oEW hw) (plainFor_of_name (by first | (simp [plainName, overriddenIn]; done) | decide +kernel)) (own := z10) (nm := "copyOfRange") rfl rfl (L := #[.val (.ref va), .val (.int 0), .val (.int 2)]) (fun m => by first | (simp [entryFrame, mkF, argsToLocals, Value.category]; done) | rfl) ?_
 intro pp ee ss mm bb mtd cc T0 K X0
 have E0 := X0.ext0
 refine o_iloadN K X0 d22_0 rfl rfl ?_
 refine o_if_ne_f K X0 d22_1 rfl (by decide) ?_
 refine o_iloadN K X0 d22_4 rfl rfl ?_
 refine o_aloadN K X0 d22_5 rfl rfl rfl ?_
 refine o_arraylength K X0 q0 (z := 16) rfl d22_6 rfl ?_
 refine o_icmp_eq_f K X0 d22_7 rfl (by decide) ?_
 refine o_aloadN K X0 d22_10 rfl rfl rfl ?_
 refine o_iloadN K X0 d22_11 rfl rfl ?_
 refine o_iloadN K X0 d22_12 rfl rfl ?_
 refine o_static K X0  (w154 hw) (w155 hw) (w152 hw) (w156 hw) (by decide) (rm_corb2 l Z a0 hw va k w0 w1 h0 q0) all0 (by decide) rfl (argsL := [.ref va, .int 0, .int 2]) rfl (lenOf pd13 rfl) (W := 0) rfl (by decide) (by decide) (by decide) d22_13 rfl ?_
 intro v1 T1 h1 FX1 U1
 obtain ⟨r_1, kr_1, rfl, u1_0, u1_1, u1_2⟩ := U1
 have G1_r : Z.heap.size ≤ r_1 := Nat.le_trans X0.ext0.1 u1_1
 have X1 := FX1 [r_1] (Or.inl rfl) (allS ⟨u1_1, u1_2.lt⟩ all0)
 show oGoes pp ee bb ss Z T1 (mkF mm 16 _ [.ref r_1]) _ _ _ _
 refine o_areturn K X1 (t := (.array .byte)) d22_16 rfl rfl rfl ?_ (by decide) (by decide) (by decide)
 exact ⟨r_1, kr_1, rfl, ((Keep.refl h0 []).trans u1_0 all0), u1_1, u1_2⟩
def r_strasb2 : Room := { frames := 3, cells := 1, slots := 2, locals := 49 }
def Q_strasb2 (Z : State) (s a va : Addr) (k : ClassId) (w0 w1 cs : Int32) (h0 : Heap) (v : Option Value) (h : Heap) : Prop := ∃ r : Addr, ∃ kr : ClassId, v = none ∧ Keep h0 h [s] ∧ h0.size ≤ r ∧ Exa Z h s z0 ∧ Fld Z h s z0 "value" "[B" (.ref r) ∧ Fld Z h s z0 "coder" "B" (.int 0) ∧ oArr Z h r kr .byte [.int w0, .int w1]
theorem rm_strasb2 (l : Launch) (Z : State) (a0 : Array Value) (hw : oHw Z a0) (s a va : Addr) (k : ClassId) (w0 w1 cs : Int32) (h0 : Heap) (q0 : Exa Z h0 s z0) (q1 : Fld Z h0 s z0 "value" "[B" .null) (q2 : Fld Z h0 s z0 "coder" "B" (.int 0)) (q3 : Z.heap.size ≤ s) (q4 : Exa Z h0 a z4) (q5 : Fld Z h0 a z1 "value" "[B" (.ref va)) (q6 : Fld Z h0 a z1 "coder" "B" (.int 0)) (q7 : Fld Z h0 a z1 "count" "I" (.int 2)) (q8 : oArr Z h0 va k .byte [.int w0, .int w1, .int 0, .int 0, .int 0, .int 0, .int 0, .int 0, .int 0, .int 0, .int 0, .int 0, .int 0, .int 0, .int 0, .int 0]) (q9 : Sta Z Z.heap z0 z5 "Z" (.int cs)) (q10 : ¬ (cs = (0 : Int32))) : oMet l Z (⟨z0, "<init>", z17⟩ : MethodName) jdk_42_method_150_code 5 none r_strasb2 [] #[.ref s, .ref a, .null] h0 (Q_strasb2 Z s a va k w0 w1 cs h0) [s] false := by
 refine oEnter (oEW hw) (plainFor_of_name (by first | (simp [plainName, overriddenIn]; done) | decide +kernel)) (own := z0) (nm := "<init>") rfl rfl (L := #[.val (.ref s), .val (.ref a), .val .null, .unset, .unset]) (fun m => by first | (simp [entryFrame, mkF, argsToLocals, Value.category]; done) | rfl) ?_
 intro pp ee ss mm bb mtd cc T0 K X0
 have E0 := X0.ext0
 refine o_aloadN K X0 d23_0 rfl rfl rfl ?_
 refine o_initObj K X0 (w12 hw) (w13 hw) (w14 hw) d23_1 rfl rfl (by decide) (W := 0) rfl (by decide) ?_
 intro T1 X1
 refine o_aloadN K X1 d23_4 rfl rfl rfl ?_
 refine o_virtual K X1   (w136 hw) (w137 hw) (oNF (w139 hw)) (w139 hw) (w138 hw) (w45 hw) (w140 hw) (by decide) q4 (rm_asbval l Z a0 hw a va h0 q5) all0 (by decide) rfl (argsL := []) rfl (lenOf pd14 rfl) (W := 0) rfl (by decide) (by decide) (by decide) d23_5 rfl ?_
 intro v2 T2 h2 FX2 U2
 obtain ⟨rfl, rfl⟩ := U2
 have X2 := FX2 [] (Or.inl rfl) all0
 show oGoes pp ee bb ss Z T2 (mkF mm 8 _ [.ref va]) _ _ _ _
 refine o_astoreN K X2 d23_8 rfl rfl (L' := #[vR s, vR a, vN, vR va, uS]) rfl ?_
 refine o_aloadN K X2 d23_9 rfl rfl rfl ?_
 refine o_virtual K X2   (w141 hw) (w142 hw) (fun _ q => oNotFaceV (args := #[]) (mvT q (w112 hw)) rfl) (w144 hw) (w145 hw) (w37 hw) (w146 hw) (by decide) q4 (rm_sblen2 l Z a0 hw a h0 q4 q7) all0 (by decide) rfl (argsL := []) rfl (lenOf pd10 rfl) (W := 0) rfl (by decide) (by decide) (by decide) d23_10 rfl ?_
 intro v3 T3 h3 FX3 U3
 obtain ⟨rfl, rfl⟩ := U3
 have X3 := FX3 [] (Or.inl rfl) all0
 show oGoes pp ee bb ss Z T3 (mkF mm 13 _ [.int 2]) _ _ _ _
 refine o_istore K X3 d23_13 rfl (L' := #[vR s, vR a, vN, vR va, vI 2]) rfl ?_
 refine o_aloadN K X3 d23_15 rfl rfl rfl ?_
 refine o_virtual K X3   (w149 hw) (w115 hw) (oNF (w117 hw)) (w117 hw) (w116 hw) (w45 hw) (w118 hw) (by decide) q4 (rm_asblat l Z a0 hw a cs h0 q6 q9 q10) all0 (by decide) rfl (argsL := []) rfl (lenOf pd8 rfl) (W := 0) rfl (by decide) (by decide) (by decide) d23_16 rfl ?_
 intro v4 T4 h4 FX4 U4
 obtain ⟨rfl, rfl⟩ := U4
 have X4 := FX4 [] (Or.inl rfl) all0
 show oGoes pp ee bb ss Z T4 (mkF mm 19 _ [.int 1]) _ _ _ _
 refine o_if_eq_f K X4 d23_19 rfl (by decide) ?_
 refine o_aloadN K X4 d23_22 rfl rfl rfl ?_
 refine o_iconst K X4 d23_23 rfl (z := 0) rfl ?_
 refine o_putfieldN K X4 (w27 hw) Via.refl q2 q0 (Or.inr ⟨(w28 hw), rfl, rfl⟩) (w3 hw) (ty := .byte) (by decide) (v' := (.int 0)) (congrArg Value.int (by decide)) (oFitbyte (x := (0 : Int32)) (by decide)) q3 me0 d23_24 rfl ?_
 intro T5 h5 X5 W5
 have F5 := Fld.same W5 q2
 refine o_aloadN K X5 d23_27 rfl rfl rfl ?_
 refine o_aloadN K X5 d23_28 rfl rfl rfl ?_
 refine o_iconst K X5 d23_29 rfl (z := 0) rfl ?_
 refine o_iload K X5 d23_30 rfl rfl ?_
 have n6 : va ≠ s := (oNeArr q0 (w3 hw) q8)
 have m7 := (q8.other W5 n6)
 refine o_static K X5  (w150 hw) (w151 hw) (w152 hw) (w153 hw) (by decide) (rm_cor2 l Z a0 hw va k w0 w1 h5 m7) all0 (by decide) rfl (argsL := [.ref va, .int 0, .int 2]) rfl (lenOf pd13 rfl) (W := 1) rfl (by decide) (by decide) (by decide) d23_32 rfl ?_
 intro v8 T8 h8 FX8 U8
 obtain ⟨r_8, kr_8, rfl, u8_0, u8_1, u8_2⟩ := U8
 have G8_r : Z.heap.size ≤ r_8 := Nat.le_trans X5.ext0.1 u8_1
 have X8 := FX8 [r_8] (Or.inl rfl) (allS ⟨u8_1, u8_2.lt⟩ all0)
 show oGoes pp ee bb ss Z T8 (mkF mm 35 _ [.ref r_8, .ref s]) _ _ _ _
 have m10 := ((Fld.other W5 q1 (Or.inr (slot_ne (Or.inr (w30 hw)) (Or.inr (w28 hw)) (by decide) (t := (.array .byte)) (t' := .byte) (by decide) (by decide)))).keep u8_0 nin0)
 have m11 := ((Exa.wr W5 q0).keep u8_0)
 refine o_putfield K X8 (host := "") (Or.inl (w29 hw)) Via.refl m10 m11 (Or.inr ⟨(w30 hw), rfl, rfl⟩) (w3 hw) (ty := (.array .byte)) (by decide) rfl rfl q3 me1 d23_35 rfl ?_
 intro T9 h9 X9 W9
 have F9 := Fld.same W9 m10
 refine o_goto K X9 d23_38 (by decide) (pc' := 97) (by decide) ?_
 refine o_return K X9 d23_97 rfl ?_ (by decide) (by decide) (by decide)
 have m12 := (Exa.wr W9 m11)
 have m13 := (Fld.other W9 (F5.keep u8_0 nin0) (Or.inr (slot_ne (Or.inr (w28 hw)) (Or.inr (w30 hw)) (by decide) (t := .byte) (t' := (.array .byte)) (by decide) (by decide))))
 have n14 := oLsn q0.lt (Keep.of_wr W5).1 u8_1
 have m15 := (u8_2.other W9 n14)
 exact ⟨r_8, kr_8, rfl, ((((Keep.refl h0 [s]).wr W5 (Or.inl me0)).trans u8_0 all0).wr W9 (Or.inl me0)), (Nat.le_trans (Keep.of_wr W5).1 u8_1), m12, F9, m13, m15⟩
def r_strsb2 : Room := { frames := 4, cells := 1, slots := 2, locals := 65 }
def Q_strsb2 (Z : State) (s a va : Addr) (k : ClassId) (w0 w1 cs : Int32) (h0 : Heap) (v : Option Value) (h : Heap) : Prop := ∃ r : Addr, ∃ kr : ClassId, v = none ∧ Keep h0 h [s] ∧ h0.size ≤ r ∧ Exa Z h s z0 ∧ Fld Z h s z0 "value" "[B" (.ref r) ∧ Fld Z h s z0 "coder" "B" (.int 0) ∧ oArr Z h r kr .byte [.int w0, .int w1]
theorem rm_strsb2 (l : Launch) (Z : State) (a0 : Array Value) (hw : oHw Z a0) (s a va : Addr) (k : ClassId) (w0 w1 cs : Int32) (h0 : Heap) (q0 : Exa Z h0 s z0) (q1 : Fld Z h0 s z0 "value" "[B" .null) (q2 : Fld Z h0 s z0 "coder" "B" (.int 0)) (q3 : Z.heap.size ≤ s) (q4 : Exa Z h0 a z4) (q5 : Fld Z h0 a z1 "value" "[B" (.ref va)) (q6 : Fld Z h0 a z1 "coder" "B" (.int 0)) (q7 : Fld Z h0 a z1 "count" "I" (.int 2)) (q8 : oArr Z h0 va k .byte [.int w0, .int w1, .int 0, .int 0, .int 0, .int 0, .int 0, .int 0, .int 0, .int 0, .int 0, .int 0, .int 0, .int 0, .int 0, .int 0]) (q9 : Sta Z Z.heap z0 z5 "Z" (.int cs)) (q10 : ¬ (cs = (0 : Int32))) : oMet l Z (⟨z0, "<init>", "(Ljava/lang/StringBuilder;)V"⟩ : MethodName) jdk_42_method_53_code 2 none r_strsb2 [] #[.ref s, .ref a] h0 (Q_strsb2 Z s a va k w0 w1 cs h0) [s] false := by
 refine oEnter (oEW hw) (plainFor_of_name (by first | (simp [plainName, overriddenIn]; done) | decide +kernel)) (own := z0) (nm := "<init>") rfl rfl (L := #[.val (.ref s), .val (.ref a)]) (fun m => by first | (simp [entryFrame, mkF, argsToLocals, Value.category]; done) | rfl) ?_
 intro pp ee ss mm bb mtd cc T0 K X0
 have E0 := X0.ext0
 refine o_aloadN K X0 d24_0 rfl rfl rfl ?_
 refine o_aloadN K X0 d24_1 rfl rfl rfl ?_
 refine o_aconst_null K X0 d24_2 rfl ?_
 refine o_special K X0 (y := (⟨z0, "<init>", z17⟩ : MethodName)) rfl (w133 hw) (w134 hw) (w4 hw) (w135 hw) (by decide) (rm_strasb2 l Z a0 hw s a va k w0 w1 cs h0 q0 q1 q2 q3 q4 q5 q6 q7 q8 q9 q10) (allS me0 all0) (by decide) rfl (argsL := [.ref a, .null]) rfl (lenOf pd15 rfl) (W := 0) rfl (by decide) (by decide) (by decide) d24_3 rfl ?_
 intro v1 T1 h1 FX1 U1
 obtain ⟨r_1, kr_1, rfl, u1_0, u1_1, u1_2, u1_3, u1_4, u1_5⟩ := U1
 have G1_r : Z.heap.size ≤ r_1 := Nat.le_trans X0.ext0.1 u1_1
 have X1 := FX1 [r_1] (Or.inl rfl) (allS ⟨u1_1, u1_5.lt⟩ all0)
 show oGoes pp ee bb ss Z T1 (mkF mm 6 _ []) _ _ _ _
 refine o_return K X1 d24_6 rfl ?_ (by decide) (by decide) (by decide)
 exact ⟨r_1, kr_1, rfl, ((Keep.refl h0 [s]).trans u1_0 (allS (Or.inl me0) all0)), u1_1, u1_2, u1_3, u1_4, u1_5⟩
def r_tostr2 : Room := { frames := 5, cells := 2, slots := 6, locals := 79 }
def Q_tostr2 (Z : State) (a va : Addr) (k : ClassId) (w0 w1 cs : Int32) (h0 : Heap) (v : Option Value) (h : Heap) : Prop := ∃ s r : Addr, ∃ kr : ClassId, v = some (.ref s) ∧ Keep h0 h [] ∧ h0.size ≤ s ∧ h0.size ≤ r ∧ Exa Z h s z0 ∧ Fld Z h s z0 "value" "[B" (.ref r) ∧ Fld Z h s z0 "coder" "B" (.int 0) ∧ oArr Z h r kr .byte [.int w0, .int w1]
theorem rm_tostr2 (l : Launch) (Z : State) (a0 : Array Value) (hw : oHw Z a0) (a va : Addr) (k : ClassId) (w0 w1 cs : Int32) (h0 : Heap) (q0 : Exa Z h0 a z4) (q1 : Fld Z h0 a z1 "value" "[B" (.ref va)) (q2 : Fld Z h0 a z1 "coder" "B" (.int 0)) (q3 : Fld Z h0 a z1 "count" "I" (.int 2)) (q4 : oArr Z h0 va k .byte [.int w0, .int w1, .int 0, .int 0, .int 0, .int 0, .int 0, .int 0, .int 0, .int 0, .int 0, .int 0, .int 0, .int 0, .int 0, .int 0]) (q5 : Sta Z Z.heap z0 z5 "Z" (.int cs)) (q6 : ¬ (cs = (0 : Int32))) : oMet l Z (⟨z4, "toString", "()Ljava/lang/String;"⟩ : MethodName) jdk_67_method_42_code 1 (some (.object z0)) r_tostr2 [] #[.ref a] h0 (Q_tostr2 Z a va k w0 w1 cs h0) [] false := by
 refine oEnter (oEW hw) (plainFor_of_name (by first | (simp [plainName, overriddenIn]; done) | decide +kernel)) (own := z4) (nm := "toString") rfl rfl (L := #[.val (.ref a)]) (fun m => by first | (simp [entryFrame, mkF, argsToLocals, Value.category]; done) | rfl) ?_
 intro pp ee ss mm bb mtd cc T0 K X0
 have E0 := X0.ext0
 refine o_new K X0 (w129 hw) (w3 hw) (w4 hw) d25_0 rfl (by decide) (by decide) ?_
 intro T1 h1 b1 X1 g1 E1 A1 D1 G1
 have F1_coder : Fld Z h1 b1 z0 "coder" "B" (.int 0) := (D1 (Or.inr (w28 hw)) (ty := .byte) (by decide))
 have F1_value : Fld Z h1 b1 z0 "value" "[B" .null := (D1 (Or.inr (w30 hw)) (ty := (.array .byte)) (by decide))
 refine o_dup K X1 d25_3 rfl rfl ?_
 refine o_aloadN K X1 d25_4 rfl rfl rfl ?_
 have m2 := (q0.ext E1)
 have m3 := (q1.ext E1)
 have m4 := (q2.ext E1)
 have m5 := (q3.ext E1)
 have m6 := (q4.ext E1)
 refine o_special K X1 (y := (⟨z0, "<init>", "(Ljava/lang/StringBuilder;)V"⟩ : MethodName)) rfl (w130 hw) (w131 hw) (w4 hw) (w132 hw) (by decide) (rm_strsb2 l Z a0 hw b1 a va k w0 w1 cs h1 A1 F1_value F1_coder G1 m2 m3 m4 m5 m6 q5 q6) (allS me0 all0) (by decide) rfl (argsL := [.ref a]) rfl (lenOf pd16 rfl) (W := 1) rfl (by decide) (by decide) (by decide) d25_5 rfl ?_
 intro v7 T7 h7 FX7 U7
 obtain ⟨r_7, kr_7, rfl, u7_0, u7_1, u7_2, u7_3, u7_4, u7_5⟩ := U7
 have G7_r : Z.heap.size ≤ r_7 := Nat.le_trans X1.ext0.1 u7_1
 have X7 := FX7 [r_7] (Or.inl rfl) (allS ⟨u7_1, u7_5.lt⟩ all0)
 show oGoes pp ee bb ss Z T7 (mkF mm 8 _ [.ref b1]) _ _ _ _
 refine o_areturn K X7 (t := (.object z0)) d25_8 rfl rfl rfl ?_ (by decide) (by decide) (by decide)
 exact ⟨b1, r_7, kr_7, rfl, (((Keep.refl h0 []).ext E1).trans u7_0 (allS (Or.inr (oLe g1)) all0)), (oLe g1), (Nat.le_trans E1.1 u7_1), u7_2, u7_3, u7_4, u7_5⟩
theorem d26_0 : decode prog_30_method_1_code 0 = .ok (.aload_n 0, 1) := by decide +kernel
theorem d26_1 : decode prog_30_method_1_code 1 = .ok (.invokespecial 1, 3) := by decide +kernel
theorem d26_4 : decode prog_30_method_1_code 4 = .ok (.aload_n 0, 1) := by decide +kernel
theorem d26_5 : decode prog_30_method_1_code 5 = .ok (.aload_n 1, 1) := by decide +kernel
theorem d26_6 : decode prog_30_method_1_code 6 = .ok (.putfield 7, 3) := by decide +kernel
theorem d26_9 : decode prog_30_method_1_code 9 = .ok (.aload_n 0, 1) := by decide +kernel
theorem d26_10 : decode prog_30_method_1_code 10 = .ok (.iload_n 2, 1) := by decide +kernel
theorem d26_11 : decode prog_30_method_1_code 11 = .ok (.putfield 13, 3) := by decide +kernel
theorem d26_14 : decode prog_30_method_1_code 14 = .ok (.return_, 1) := by decide +kernel
theorem pd17 : parseMethodDescriptor "()V" = some ⟨[], none⟩ := by decide +kernel
def r_qtinit : Room := { frames := 2, cells := 0, slots := 0, locals := 24 }
def Q_qtinit (Z : State) (a x : Addr) (e : Int32) (h0 : Heap) (v : Option Value) (h : Heap) : Prop := v = none ∧ Keep h0 h [a] ∧ Exa Z h a z2 ∧ Fld Z h a z2 "value" z13 (.ref x) ∧ Fld Z h a z2 "end" "I" (.int e)
theorem rm_qtinit (l : Launch) (Z : State) (a0 : Array Value) (hw : oHw Z a0) (a x : Addr) (e : Int32) (h0 : Heap) (q0 : Exa Z h0 a z2) (q1 : Fld Z h0 a z2 "value" z13 .null) (q2 : Fld Z h0 a z2 "end" "I" (.int 0)) (q3 : Z.heap.size ≤ a) : oMet l Z (⟨z2, "<init>", "(Ljava/lang/String;I)V"⟩ : MethodName) prog_30_method_1_code 3 none r_qtinit [] #[.ref a, .ref x, .int e] h0 (Q_qtinit Z a x e h0) [a] false := by
 refine oEnter (oEW hw) (plainFor_of_name (by first | (simp [plainName, overriddenIn]; done) | decide +kernel)) (own := z2) (nm := "<init>") rfl rfl (L := #[.val (.ref a), .val (.ref x), .val (.int e)]) (fun m => by first | (simp [entryFrame, mkF, argsToLocals, Value.category]; done) | rfl) ?_
 intro pp ee ss mm bb mtd cc T0 K X0
 have E0 := X0.ext0
 refine o_aloadN K X0 d26_0 rfl rfl rfl ?_
 refine o_special K X0 (y := (⟨"java/lang/Record", "<init>", "()V"⟩ : MethodName)) rfl (w171 hw) (w172 hw) (w174 hw) (w175 hw) (by decide) (rm_rec l Z a0 hw a h0) all0 (by decide) rfl (argsL := []) rfl (lenOf pd17 rfl) (W := 0) rfl (by decide) (by decide) (by decide) d26_1 rfl ?_
 intro v1 T1 h1 FX1 U1
 obtain ⟨rfl, rfl⟩ := U1
 have X1 := FX1 [] (Or.inl rfl) all0
 show oGoes pp ee bb ss Z T1 (mkF mm 4 _ []) _ _ _ _
 refine o_aloadN K X1 d26_4 rfl rfl rfl ?_
 refine o_aloadN K X1 d26_5 rfl rfl rfl ?_
 refine o_putfield K X1 (host := "") (Or.inl (w177 hw)) Via.refl q1 q0 (Or.inr ⟨(w178 hw), rfl, rfl⟩) (w123 hw) (ty := (.object z0)) (by decide) rfl rfl q3 me0 d26_6 rfl ?_
 intro T2 h2 X2 W2
 have F2 := Fld.same W2 q1
 refine o_aloadN K X2 d26_9 rfl rfl rfl ?_
 refine o_iloadN K X2 d26_10 rfl rfl ?_
 have m4 := (Fld.other W2 q2 (Or.inr (slot_ne (Or.inr (w180 hw)) (Or.inr (w178 hw)) (by decide) (t := .int) (t' := (.object z0)) (by decide) (by decide))))
 have m5 := (Exa.wr W2 q0)
 refine o_putfield K X2 (host := "") (Or.inl (w179 hw)) Via.refl m4 m5 (Or.inr ⟨(w180 hw), rfl, rfl⟩) (w123 hw) (ty := .int) (by decide) rfl rfl q3 me0 d26_11 rfl ?_
 intro T3 h3 X3 W3
 have F3 := Fld.same W3 m4
 refine o_return K X3 d26_14 rfl ?_ (by decide) (by decide) (by decide)
 have m6 := (Exa.wr W3 m5)
 have m7 := (Fld.other W3 F2 (Or.inr (slot_ne (Or.inr (w178 hw)) (Or.inr (w180 hw)) (by decide) (t := (.object z0)) (t' := .int) (by decide) (by decide))))
 exact ⟨rfl, (((Keep.refl h0 [a]).wr W2 (Or.inl me0)).wr W3 (Or.inl me0)), m6, m7, F3⟩
theorem d27_0 : decode prog_30_method_6_code 0 = .ok (.aload_n 0, 1) := by decide +kernel
theorem d27_1 : decode prog_30_method_6_code 1 = .ok (.getfield 7, 3) := by decide +kernel
theorem d27_4 : decode prog_30_method_6_code 4 = .ok (.areturn, 1) := by decide +kernel
def r_qtval : Room := { frames := 0, cells := 0, slots := 0, locals := 0 }
def Q_qtval (Z : State) (a x : Addr) (h0 : Heap) (v : Option Value) (h : Heap) : Prop := v = some (.ref x) ∧ h0 = h
theorem rm_qtval (l : Launch) (Z : State) (a0 : Array Value) (hw : oHw Z a0) (a x : Addr) (h0 : Heap) (q0 : Fld Z h0 a z2 "value" z13 (.ref x)) : oMet l Z (⟨z2, "value", "()Ljava/lang/String;"⟩ : MethodName) prog_30_method_6_code 1 (some (.object z0)) r_qtval [] #[.ref a] h0 (Q_qtval Z a x h0) [] false := by
 refine oEnter (oEW hw) (plainFor_of_name (by first | (simp [plainName, overriddenIn]; done) | decide +kernel)) (own := z2) (nm := "value") rfl rfl (L := #[.val (.ref a)]) (fun m => by first | (simp [entryFrame, mkF, argsToLocals, Value.category]; done) | rfl) ?_
 intro pp ee ss mm bb mtd cc T0 K X0
 have E0 := X0.ext0
 refine o_aloadN K X0 d27_0 rfl rfl rfl ?_
 refine o_getfield K X0 (host := "") (Or.inl (w177 hw)) Via.refl q0 d27_1 rfl ?_
 intro T1 X1
 refine o_areturn K X1 (t := (.object z0)) d27_4 rfl rfl rfl ?_ (by decide) (by decide) (by decide)
 exact ⟨rfl, rfl⟩
theorem d28_0 : decode prog_30_method_7_code 0 = .ok (.aload_n 0, 1) := by decide +kernel
theorem d28_1 : decode prog_30_method_7_code 1 = .ok (.getfield 13, 3) := by decide +kernel
theorem d28_4 : decode prog_30_method_7_code 4 = .ok (.ireturn, 1) := by decide +kernel
def r_qtend : Room := { frames := 0, cells := 0, slots := 0, locals := 0 }
def Q_qtend (Z : State) (a : Addr) (e : Int32) (h0 : Heap) (v : Option Value) (h : Heap) : Prop := v = some (.int e) ∧ h0 = h
theorem rm_qtend (l : Launch) (Z : State) (a0 : Array Value) (hw : oHw Z a0) (a : Addr) (e : Int32) (h0 : Heap) (q0 : Fld Z h0 a z2 "end" "I" (.int e)) : oMet l Z (⟨z2, "end", "()I"⟩ : MethodName) prog_30_method_7_code 1 (some .int) r_qtend [] #[.ref a] h0 (Q_qtend Z a e h0) [] false := by
 refine oEnter (oEW hw) (plainFor_of_name (by first | (simp [plainName, overriddenIn]; done) | decide +kernel)) (own := z2) (nm := "end") rfl rfl (L := #[.val (.ref a)]) (fun m => by first | (simp [entryFrame, mkF, argsToLocals, Value.category]; done) | rfl) ?_
 intro pp ee ss mm bb mtd cc T0 K X0
 have E0 := X0.ext0
 refine o_aloadN K X0 d28_0 rfl rfl rfl ?_
 refine o_getfield K X0 (host := "") (Or.inl (w179 hw)) Via.refl q0 d28_1 rfl ?_
 intro T1 X1
 refine o_ireturn K X1 d28_4 rfl ?_ (by decide) (by decide) (by decide)
 exact ⟨rfl, rfl⟩
theorem d29_0 : decode jdk_31_method_10_code 0 = .ok (.aload_n 0, 1) := by decide +kernel
theorem d29_1 : decode jdk_31_method_10_code 1 = .ok (.ifnonnull 11, 3) := by decide +kernel
theorem d29_12 : decode jdk_31_method_10_code 12 = .ok (.aload_n 0, 1) := by decide +kernel
theorem d29_13 : decode jdk_31_method_10_code 13 = .ok (.areturn, 1) := by decide +kernel
def r_rnn : Room := { frames := 0, cells := 0, slots := 0, locals := 0 }
def Q_rnn (Z : State) (x : Addr) (h0 : Heap) (v : Option Value) (h : Heap) : Prop := v = some (.ref x) ∧ h0 = h
theorem rm_rnn (l : Launch) (Z : State) (a0 : Array Value) (hw : oHw Z a0) (x : Addr) (h0 : Heap) : oMet l Z (⟨"java/util/Objects", "requireNonNull", "(Ljava/lang/Object;)Ljava/lang/Object;"⟩ : MethodName) jdk_31_method_10_code 1 (some (.object "java/lang/Object")) r_rnn [] #[.ref x] h0 (Q_rnn Z x h0) [] false := by
 refine oEnter (oEW hw) (plainFor_of_name (by first | (simp [plainName, overriddenIn]; done) | decide +kernel)) (own := "java/util/Objects") (nm := "requireNonNull") rfl rfl (L := #[.val (.ref x)]) (fun m => by first | (simp [entryFrame, mkF, argsToLocals, Value.category]; done) | rfl) ?_
 intro pp ee ss mm bb mtd cc T0 K X0
 have E0 := X0.ext0
 refine o_aloadN K X0 d29_0 rfl rfl rfl ?_
 refine o_ifnonnull_t K X0 d29_1 (by decide) (pc' := 12) (by decide) ?_
 refine o_aloadN K X0 d29_12 rfl rfl rfl ?_
 refine o_areturn K X0 (t := (.object "java/lang/Object")) d29_13 rfl rfl rfl ?_ (by decide) (by decide) (by decide)
 exact ⟨rfl, rfl⟩
theorem d30_0 : decode jdk_32_method_2_code 0 = .ok (.aload_n 0, 1) := by decide +kernel
theorem d30_1 : decode jdk_32_method_2_code 1 = .ok (.invokespecial 7, 3) := by decide +kernel
theorem d30_4 : decode jdk_32_method_2_code 4 = .ok (.aload_n 0, 1) := by decide +kernel
theorem d30_5 : decode jdk_32_method_2_code 5 = .ok (.aload_n 1, 1) := by decide +kernel
theorem d30_6 : decode jdk_32_method_2_code 6 = .ok (.putfield 13, 3) := by decide +kernel
theorem d30_9 : decode jdk_32_method_2_code 9 = .ok (.return_, 1) := by decide +kernel
def r_optinit : Room := { frames := 1, cells := 0, slots := 0, locals := 12 }
def Q_optinit (Z : State) (a x : Addr) (h0 : Heap) (v : Option Value) (h : Heap) : Prop := v = none ∧ Keep h0 h [a] ∧ Exa Z h a z3 ∧ Fld Z h a z3 "value" z11 (.ref x)
theorem rm_optinit (l : Launch) (Z : State) (a0 : Array Value) (hw : oHw Z a0) (a x : Addr) (h0 : Heap) (q0 : Exa Z h0 a z3) (q1 : Fld Z h0 a z3 "value" z11 .null) (q2 : Z.heap.size ≤ a) : oMet l Z (⟨z3, "<init>", "(Ljava/lang/Object;)V"⟩ : MethodName) jdk_32_method_2_code 2 none r_optinit [] #[.ref a, .ref x] h0 (Q_optinit Z a x h0) [a] false := by
 refine oEnter (oEW hw) (plainFor_of_name (by first | (simp [plainName, overriddenIn]; done) | decide +kernel)) (own := z3) (nm := "<init>") rfl rfl (L := #[.val (.ref a), .val (.ref x)]) (fun m => by first | (simp [entryFrame, mkF, argsToLocals, Value.category]; done) | rfl) ?_
 intro pp ee ss mm bb mtd cc T0 K X0
 have E0 := X0.ext0
 refine o_aloadN K X0 d30_0 rfl rfl rfl ?_
 refine o_initObj K X0 (w194 hw) (w13 hw) (w14 hw) d30_1 rfl rfl (by decide) (W := 0) rfl (by decide) ?_
 intro T1 X1
 refine o_aloadN K X1 d30_4 rfl rfl rfl ?_
 refine o_aloadN K X1 d30_5 rfl rfl rfl ?_
 refine o_putfield K X1 (host := "") (Or.inl (w73 hw)) Via.refl q1 q0 (Or.inr ⟨(w74 hw), rfl, rfl⟩) (w185 hw) (ty := (.object "java/lang/Object")) (by decide) rfl rfl q2 me0 d30_6 rfl ?_
 intro T2 h2 X2 W2
 have F2 := Fld.same W2 q1
 refine o_return K X2 d30_9 rfl ?_ (by decide) (by decide) (by decide)
 have m3 := (Exa.wr W2 q0)
 exact ⟨rfl, ((Keep.refl h0 [a]).wr W2 (Or.inl me0)), m3, F2⟩
theorem d31_0 : decode jdk_32_method_3_code 0 = .ok (.new 2, 3) := by decide +kernel
theorem d31_3 : decode jdk_32_method_3_code 3 = .ok (.dup, 1) := by decide +kernel
theorem d31_4 : decode jdk_32_method_3_code 4 = .ok (.aload_n 0, 1) := by decide +kernel
theorem d31_5 : decode jdk_32_method_3_code 5 = .ok (.invokestatic 17, 3) := by decide +kernel
theorem d31_8 : decode jdk_32_method_3_code 8 = .ok (.invokespecial 23, 3) := by decide +kernel
theorem d31_11 : decode jdk_32_method_3_code 11 = .ok (.areturn, 1) := by decide +kernel
theorem pd18 : parseMethodDescriptor "(Ljava/lang/Object;)Ljava/lang/Object;" = some ⟨[(.object "java/lang/Object")], some (.object "java/lang/Object")⟩ := by decide +kernel
theorem pd19 : parseMethodDescriptor "(Ljava/lang/Object;)V" = some ⟨[(.object "java/lang/Object")], none⟩ := by decide +kernel
def r_optof : Room := { frames := 2, cells := 1, slots := 1, locals := 26 }
def Q_optof (Z : State) (x : Addr) (h0 : Heap) (v : Option Value) (h : Heap) : Prop := ∃ r : Addr, v = some (.ref r) ∧ Keep h0 h [] ∧ h0.size ≤ r ∧ Exa Z h r z3 ∧ Fld Z h r z3 "value" z11 (.ref x)
theorem rm_optof (l : Launch) (Z : State) (a0 : Array Value) (hw : oHw Z a0) (x : Addr) (h0 : Heap) : oMet l Z (⟨z3, "of", "(Ljava/lang/Object;)Ljava/util/Optional;"⟩ : MethodName) jdk_32_method_3_code 1 (some (.object z3)) r_optof [] #[.ref x] h0 (Q_optof Z x h0) [] false := by
 refine oEnter (oEW hw) (plainFor_of_name (by first | (simp [plainName, overriddenIn]; done) | decide +kernel)) (own := z3) (nm := "of") rfl rfl (L := #[.val (.ref x)]) (fun m => by first | (simp [entryFrame, mkF, argsToLocals, Value.category]; done) | rfl) ?_
 intro pp ee ss mm bb mtd cc T0 K X0
 have E0 := X0.ext0
 refine o_new K X0 (w184 hw) (w185 hw) (w65 hw) d31_0 rfl (by decide) (by decide) ?_
 intro T1 h1 b1 X1 g1 E1 A1 D1 G1
 have F1_value : Fld Z h1 b1 z3 "value" z11 .null := (D1 (Or.inr (w74 hw)) (ty := (.object "java/lang/Object")) (by decide))
 refine o_dup K X1 d31_3 rfl rfl ?_
 refine o_aloadN K X1 d31_4 rfl rfl rfl ?_
 refine o_static K X1  (w186 hw) (w187 hw) (w188 hw) (w189 hw) (by decide) (rm_rnn l Z a0 hw x h1) all0 (by decide) rfl (argsL := [.ref x]) rfl (lenOf pd18 rfl) (W := 2) rfl (by decide) (by decide) (by decide) d31_5 rfl ?_
 intro v2 T2 h2 FX2 U2
 obtain ⟨rfl, rfl⟩ := U2
 have X2 := FX2 [] (Or.inl rfl) all0
 show oGoes pp ee bb ss Z T2 (mkF mm 8 _ [.ref x, .ref b1, .ref b1]) _ _ _ _
 refine o_special K X2 (y := (⟨z3, "<init>", "(Ljava/lang/Object;)V"⟩ : MethodName)) rfl (w190 hw) (w191 hw) (w65 hw) (w193 hw) (by decide) (rm_optinit l Z a0 hw b1 x h1 A1 F1_value G1) (allS me0 all0) (by decide) rfl (argsL := [.ref x]) rfl (lenOf pd19 rfl) (W := 1) rfl (by decide) (by decide) (by decide) d31_8 rfl ?_
 intro v3 T3 h3 FX3 U3
 obtain ⟨rfl, u3_0, u3_1, u3_2⟩ := U3
 have X3 := FX3 [] (Or.inl rfl) all0
 show oGoes pp ee bb ss Z T3 (mkF mm 11 _ [.ref b1]) _ _ _ _
 refine o_areturn K X3 (t := (.object z3)) d31_11 rfl rfl rfl ?_ (by decide) (by decide) (by decide)
 exact ⟨b1, rfl, (((Keep.refl h0 []).ext E1).trans u3_0 (allS (Or.inr (oLe g1)) all0)), (oLe g1), u3_1, u3_2⟩
theorem d32_0 : decode jdk_32_method_5_code 0 = .ok (.aload_n 0, 1) := by decide +kernel
theorem d32_1 : decode jdk_32_method_5_code 1 = .ok (.getfield 13, 3) := by decide +kernel
theorem d32_4 : decode jdk_32_method_5_code 4 = .ok (.ifnonnull 13, 3) := by decide +kernel
theorem d32_17 : decode jdk_32_method_5_code 17 = .ok (.aload_n 0, 1) := by decide +kernel
theorem d32_18 : decode jdk_32_method_5_code 18 = .ok (.getfield 13, 3) := by decide +kernel
theorem d32_21 : decode jdk_32_method_5_code 21 = .ok (.areturn, 1) := by decide +kernel
def r_optget : Room := { frames := 0, cells := 0, slots := 0, locals := 0 }
def Q_optget (Z : State) (a x : Addr) (h0 : Heap) (v : Option Value) (h : Heap) : Prop := v = some (.ref x) ∧ h0 = h
theorem rm_optget (l : Launch) (Z : State) (a0 : Array Value) (hw : oHw Z a0) (a x : Addr) (h0 : Heap) (q0 : Fld Z h0 a z3 "value" z11 (.ref x)) : oMet l Z (⟨z3, "get", "()Ljava/lang/Object;"⟩ : MethodName) jdk_32_method_5_code 1 (some (.object "java/lang/Object")) r_optget [] #[.ref a] h0 (Q_optget Z a x h0) [] false := by
 refine oEnter (oEW hw) (plainFor_of_name (by first | (simp [plainName, overriddenIn]; done) | decide +kernel)) (own := z3) (nm := "get") rfl rfl (L := #[.val (.ref a)]) (fun m => by first | (simp [entryFrame, mkF, argsToLocals, Value.category]; done) | rfl) ?_
 intro pp ee ss mm bb mtd cc T0 K X0
 have E0 := X0.ext0
 refine o_aloadN K X0 d32_0 rfl rfl rfl ?_
 refine o_getfield K X0 (host := "") (Or.inl (w73 hw)) Via.refl q0 d32_1 rfl ?_
 intro T1 X1
 refine o_ifnonnull_t K X1 d32_4 (by decide) (pc' := 17) (by decide) ?_
 refine o_aloadN K X1 d32_17 rfl rfl rfl ?_
 refine o_getfield K X1 (host := "") (Or.inl (w73 hw)) Via.refl q0 d32_18 rfl ?_
 intro T2 X2
 refine o_areturn K X2 (t := (.object "java/lang/Object")) d32_21 rfl rfl rfl ?_ (by decide) (by decide) (by decide)
 exact ⟨rfl, rfl⟩
theorem d33_0 : decode jdk_32_method_6_code 0 = .ok (.aload_n 0, 1) := by decide +kernel
theorem d33_1 : decode jdk_32_method_6_code 1 = .ok (.getfield 13, 3) := by decide +kernel
theorem d33_4 : decode jdk_32_method_6_code 4 = .ok (.ifnull 7, 3) := by decide +kernel
theorem d33_7 : decode jdk_32_method_6_code 7 = .ok (.iconst 1, 1) := by decide +kernel
theorem d33_8 : decode jdk_32_method_6_code 8 = .ok (.goto 4, 3) := by decide +kernel
theorem d33_12 : decode jdk_32_method_6_code 12 = .ok (.ireturn, 1) := by decide +kernel
def r_optis : Room := { frames := 0, cells := 0, slots := 0, locals := 0 }
def Q_optis (Z : State) (a x : Addr) (h0 : Heap) (v : Option Value) (h : Heap) : Prop := v = some (.int 1) ∧ h0 = h
theorem rm_optis (l : Launch) (Z : State) (a0 : Array Value) (hw : oHw Z a0) (a x : Addr) (h0 : Heap) (q0 : Fld Z h0 a z3 "value" z11 (.ref x)) : oMet l Z (⟨z3, "isPresent", "()Z"⟩ : MethodName) jdk_32_method_6_code 1 (some .boolean) r_optis [] #[.ref a] h0 (Q_optis Z a x h0) [] false := by
 refine oEnter (oEW hw) (plainFor_of_name (by first | (simp [plainName, overriddenIn]; done) | decide +kernel)) (own := z3) (nm := "isPresent") rfl rfl (L := #[.val (.ref a)]) (fun m => by first | (simp [entryFrame, mkF, argsToLocals, Value.category]; done) | rfl) ?_
 intro pp ee ss mm bb mtd cc T0 K X0
 have E0 := X0.ext0
 refine o_aloadN K X0 d33_0 rfl rfl rfl ?_
 refine o_getfield K X0 (host := "") (Or.inl (w73 hw)) Via.refl q0 d33_1 rfl ?_
 intro T1 X1
 refine o_ifnull_f K X1 d33_4 rfl ?_
 refine o_iconst K X1 d33_7 rfl (z := 1) rfl ?_
 refine o_goto K X1 d33_8 (by decide) (pc' := 12) (by decide) ?_
 refine o_ireturnN K X1 .boolean d33_12 rfl (by simp) (z' := 1) (by decide) ?_ (by decide) (by decide) (by decide)
 exact ⟨rfl, rfl⟩
theorem d33_11 : decode jdk_32_method_6_code 11 = .ok (.iconst 0, 1) := by decide +kernel
def r_optisno : Room := { frames := 0, cells := 0, slots := 0, locals := 0 }
def Q_optisno (Z : State) (a : Addr) (h0 : Heap) (v : Option Value) (h : Heap) : Prop := v = some (.int 0) ∧ h0 = h
theorem rm_optisno (l : Launch) (Z : State) (a0 : Array Value) (hw : oHw Z a0) (a : Addr) (h0 : Heap) (q0 : Fld Z h0 a z3 "value" z11 .null) : oMet l Z (⟨z3, "isPresent", "()Z"⟩ : MethodName) jdk_32_method_6_code 1 (some .boolean) r_optisno [] #[.ref a] h0 (Q_optisno Z a h0) [] false := by
 refine oEnter (oEW hw) (plainFor_of_name (by first | (simp [plainName, overriddenIn]; done) | decide +kernel)) (own := z3) (nm := "isPresent") rfl rfl (L := #[.val (.ref a)]) (fun m => by first | (simp [entryFrame, mkF, argsToLocals, Value.category]; done) | rfl) ?_
 intro pp ee ss mm bb mtd cc T0 K X0
 have E0 := X0.ext0
 refine o_aloadN K X0 d33_0 rfl rfl rfl ?_
 refine o_getfield K X0 (host := "") (Or.inl (w73 hw)) Via.refl q0 d33_1 rfl ?_
 intro T1 X1
 refine o_ifnull_t K X1 d33_4 (by decide) (pc' := 11) (by decide) ?_
 refine o_iconst K X1 d33_11 rfl (z := 0) rfl ?_
 refine o_ireturnN K X1 .boolean d33_12 rfl (by simp) (z' := 0) (by decide) ?_ (by decide) (by decide) (by decide)
 exact ⟨rfl, rfl⟩
theorem d34_0 : decode jdk_32_method_1_code 0 = .ok (.getstatic 1, 3) := by decide +kernel
theorem d34_3 : decode jdk_32_method_1_code 3 = .ok (.astore_n 0, 1) := by decide +kernel
theorem d34_4 : decode jdk_32_method_1_code 4 = .ok (.aload_n 0, 1) := by decide +kernel
theorem d34_5 : decode jdk_32_method_1_code 5 = .ok (.areturn, 1) := by decide +kernel
def r_optempty : Room := { frames := 0, cells := 0, slots := 0, locals := 0 }
def Q_optempty (Z : State) (em : Addr) (h0 : Heap) (v : Option Value) (h : Heap) : Prop := v = some (.ref em) ∧ h0 = h
theorem rm_optempty (l : Launch) (Z : State) (a0 : Array Value) (hw : oHw Z a0) (em : Addr) (h0 : Heap) (q0 : Sta Z Z.heap z3 "EMPTY" z14 (.ref em)) : oMet l Z (⟨z3, "empty", "()Ljava/util/Optional;"⟩ : MethodName) jdk_32_method_1_code 1 (some (.object z3)) r_optempty [] #[] h0 (Q_optempty Z em h0) [] false := by
 refine oEnter (oEW hw) (plainFor_of_name (by first | (simp [plainName, overriddenIn]; done) | decide +kernel)) (own := z3) (nm := "empty") rfl rfl (L := #[.unset]) (fun m => by first | (simp [entryFrame, mkF, argsToLocals, Value.category]; done) | rfl) ?_
 intro pp ee ss mm bb mtd cc T0 K X0
 have E0 := X0.ext0
 refine o_getstatic K X0 (host := "") (Or.inl (w67 hw)) Via.refl (q0.ext X0.ext0) d34_0 rfl ?_
 intro T1 X1
 refine o_astoreN K X1 d34_3 rfl rfl (L' := #[vR em]) rfl ?_
 refine o_aloadN K X1 d34_4 rfl rfl rfl ?_
 refine o_areturn K X1 (t := (.object z3)) d34_5 rfl rfl rfl ?_ (by decide) (by decide) (by decide)
 exact ⟨rfl, rfl⟩
theorem d35_0 : decode jdk_42_method_152_code 0 = .ok (.getstatic 38, 3) := by decide +kernel
theorem d35_3 : decode jdk_42_method_152_code 3 = .ok (.ifCond .eq 10, 3) := by decide +kernel
theorem d35_6 : decode jdk_42_method_152_code 6 = .ok (.aload_n 0, 1) := by decide +kernel
theorem d35_7 : decode jdk_42_method_152_code 7 = .ok (.getfield 15, 3) := by decide +kernel
theorem d35_10 : decode jdk_42_method_152_code 10 = .ok (.goto 4, 3) := by decide +kernel
theorem d35_14 : decode jdk_42_method_152_code 14 = .ok (.ireturn, 1) := by decide +kernel
def r_strcoder : Room := { frames := 0, cells := 0, slots := 0, locals := 0 }
def Q_strcoder (Z : State) (a : Addr) (cs : Int32) (h0 : Heap) (v : Option Value) (h : Heap) : Prop := v = some (.int 0) ∧ h0 = h
theorem rm_strcoder (l : Launch) (Z : State) (a0 : Array Value) (hw : oHw Z a0) (a : Addr) (cs : Int32) (h0 : Heap) (q0 : Fld Z h0 a z0 "coder" "B" (.int 0)) (q1 : Sta Z Z.heap z0 z5 "Z" (.int cs)) (q2 : ¬ (cs = (0 : Int32))) : oMet l Z (⟨z0, "coder", "()B"⟩ : MethodName) jdk_42_method_152_code 1 (some .byte) r_strcoder [] #[.ref a] h0 (Q_strcoder Z a cs h0) [] false := by
 refine oEnter (oEW hw) (plainFor_of_name (by first | (simp [plainName, overriddenIn]; done) | decide +kernel)) (own := z0) (nm := "coder") rfl rfl (L := #[.val (.ref a)]) (fun m => by first | (simp [entryFrame, mkF, argsToLocals, Value.category]; done) | rfl) ?_
 intro pp ee ss mm bb mtd cc T0 K X0
 have E0 := X0.ext0
 refine o_getstatic K X0 (host := "") (Or.inl (w15 hw)) Via.refl (q1.ext X0.ext0) d35_0 rfl ?_
 intro T1 X1
 refine o_if_eq_f K X1 d35_3 rfl q2 ?_
 refine o_aloadN K X1 d35_6 rfl rfl rfl ?_
 refine o_getfield K X1 (host := "") (Or.inl (w27 hw)) Via.refl q0 d35_7 rfl ?_
 intro T2 X2
 refine o_goto K X2 d35_10 (by decide) (pc' := 14) (by decide) ?_
 refine o_ireturnN K X2 .byte d35_14 rfl (by simp) (z' := 0) (by decide) ?_ (by decide) (by decide) (by decide)
 exact ⟨rfl, rfl⟩
theorem d36_0 : decode jdk_42_method_154_code 0 = .ok (.getstatic 38, 3) := by decide +kernel
theorem d36_3 : decode jdk_42_method_154_code 3 = .ok (.ifCond .eq 14, 3) := by decide +kernel
theorem d36_6 : decode jdk_42_method_154_code 6 = .ok (.aload_n 0, 1) := by decide +kernel
theorem d36_7 : decode jdk_42_method_154_code 7 = .ok (.getfield 15, 3) := by decide +kernel
theorem d36_10 : decode jdk_42_method_154_code 10 = .ok (.ifCond .ne 7, 3) := by decide +kernel
theorem d36_13 : decode jdk_42_method_154_code 13 = .ok (.iconst 1, 1) := by decide +kernel
theorem d36_14 : decode jdk_42_method_154_code 14 = .ok (.goto 4, 3) := by decide +kernel
theorem d36_18 : decode jdk_42_method_154_code 18 = .ok (.ireturn, 1) := by decide +kernel
def r_strlat : Room := { frames := 0, cells := 0, slots := 0, locals := 0 }
def Q_strlat (Z : State) (a : Addr) (cs : Int32) (h0 : Heap) (v : Option Value) (h : Heap) : Prop := v = some (.int 1) ∧ h0 = h
theorem rm_strlat (l : Launch) (Z : State) (a0 : Array Value) (hw : oHw Z a0) (a : Addr) (cs : Int32) (h0 : Heap) (q0 : Fld Z h0 a z0 "coder" "B" (.int 0)) (q1 : Sta Z Z.heap z0 z5 "Z" (.int cs)) (q2 : ¬ (cs = (0 : Int32))) : oMet l Z (⟨z0, "isLatin1", "()Z"⟩ : MethodName) jdk_42_method_154_code 1 (some .boolean) r_strlat [] #[.ref a] h0 (Q_strlat Z a cs h0) [] false := by
 refine oEnter (oEW hw) (plainFor_of_name (by first | (simp [plainName, overriddenIn]; done) | decide +kernel)) (own := z0) (nm := "isLatin1") rfl rfl (L := #[.val (.ref a)]) (fun m => by first | (simp [entryFrame, mkF, argsToLocals, Value.category]; done) | rfl) ?_
 intro pp ee ss mm bb mtd cc T0 K X0
 have E0 := X0.ext0
 refine o_getstatic K X0 (host := "") (Or.inl (w15 hw)) Via.refl (q1.ext X0.ext0) d36_0 rfl ?_
 intro T1 X1
 refine o_if_eq_f K X1 d36_3 rfl q2 ?_
 refine o_aloadN K X1 d36_6 rfl rfl rfl ?_
 refine o_getfield K X1 (host := "") (Or.inl (w27 hw)) Via.refl q0 d36_7 rfl ?_
 intro T2 X2
 refine o_if_ne_f K X2 d36_10 rfl (by decide) ?_
 refine o_iconst K X2 d36_13 rfl (z := 1) rfl ?_
 refine o_goto K X2 d36_14 (by decide) (pc' := 18) (by decide) ?_
 refine o_ireturnN K X2 .boolean d36_18 rfl (by simp) (z' := 1) (by decide) ?_ (by decide) (by decide) (by decide)
 exact ⟨rfl, rfl⟩
theorem d37_0 : decode jdk_42_method_54_code 0 = .ok (.aload_n 0, 1) := by decide +kernel
theorem d37_1 : decode jdk_42_method_54_code 1 = .ok (.getfield 9, 3) := by decide +kernel
theorem d37_4 : decode jdk_42_method_54_code 4 = .ok (.arraylength, 1) := by decide +kernel
theorem d37_5 : decode jdk_42_method_54_code 5 = .ok (.aload_n 0, 1) := by decide +kernel
theorem d37_6 : decode jdk_42_method_54_code 6 = .ok (.invokevirtual 335, 3) := by decide +kernel
theorem d37_9 : decode jdk_42_method_54_code 9 = .ok (.ishr, 1) := by decide +kernel
theorem d37_10 : decode jdk_42_method_54_code 10 = .ok (.ireturn, 1) := by decide +kernel
theorem pd20 : parseMethodDescriptor "()B" = some ⟨[], some .byte⟩ := by decide +kernel
def r_strlen : Room := { frames := 1, cells := 0, slots := 0, locals := 13 }
def Q_strlen (Z : State) (a va : Addr) (k : ClassId) (c0 c1 c2 c3 c4 c5 c6 cs : Int32) (h0 : Heap) (v : Option Value) (h : Heap) : Prop := v = some (.int 7) ∧ h0 = h
theorem rm_strlen (l : Launch) (Z : State) (a0 : Array Value) (hw : oHw Z a0) (a va : Addr) (k : ClassId) (c0 c1 c2 c3 c4 c5 c6 cs : Int32) (h0 : Heap) (q0 : Exa Z h0 a z0) (q1 : Fld Z h0 a z0 "value" "[B" (.ref va)) (q2 : Fld Z h0 a z0 "coder" "B" (.int 0)) (q3 : oArr Z h0 va k .byte [(.int (nar .byte c0)), (.int (nar .byte c1)), (.int (nar .byte c2)), (.int (nar .byte c3)), (.int (nar .byte c4)), (.int (nar .byte c5)), (.int (nar .byte c6))]) (q4 : Sta Z Z.heap z0 z5 "Z" (.int cs)) (q5 : ¬ (cs = (0 : Int32))) : oMet l Z (⟨z0, "length", "()I"⟩ : MethodName) jdk_42_method_54_code 1 (some .int) r_strlen [] #[.ref a] h0 (Q_strlen Z a va k c0 c1 c2 c3 c4 c5 c6 cs h0) [] false := by
 refine oEnter (oEW hw) (plainFor_of_name (by first | (simp [plainName, overriddenIn]; done) | decide +kernel)) (own := z0) (nm := "length") rfl rfl (L := #[.val (.ref a)]) (fun m => by first | (simp [entryFrame, mkF, argsToLocals, Value.category]; done) | rfl) ?_
 intro pp ee ss mm bb mtd cc T0 K X0
 have E0 := X0.ext0
 refine o_aloadN K X0 d37_0 rfl rfl rfl ?_
 refine o_getfield K X0 (host := "") (Or.inl (w29 hw)) Via.refl q1 d37_1 rfl ?_
 intro T1 X1
 refine o_arraylength K X1 q3 (z := 7) rfl d37_4 rfl ?_
 refine o_aloadN K X1 d37_5 rfl rfl rfl ?_
 refine o_virtual K X1   (w58 hw) (w59 hw) (oNF (w61 hw)) (w61 hw) (w60 hw) (w4 hw) (w62 hw) (by decide) q0 (rm_strcoder l Z a0 hw a cs h0 q2 q4 q5) all0 (by decide) rfl (argsL := []) rfl (lenOf pd20 rfl) (W := 1) rfl (by decide) (by decide) (by decide) d37_6 rfl ?_
 intro v2 T2 h2 FX2 U2
 obtain ⟨rfl, rfl⟩ := U2
 have X2 := FX2 [] (Or.inl rfl) all0
 show oGoes pp ee bb ss Z T2 (mkF mm 9 _ [.int 0, .int 7]) _ _ _ _
 refine o_ishr K X2 d37_9 rfl (z := 7) (by decide) ?_
 refine o_ireturn K X2 d37_10 rfl ?_ (by decide) (by decide) (by decide)
 exact ⟨rfl, rfl⟩
theorem d38_0 : decode jdk_41_method_11_code 0 = .ok (.iload_n 0, 1) := by decide +kernel
theorem d38_1 : decode jdk_41_method_11_code 1 = .ok (.ifCond .lt 8, 3) := by decide +kernel
theorem d38_4 : decode jdk_41_method_11_code 4 = .ok (.iload_n 0, 1) := by decide +kernel
theorem d38_5 : decode jdk_41_method_11_code 5 = .ok (.iload_n 1, 1) := by decide +kernel
theorem d38_6 : decode jdk_41_method_11_code 6 = .ok (.if_icmp .lt 10, 3) := by decide +kernel
theorem d38_16 : decode jdk_41_method_11_code 16 = .ok (.iload_n 0, 1) := by decide +kernel
theorem d38_17 : decode jdk_41_method_11_code 17 = .ok (.ireturn, 1) := by decide +kernel
def r_pchk1 : Room := { frames := 0, cells := 0, slots := 0, locals := 0 }
def Q_pchk1 (Z : State) (fm : Value) (h0 : Heap) (v : Option Value) (h : Heap) : Prop := v = some (.int 1) ∧ h0 = h
theorem rm_pchk1 (l : Launch) (Z : State) (a0 : Array Value) (hw : oHw Z a0) (fm : Value) (h0 : Heap) (q0 : fm.isRef = true) : oMet l Z (⟨z6, "checkIndex", "(IILjava/util/function/BiFunction;)I"⟩ : MethodName) jdk_41_method_11_code 3 (some .int) r_pchk1 [] #[.int 1, .int 7, fm] h0 (Q_pchk1 Z fm h0) [] false := by
 refine oEnter (oEW hw) (plainFor_of_name (by first | (simp [plainName, overriddenIn]; done) | decide +kernel)) (own := z6) (nm := "checkIndex") rfl rfl (L := #[.val (.int 1), .val (.int 7), .val fm]) (fun m => by first | (simp [entryFrame, mkF, argsToLocals, oCat1, oCat2, oCat3, oCat4, oCatRef q0]; done) | rfl) ?_
 intro pp ee ss mm bb mtd cc T0 K X0
 have E0 := X0.ext0
 refine o_iloadN K X0 d38_0 rfl rfl ?_
 refine o_if_lt_f K X0 d38_1 rfl (by decide) ?_
 refine o_iloadN K X0 d38_4 rfl rfl ?_
 refine o_iloadN K X0 d38_5 rfl rfl ?_
 refine o_icmp_lt_t K X0 d38_6 (by decide) (pc' := 16) (by decide) (by decide) ?_
 refine o_iloadN K X0 d38_16 rfl rfl ?_
 refine o_ireturn K X0 d38_17 rfl ?_ (by decide) (by decide) (by decide)
 exact ⟨rfl, rfl⟩
theorem d39_0 : decode jdk_42_method_155_code 0 = .ok (.iload_n 0, 1) := by decide +kernel
theorem d39_1 : decode jdk_42_method_155_code 1 = .ok (.iload_n 1, 1) := by decide +kernel
theorem d39_2 : decode jdk_42_method_155_code 2 = .ok (.getstatic 1053, 3) := by decide +kernel
theorem d39_5 : decode jdk_42_method_155_code 5 = .ok (.invokestatic 1059, 3) := by decide +kernel
theorem d39_8 : decode jdk_42_method_155_code 8 = .ok (.pop, 1) := by decide +kernel
theorem d39_9 : decode jdk_42_method_155_code 9 = .ok (.return_, 1) := by decide +kernel
theorem pd21 : parseMethodDescriptor "(IILjava/util/function/BiFunction;)I" = some ⟨[.int, .int, (.object "java/util/function/BiFunction")], some .int⟩ := by decide +kernel
def r_schk1 : Room := { frames := 1, cells := 0, slots := 0, locals := 14 }
def Q_schk1 (Z : State) (fm : Value) (h0 : Heap) (v : Option Value) (h : Heap) : Prop := v = none ∧ h0 = h
theorem rm_schk1 (l : Launch) (Z : State) (a0 : Array Value) (hw : oHw Z a0) (fm : Value) (h0 : Heap) (q0 : Sta Z Z.heap z6 z7 z8 fm) (q1 : fm.isRef = true) : oMet l Z (⟨z0, "checkIndex", "(II)V"⟩ : MethodName) jdk_42_method_155_code 2 none r_schk1 [] #[.int 1, .int 7] h0 (Q_schk1 Z fm h0) [] false := by
 refine oEnter (oEW hw) (plainFor_of_name (by first | (simp [plainName, overriddenIn]; done) | decide +kernel)) (own := z0) (nm := "checkIndex") rfl rfl (L := #[.val (.int 1), .val (.int 7)]) (fun m => by first | (simp [entryFrame, mkF, argsToLocals, Value.category, oCatRef q1]; done) | rfl) ?_
 intro pp ee ss mm bb mtd cc T0 K X0
 have E0 := X0.ext0
 refine o_iloadN K X0 d39_0 rfl rfl ?_
 refine o_iloadN K X0 d39_1 rfl rfl ?_
 refine o_getstatic K X0 (host := "") (Or.inl (w92 hw)) Via.refl (q0.ext X0.ext0) d39_2 rfl ?_
 intro T1 X1
 refine o_static K X1  (w94 hw) (w95 hw) (w93 hw) (w96 hw) (by decide) (rm_pchk1 l Z a0 hw fm h0 q1) all0 (by decide) rfl (argsL := [.int 1, .int 7, fm]) rfl (lenOf pd21 rfl) (W := 0) rfl (by decide) (by decide) (by decide) d39_5 rfl ?_
 intro v2 T2 h2 FX2 U2
 obtain ⟨rfl, rfl⟩ := U2
 have X2 := FX2 [] (Or.inl rfl) all0
 show oGoes pp ee bb ss Z T2 (mkF mm 8 _ [.int 1]) _ _ _ _
 refine o_pop K X2 d39_8 rfl rfl ?_
 refine o_return K X2 d39_9 rfl ?_ (by decide) (by decide) (by decide)
 exact ⟨rfl, rfl⟩
theorem d40_0 : decode jdk_43_method_2_code 0 = .ok (.iload_n 1, 1) := by decide +kernel
theorem d40_1 : decode jdk_43_method_2_code 1 = .ok (.aload_n 0, 1) := by decide +kernel
theorem d40_2 : decode jdk_43_method_2_code 2 = .ok (.arraylength, 1) := by decide +kernel
theorem d40_3 : decode jdk_43_method_2_code 3 = .ok (.invokestatic 9, 3) := by decide +kernel
theorem d40_6 : decode jdk_43_method_2_code 6 = .ok (.aload_n 0, 1) := by decide +kernel
theorem d40_7 : decode jdk_43_method_2_code 7 = .ok (.iload_n 1, 1) := by decide +kernel
theorem d40_8 : decode jdk_43_method_2_code 8 = .ok (.baload, 1) := by decide +kernel
theorem d40_9 : decode jdk_43_method_2_code 9 = .ok (.sipush 255, 3) := by decide +kernel
theorem d40_12 : decode jdk_43_method_2_code 12 = .ok (.iand, 1) := by decide +kernel
theorem d40_13 : decode jdk_43_method_2_code 13 = .ok (.i2c, 1) := by decide +kernel
theorem d40_14 : decode jdk_43_method_2_code 14 = .ok (.ireturn, 1) := by decide +kernel
def r_lchar1 : Room := { frames := 2, cells := 0, slots := 0, locals := 27 }
def Q_lchar1 (Z : State) (va : Addr) (k : ClassId) (c0 c1 c2 c3 c4 c5 c6 : Int32) (fm : Value) (h0 : Heap) (v : Option Value) (h : Heap) : Prop := v = some (.int c1) ∧ h0 = h ∧ nar .char c1 = c1
theorem rm_lchar1 (l : Launch) (Z : State) (a0 : Array Value) (hw : oHw Z a0) (va : Addr) (k : ClassId) (c0 c1 c2 c3 c4 c5 c6 : Int32) (fm : Value) (h0 : Heap) (q0 : oArr Z h0 va k .byte [(.int (nar .byte c0)), (.int (nar .byte c1)), (.int (nar .byte c2)), (.int (nar .byte c3)), (.int (nar .byte c4)), (.int (nar .byte c5)), (.int (nar .byte c6))]) (q1 : oCh c1) (q2 : Sta Z Z.heap z6 z7 z8 fm) (q3 : fm.isRef = true) : oMet l Z (⟨z9, "charAt", "([BI)C"⟩ : MethodName) jdk_43_method_2_code 2 (some .char) r_lchar1 [] #[.ref va, .int 1] h0 (Q_lchar1 Z va k c0 c1 c2 c3 c4 c5 c6 fm h0) [] false := by
 refine oEnter (oEW hw) (plainFor_of_name (by first | (simp [plainName, overriddenIn]; done) | decide +kernel)) (own := z9) (nm := "charAt") rfl rfl (L := #[.val (.ref va), .val (.int 1)]) (fun m => by first | (simp [entryFrame, mkF, argsToLocals, Value.category, oCatRef q3]; done) | rfl) ?_
 intro pp ee ss mm bb mtd cc T0 K X0
 have E0 := X0.ext0
 refine o_iloadN K X0 d40_0 rfl rfl ?_
 refine o_aloadN K X0 d40_1 rfl rfl rfl ?_
 refine o_arraylength K X0 q0 (z := 7) rfl d40_2 rfl ?_
 refine o_static K X0  (w89 hw) (w90 hw) (w4 hw) (w91 hw) (by decide) (rm_schk1 l Z a0 hw fm h0 q2 q3) all0 (by decide) rfl (argsL := [.int 1, .int 7]) rfl (lenOf pd11 rfl) (W := 0) rfl (by decide) (by decide) (by decide) d40_3 rfl ?_
 intro v1 T1 h1 FX1 U1
 obtain ⟨rfl, rfl⟩ := U1
 have X1 := FX1 [] (Or.inl rfl) all0
 show oGoes pp ee bb ss Z T1 (mkF mm 6 _ []) _ _ _ _
 refine o_aloadN K X1 d40_6 rfl rfl rfl ?_
 refine o_iloadN K X1 d40_7 rfl rfl ?_
 refine o_baload K X1 q0 (by decide) (v := (.int (nar .byte c1))) rfl d40_8 rfl ?_
 refine o_sipush K X1 d40_9 rfl (z := 255) rfl ?_
 refine o_iand K X1 d40_12 rfl (z := c1) (oBack q1) ?_
 refine o_i2c K X1 d40_13 rfl (z := c1) (oChN q1) ?_
 refine o_ireturnN K X1 .char d40_14 rfl (by simp) (z' := c1) (oChN q1) ?_ (by decide) (by decide) (by decide)
 exact ⟨rfl, rfl, (oChN q1)⟩
theorem d41_0 : decode jdk_42_method_56_code 0 = .ok (.aload_n 0, 1) := by decide +kernel
theorem d41_1 : decode jdk_42_method_56_code 1 = .ok (.invokevirtual 492, 3) := by decide +kernel
theorem d41_4 : decode jdk_42_method_56_code 4 = .ok (.ifCond .eq 12, 3) := by decide +kernel
theorem d41_7 : decode jdk_42_method_56_code 7 = .ok (.aload_n 0, 1) := by decide +kernel
theorem d41_8 : decode jdk_42_method_56_code 8 = .ok (.getfield 9, 3) := by decide +kernel
theorem d41_11 : decode jdk_42_method_56_code 11 = .ok (.iload_n 1, 1) := by decide +kernel
theorem d41_12 : decode jdk_42_method_56_code 12 = .ok (.invokestatic 495, 3) := by decide +kernel
theorem d41_15 : decode jdk_42_method_56_code 15 = .ok (.ireturn, 1) := by decide +kernel
theorem pd22 : parseMethodDescriptor "([BI)C" = some ⟨[(.array .byte), .int], some .char⟩ := by decide +kernel
def r_char1 : Room := { frames := 3, cells := 0, slots := 0, locals := 40 }
def Q_char1 (Z : State) (a va : Addr) (k : ClassId) (c0 c1 c2 c3 c4 c5 c6 : Int32) (fm : Value) (cs : Int32) (h0 : Heap) (v : Option Value) (h : Heap) : Prop := v = some (.int c1) ∧ h0 = h ∧ nar .char c1 = c1
theorem rm_char1 (l : Launch) (Z : State) (a0 : Array Value) (hw : oHw Z a0) (a va : Addr) (k : ClassId) (c0 c1 c2 c3 c4 c5 c6 : Int32) (fm : Value) (cs : Int32) (h0 : Heap) (q0 : Exa Z h0 a z0) (q1 : Fld Z h0 a z0 "value" "[B" (.ref va)) (q2 : Fld Z h0 a z0 "coder" "B" (.int 0)) (q3 : oArr Z h0 va k .byte [(.int (nar .byte c0)), (.int (nar .byte c1)), (.int (nar .byte c2)), (.int (nar .byte c3)), (.int (nar .byte c4)), (.int (nar .byte c5)), (.int (nar .byte c6))]) (q4 : oCh c1) (q5 : Sta Z Z.heap z6 z7 z8 fm) (q6 : fm.isRef = true) (q7 : Sta Z Z.heap z0 z5 "Z" (.int cs)) (q8 : ¬ (cs = (0 : Int32))) : oMet l Z (⟨z0, "charAt", "(I)C"⟩ : MethodName) jdk_42_method_56_code 2 (some .char) r_char1 [] #[.ref a, .int 1] h0 (Q_char1 Z a va k c0 c1 c2 c3 c4 c5 c6 fm cs h0) [] false := by
 refine oEnter (oEW hw) (plainFor_of_name (by first | (simp [plainName, overriddenIn]; done) | decide +kernel)) (own := z0) (nm := "charAt") rfl rfl (L := #[.val (.ref a), .val (.int 1)]) (fun m => by first | (simp [entryFrame, mkF, argsToLocals, Value.category, oCatRef q6]; done) | rfl) ?_
 intro pp ee ss mm bb mtd cc T0 K X0
 have E0 := X0.ext0
 refine o_aloadN K X0 d41_0 rfl rfl rfl ?_
 refine o_virtual K X0   (w80 hw) (w81 hw) (oNF (w83 hw)) (w83 hw) (w82 hw) (w4 hw) (w84 hw) (by decide) q0 (rm_strlat l Z a0 hw a cs h0 q2 q7 q8) all0 (by decide) rfl (argsL := []) rfl (lenOf pd8 rfl) (W := 0) rfl (by decide) (by decide) (by decide) d41_1 rfl ?_
 intro v1 T1 h1 FX1 U1
 obtain ⟨rfl, rfl⟩ := U1
 have X1 := FX1 [] (Or.inl rfl) all0
 show oGoes pp ee bb ss Z T1 (mkF mm 4 _ [.int 1]) _ _ _ _
 refine o_if_eq_f K X1 d41_4 rfl (by decide) ?_
 refine o_aloadN K X1 d41_7 rfl rfl rfl ?_
 refine o_getfield K X1 (host := "") (Or.inl (w29 hw)) Via.refl q1 d41_8 rfl ?_
 intro T2 X2
 refine o_iloadN K X2 d41_11 rfl rfl ?_
 refine o_static K X2  (w85 hw) (w86 hw) (w87 hw) (w88 hw) (by decide) (rm_lchar1 l Z a0 hw va k c0 c1 c2 c3 c4 c5 c6 fm h0 q3 q4 q5 q6) all0 (by decide) rfl (argsL := [.ref va, .int 1]) rfl (lenOf pd22 rfl) (W := 0) rfl (by decide) (by decide) (by decide) d41_12 rfl ?_
 intro v3 T3 h3 FX3 U3
 obtain ⟨rfl, rfl, u3_1⟩ := U3
 have X3 := FX3 [] (Or.inl rfl) all0
 show oGoes pp ee bb ss Z T3 (mkF mm 15 _ [.int c1]) _ _ _ _
 refine o_ireturnN K X3 .char d41_15 rfl (by simp) (z' := c1) u3_1 ?_ (by decide) (by decide) (by decide)
 exact ⟨rfl, rfl, u3_1⟩
def r_pchk2 : Room := { frames := 0, cells := 0, slots := 0, locals := 0 }
def Q_pchk2 (Z : State) (fm : Value) (h0 : Heap) (v : Option Value) (h : Heap) : Prop := v = some (.int 2) ∧ h0 = h
theorem rm_pchk2 (l : Launch) (Z : State) (a0 : Array Value) (hw : oHw Z a0) (fm : Value) (h0 : Heap) (q0 : fm.isRef = true) : oMet l Z (⟨z6, "checkIndex", "(IILjava/util/function/BiFunction;)I"⟩ : MethodName) jdk_41_method_11_code 3 (some .int) r_pchk2 [] #[.int 2, .int 7, fm] h0 (Q_pchk2 Z fm h0) [] false := by
 refine oEnter (oEW hw) (plainFor_of_name (by first | (simp [plainName, overriddenIn]; done) | decide +kernel)) (own := z6) (nm := "checkIndex") rfl rfl (L := #[.val (.int 2), .val (.int 7), .val fm]) (fun m => by first | (simp [entryFrame, mkF, argsToLocals, oCat1, oCat2, oCat3, oCat4, oCatRef q0]; done) | rfl) ?_
 intro pp ee ss mm bb mtd cc T0 K X0
 have E0 := X0.ext0
 refine o_iloadN K X0 d38_0 rfl rfl ?_
 refine o_if_lt_f K X0 d38_1 rfl (by decide) ?_
 refine o_iloadN K X0 d38_4 rfl rfl ?_
 refine o_iloadN K X0 d38_5 rfl rfl ?_
 refine o_icmp_lt_t K X0 d38_6 (by decide) (pc' := 16) (by decide) (by decide) ?_
 refine o_iloadN K X0 d38_16 rfl rfl ?_
 refine o_ireturn K X0 d38_17 rfl ?_ (by decide) (by decide) (by decide)
 exact ⟨rfl, rfl⟩
def r_schk2 : Room := { frames := 1, cells := 0, slots := 0, locals := 14 }
def Q_schk2 (Z : State) (fm : Value) (h0 : Heap) (v : Option Value) (h : Heap) : Prop := v = none ∧ h0 = h
theorem rm_schk2 (l : Launch) (Z : State) (a0 : Array Value) (hw : oHw Z a0) (fm : Value) (h0 : Heap) (q0 : Sta Z Z.heap z6 z7 z8 fm) (q1 : fm.isRef = true) : oMet l Z (⟨z0, "checkIndex", "(II)V"⟩ : MethodName) jdk_42_method_155_code 2 none r_schk2 [] #[.int 2, .int 7] h0 (Q_schk2 Z fm h0) [] false := by
 refine oEnter (oEW hw) (plainFor_of_name (by first | (simp [plainName, overriddenIn]; done) | decide +kernel)) (own := z0) (nm := "checkIndex") rfl rfl (L := #[.val (.int 2), .val (.int 7)]) (fun m => by first | (simp [entryFrame, mkF, argsToLocals, Value.category, oCatRef q1]; done) | rfl) ?_
 intro pp ee ss mm bb mtd cc T0 K X0
 have E0 := X0.ext0
 refine o_iloadN K X0 d39_0 rfl rfl ?_
 refine o_iloadN K X0 d39_1 rfl rfl ?_
 refine o_getstatic K X0 (host := "") (Or.inl (w92 hw)) Via.refl (q0.ext X0.ext0) d39_2 rfl ?_
 intro T1 X1
 refine o_static K X1  (w94 hw) (w95 hw) (w93 hw) (w96 hw) (by decide) (rm_pchk2 l Z a0 hw fm h0 q1) all0 (by decide) rfl (argsL := [.int 2, .int 7, fm]) rfl (lenOf pd21 rfl) (W := 0) rfl (by decide) (by decide) (by decide) d39_5 rfl ?_
 intro v2 T2 h2 FX2 U2
 obtain ⟨rfl, rfl⟩ := U2
 have X2 := FX2 [] (Or.inl rfl) all0
 show oGoes pp ee bb ss Z T2 (mkF mm 8 _ [.int 2]) _ _ _ _
 refine o_pop K X2 d39_8 rfl rfl ?_
 refine o_return K X2 d39_9 rfl ?_ (by decide) (by decide) (by decide)
 exact ⟨rfl, rfl⟩
def r_lchar2 : Room := { frames := 2, cells := 0, slots := 0, locals := 27 }
def Q_lchar2 (Z : State) (va : Addr) (k : ClassId) (c0 c1 c2 c3 c4 c5 c6 : Int32) (fm : Value) (h0 : Heap) (v : Option Value) (h : Heap) : Prop := v = some (.int c2) ∧ h0 = h ∧ nar .char c2 = c2
theorem rm_lchar2 (l : Launch) (Z : State) (a0 : Array Value) (hw : oHw Z a0) (va : Addr) (k : ClassId) (c0 c1 c2 c3 c4 c5 c6 : Int32) (fm : Value) (h0 : Heap) (q0 : oArr Z h0 va k .byte [(.int (nar .byte c0)), (.int (nar .byte c1)), (.int (nar .byte c2)), (.int (nar .byte c3)), (.int (nar .byte c4)), (.int (nar .byte c5)), (.int (nar .byte c6))]) (q1 : oCh c2) (q2 : Sta Z Z.heap z6 z7 z8 fm) (q3 : fm.isRef = true) : oMet l Z (⟨z9, "charAt", "([BI)C"⟩ : MethodName) jdk_43_method_2_code 2 (some .char) r_lchar2 [] #[.ref va, .int 2] h0 (Q_lchar2 Z va k c0 c1 c2 c3 c4 c5 c6 fm h0) [] false := by
 refine oEnter (oEW hw) (plainFor_of_name (by first | (simp [plainName, overriddenIn]; done) | decide +kernel)) (own := z9) (nm := "charAt") rfl rfl (L := #[.val (.ref va), .val (.int 2)]) (fun m => by first | (simp [entryFrame, mkF, argsToLocals, Value.category, oCatRef q3]; done) | rfl) ?_
 intro pp ee ss mm bb mtd cc T0 K X0
 have E0 := X0.ext0
 refine o_iloadN K X0 d40_0 rfl rfl ?_
 refine o_aloadN K X0 d40_1 rfl rfl rfl ?_
 refine o_arraylength K X0 q0 (z := 7) rfl d40_2 rfl ?_
 refine o_static K X0  (w89 hw) (w90 hw) (w4 hw) (w91 hw) (by decide) (rm_schk2 l Z a0 hw fm h0 q2 q3) all0 (by decide) rfl (argsL := [.int 2, .int 7]) rfl (lenOf pd11 rfl) (W := 0) rfl (by decide) (by decide) (by decide) d40_3 rfl ?_
 intro v1 T1 h1 FX1 U1
 obtain ⟨rfl, rfl⟩ := U1
 have X1 := FX1 [] (Or.inl rfl) all0
 show oGoes pp ee bb ss Z T1 (mkF mm 6 _ []) _ _ _ _
 refine o_aloadN K X1 d40_6 rfl rfl rfl ?_
 refine o_iloadN K X1 d40_7 rfl rfl ?_
 refine o_baload K X1 q0 (by decide) (v := (.int (nar .byte c2))) rfl d40_8 rfl ?_
 refine o_sipush K X1 d40_9 rfl (z := 255) rfl ?_
 refine o_iand K X1 d40_12 rfl (z := c2) (oBack q1) ?_
 refine o_i2c K X1 d40_13 rfl (z := c2) (oChN q1) ?_
 refine o_ireturnN K X1 .char d40_14 rfl (by simp) (z' := c2) (oChN q1) ?_ (by decide) (by decide) (by decide)
 exact ⟨rfl, rfl, (oChN q1)⟩
def r_char2 : Room := { frames := 3, cells := 0, slots := 0, locals := 40 }
def Q_char2 (Z : State) (a va : Addr) (k : ClassId) (c0 c1 c2 c3 c4 c5 c6 : Int32) (fm : Value) (cs : Int32) (h0 : Heap) (v : Option Value) (h : Heap) : Prop := v = some (.int c2) ∧ h0 = h ∧ nar .char c2 = c2
theorem rm_char2 (l : Launch) (Z : State) (a0 : Array Value) (hw : oHw Z a0) (a va : Addr) (k : ClassId) (c0 c1 c2 c3 c4 c5 c6 : Int32) (fm : Value) (cs : Int32) (h0 : Heap) (q0 : Exa Z h0 a z0) (q1 : Fld Z h0 a z0 "value" "[B" (.ref va)) (q2 : Fld Z h0 a z0 "coder" "B" (.int 0)) (q3 : oArr Z h0 va k .byte [(.int (nar .byte c0)), (.int (nar .byte c1)), (.int (nar .byte c2)), (.int (nar .byte c3)), (.int (nar .byte c4)), (.int (nar .byte c5)), (.int (nar .byte c6))]) (q4 : oCh c2) (q5 : Sta Z Z.heap z6 z7 z8 fm) (q6 : fm.isRef = true) (q7 : Sta Z Z.heap z0 z5 "Z" (.int cs)) (q8 : ¬ (cs = (0 : Int32))) : oMet l Z (⟨z0, "charAt", "(I)C"⟩ : MethodName) jdk_42_method_56_code 2 (some .char) r_char2 [] #[.ref a, .int 2] h0 (Q_char2 Z a va k c0 c1 c2 c3 c4 c5 c6 fm cs h0) [] false := by
 refine oEnter (oEW hw) (plainFor_of_name (by first | (simp [plainName, overriddenIn]; done) | decide +kernel)) (own := z0) (nm := "charAt") rfl rfl (L := #[.val (.ref a), .val (.int 2)]) (fun m => by first | (simp [entryFrame, mkF, argsToLocals, Value.category, oCatRef q6]; done) | rfl) ?_
 intro pp ee ss mm bb mtd cc T0 K X0
 have E0 := X0.ext0
 refine o_aloadN K X0 d41_0 rfl rfl rfl ?_
 refine o_virtual K X0   (w80 hw) (w81 hw) (oNF (w83 hw)) (w83 hw) (w82 hw) (w4 hw) (w84 hw) (by decide) q0 (rm_strlat l Z a0 hw a cs h0 q2 q7 q8) all0 (by decide) rfl (argsL := []) rfl (lenOf pd8 rfl) (W := 0) rfl (by decide) (by decide) (by decide) d41_1 rfl ?_
 intro v1 T1 h1 FX1 U1
 obtain ⟨rfl, rfl⟩ := U1
 have X1 := FX1 [] (Or.inl rfl) all0
 show oGoes pp ee bb ss Z T1 (mkF mm 4 _ [.int 1]) _ _ _ _
 refine o_if_eq_f K X1 d41_4 rfl (by decide) ?_
 refine o_aloadN K X1 d41_7 rfl rfl rfl ?_
 refine o_getfield K X1 (host := "") (Or.inl (w29 hw)) Via.refl q1 d41_8 rfl ?_
 intro T2 X2
 refine o_iloadN K X2 d41_11 rfl rfl ?_
 refine o_static K X2  (w85 hw) (w86 hw) (w87 hw) (w88 hw) (by decide) (rm_lchar2 l Z a0 hw va k c0 c1 c2 c3 c4 c5 c6 fm h0 q3 q4 q5 q6) all0 (by decide) rfl (argsL := [.ref va, .int 2]) rfl (lenOf pd22 rfl) (W := 0) rfl (by decide) (by decide) (by decide) d41_12 rfl ?_
 intro v3 T3 h3 FX3 U3
 obtain ⟨rfl, rfl, u3_1⟩ := U3
 have X3 := FX3 [] (Or.inl rfl) all0
 show oGoes pp ee bb ss Z T3 (mkF mm 15 _ [.int c2]) _ _ _ _
 refine o_ireturnN K X3 .char d41_15 rfl (by simp) (z' := c2) u3_1 ?_ (by decide) (by decide) (by decide)
 exact ⟨rfl, rfl, u3_1⟩
def r_pchk3 : Room := { frames := 0, cells := 0, slots := 0, locals := 0 }
def Q_pchk3 (Z : State) (fm : Value) (h0 : Heap) (v : Option Value) (h : Heap) : Prop := v = some (.int 3) ∧ h0 = h
theorem rm_pchk3 (l : Launch) (Z : State) (a0 : Array Value) (hw : oHw Z a0) (fm : Value) (h0 : Heap) (q0 : fm.isRef = true) : oMet l Z (⟨z6, "checkIndex", "(IILjava/util/function/BiFunction;)I"⟩ : MethodName) jdk_41_method_11_code 3 (some .int) r_pchk3 [] #[.int 3, .int 7, fm] h0 (Q_pchk3 Z fm h0) [] false := by
 refine oEnter (oEW hw) (plainFor_of_name (by first | (simp [plainName, overriddenIn]; done) | decide +kernel)) (own := z6) (nm := "checkIndex") rfl rfl (L := #[.val (.int 3), .val (.int 7), .val fm]) (fun m => by first | (simp [entryFrame, mkF, argsToLocals, oCat1, oCat2, oCat3, oCat4, oCatRef q0]; done) | rfl) ?_
 intro pp ee ss mm bb mtd cc T0 K X0
 have E0 := X0.ext0
 refine o_iloadN K X0 d38_0 rfl rfl ?_
 refine o_if_lt_f K X0 d38_1 rfl (by decide) ?_
 refine o_iloadN K X0 d38_4 rfl rfl ?_
 refine o_iloadN K X0 d38_5 rfl rfl ?_
 refine o_icmp_lt_t K X0 d38_6 (by decide) (pc' := 16) (by decide) (by decide) ?_
 refine o_iloadN K X0 d38_16 rfl rfl ?_
 refine o_ireturn K X0 d38_17 rfl ?_ (by decide) (by decide) (by decide)
 exact ⟨rfl, rfl⟩
def r_schk3 : Room := { frames := 1, cells := 0, slots := 0, locals := 14 }
def Q_schk3 (Z : State) (fm : Value) (h0 : Heap) (v : Option Value) (h : Heap) : Prop := v = none ∧ h0 = h
theorem rm_schk3 (l : Launch) (Z : State) (a0 : Array Value) (hw : oHw Z a0) (fm : Value) (h0 : Heap) (q0 : Sta Z Z.heap z6 z7 z8 fm) (q1 : fm.isRef = true) : oMet l Z (⟨z0, "checkIndex", "(II)V"⟩ : MethodName) jdk_42_method_155_code 2 none r_schk3 [] #[.int 3, .int 7] h0 (Q_schk3 Z fm h0) [] false := by
 refine oEnter (oEW hw) (plainFor_of_name (by first | (simp [plainName, overriddenIn]; done) | decide +kernel)) (own := z0) (nm := "checkIndex") rfl rfl (L := #[.val (.int 3), .val (.int 7)]) (fun m => by first | (simp [entryFrame, mkF, argsToLocals, Value.category, oCatRef q1]; done) | rfl) ?_
 intro pp ee ss mm bb mtd cc T0 K X0
 have E0 := X0.ext0
 refine o_iloadN K X0 d39_0 rfl rfl ?_
 refine o_iloadN K X0 d39_1 rfl rfl ?_
 refine o_getstatic K X0 (host := "") (Or.inl (w92 hw)) Via.refl (q0.ext X0.ext0) d39_2 rfl ?_
 intro T1 X1
 refine o_static K X1  (w94 hw) (w95 hw) (w93 hw) (w96 hw) (by decide) (rm_pchk3 l Z a0 hw fm h0 q1) all0 (by decide) rfl (argsL := [.int 3, .int 7, fm]) rfl (lenOf pd21 rfl) (W := 0) rfl (by decide) (by decide) (by decide) d39_5 rfl ?_
 intro v2 T2 h2 FX2 U2
 obtain ⟨rfl, rfl⟩ := U2
 have X2 := FX2 [] (Or.inl rfl) all0
 show oGoes pp ee bb ss Z T2 (mkF mm 8 _ [.int 3]) _ _ _ _
 refine o_pop K X2 d39_8 rfl rfl ?_
 refine o_return K X2 d39_9 rfl ?_ (by decide) (by decide) (by decide)
 exact ⟨rfl, rfl⟩
def r_lchar3 : Room := { frames := 2, cells := 0, slots := 0, locals := 27 }
def Q_lchar3 (Z : State) (va : Addr) (k : ClassId) (c0 c1 c2 c3 c4 c5 c6 : Int32) (fm : Value) (h0 : Heap) (v : Option Value) (h : Heap) : Prop := v = some (.int c3) ∧ h0 = h ∧ nar .char c3 = c3
theorem rm_lchar3 (l : Launch) (Z : State) (a0 : Array Value) (hw : oHw Z a0) (va : Addr) (k : ClassId) (c0 c1 c2 c3 c4 c5 c6 : Int32) (fm : Value) (h0 : Heap) (q0 : oArr Z h0 va k .byte [(.int (nar .byte c0)), (.int (nar .byte c1)), (.int (nar .byte c2)), (.int (nar .byte c3)), (.int (nar .byte c4)), (.int (nar .byte c5)), (.int (nar .byte c6))]) (q1 : oCh c3) (q2 : Sta Z Z.heap z6 z7 z8 fm) (q3 : fm.isRef = true) : oMet l Z (⟨z9, "charAt", "([BI)C"⟩ : MethodName) jdk_43_method_2_code 2 (some .char) r_lchar3 [] #[.ref va, .int 3] h0 (Q_lchar3 Z va k c0 c1 c2 c3 c4 c5 c6 fm h0) [] false := by
 refine oEnter (oEW hw) (plainFor_of_name (by first | (simp [plainName, overriddenIn]; done) | decide +kernel)) (own := z9) (nm := "charAt") rfl rfl (L := #[.val (.ref va), .val (.int 3)]) (fun m => by first | (simp [entryFrame, mkF, argsToLocals, Value.category, oCatRef q3]; done) | rfl) ?_
 intro pp ee ss mm bb mtd cc T0 K X0
 have E0 := X0.ext0
 refine o_iloadN K X0 d40_0 rfl rfl ?_
 refine o_aloadN K X0 d40_1 rfl rfl rfl ?_
 refine o_arraylength K X0 q0 (z := 7) rfl d40_2 rfl ?_
 refine o_static K X0  (w89 hw) (w90 hw) (w4 hw) (w91 hw) (by decide) (rm_schk3 l Z a0 hw fm h0 q2 q3) all0 (by decide) rfl (argsL := [.int 3, .int 7]) rfl (lenOf pd11 rfl) (W := 0) rfl (by decide) (by decide) (by decide) d40_3 rfl ?_
 intro v1 T1 h1 FX1 U1
 obtain ⟨rfl, rfl⟩ := U1
 have X1 := FX1 [] (Or.inl rfl) all0
 show oGoes pp ee bb ss Z T1 (mkF mm 6 _ []) _ _ _ _
 refine o_aloadN K X1 d40_6 rfl rfl rfl ?_
 refine o_iloadN K X1 d40_7 rfl rfl ?_
 refine o_baload K X1 q0 (by decide) (v := (.int (nar .byte c3))) rfl d40_8 rfl ?_
 refine o_sipush K X1 d40_9 rfl (z := 255) rfl ?_
 refine o_iand K X1 d40_12 rfl (z := c3) (oBack q1) ?_
 refine o_i2c K X1 d40_13 rfl (z := c3) (oChN q1) ?_
 refine o_ireturnN K X1 .char d40_14 rfl (by simp) (z' := c3) (oChN q1) ?_ (by decide) (by decide) (by decide)
 exact ⟨rfl, rfl, (oChN q1)⟩
def r_char3 : Room := { frames := 3, cells := 0, slots := 0, locals := 40 }
def Q_char3 (Z : State) (a va : Addr) (k : ClassId) (c0 c1 c2 c3 c4 c5 c6 : Int32) (fm : Value) (cs : Int32) (h0 : Heap) (v : Option Value) (h : Heap) : Prop := v = some (.int c3) ∧ h0 = h ∧ nar .char c3 = c3
theorem rm_char3 (l : Launch) (Z : State) (a0 : Array Value) (hw : oHw Z a0) (a va : Addr) (k : ClassId) (c0 c1 c2 c3 c4 c5 c6 : Int32) (fm : Value) (cs : Int32) (h0 : Heap) (q0 : Exa Z h0 a z0) (q1 : Fld Z h0 a z0 "value" "[B" (.ref va)) (q2 : Fld Z h0 a z0 "coder" "B" (.int 0)) (q3 : oArr Z h0 va k .byte [(.int (nar .byte c0)), (.int (nar .byte c1)), (.int (nar .byte c2)), (.int (nar .byte c3)), (.int (nar .byte c4)), (.int (nar .byte c5)), (.int (nar .byte c6))]) (q4 : oCh c3) (q5 : Sta Z Z.heap z6 z7 z8 fm) (q6 : fm.isRef = true) (q7 : Sta Z Z.heap z0 z5 "Z" (.int cs)) (q8 : ¬ (cs = (0 : Int32))) : oMet l Z (⟨z0, "charAt", "(I)C"⟩ : MethodName) jdk_42_method_56_code 2 (some .char) r_char3 [] #[.ref a, .int 3] h0 (Q_char3 Z a va k c0 c1 c2 c3 c4 c5 c6 fm cs h0) [] false := by
 refine oEnter (oEW hw) (plainFor_of_name (by first | (simp [plainName, overriddenIn]; done) | decide +kernel)) (own := z0) (nm := "charAt") rfl rfl (L := #[.val (.ref a), .val (.int 3)]) (fun m => by first | (simp [entryFrame, mkF, argsToLocals, Value.category, oCatRef q6]; done) | rfl) ?_
 intro pp ee ss mm bb mtd cc T0 K X0
 have E0 := X0.ext0
 refine o_aloadN K X0 d41_0 rfl rfl rfl ?_
 refine o_virtual K X0   (w80 hw) (w81 hw) (oNF (w83 hw)) (w83 hw) (w82 hw) (w4 hw) (w84 hw) (by decide) q0 (rm_strlat l Z a0 hw a cs h0 q2 q7 q8) all0 (by decide) rfl (argsL := []) rfl (lenOf pd8 rfl) (W := 0) rfl (by decide) (by decide) (by decide) d41_1 rfl ?_
 intro v1 T1 h1 FX1 U1
 obtain ⟨rfl, rfl⟩ := U1
 have X1 := FX1 [] (Or.inl rfl) all0
 show oGoes pp ee bb ss Z T1 (mkF mm 4 _ [.int 1]) _ _ _ _
 refine o_if_eq_f K X1 d41_4 rfl (by decide) ?_
 refine o_aloadN K X1 d41_7 rfl rfl rfl ?_
 refine o_getfield K X1 (host := "") (Or.inl (w29 hw)) Via.refl q1 d41_8 rfl ?_
 intro T2 X2
 refine o_iloadN K X2 d41_11 rfl rfl ?_
 refine o_static K X2  (w85 hw) (w86 hw) (w87 hw) (w88 hw) (by decide) (rm_lchar3 l Z a0 hw va k c0 c1 c2 c3 c4 c5 c6 fm h0 q3 q4 q5 q6) all0 (by decide) rfl (argsL := [.ref va, .int 3]) rfl (lenOf pd22 rfl) (W := 0) rfl (by decide) (by decide) (by decide) d41_12 rfl ?_
 intro v3 T3 h3 FX3 U3
 obtain ⟨rfl, rfl, u3_1⟩ := U3
 have X3 := FX3 [] (Or.inl rfl) all0
 show oGoes pp ee bb ss Z T3 (mkF mm 15 _ [.int c3]) _ _ _ _
 refine o_ireturnN K X3 .char d41_15 rfl (by simp) (z' := c3) u3_1 ?_ (by decide) (by decide) (by decide)
 exact ⟨rfl, rfl, u3_1⟩
def r_pchk4 : Room := { frames := 0, cells := 0, slots := 0, locals := 0 }
def Q_pchk4 (Z : State) (fm : Value) (h0 : Heap) (v : Option Value) (h : Heap) : Prop := v = some (.int 4) ∧ h0 = h
theorem rm_pchk4 (l : Launch) (Z : State) (a0 : Array Value) (hw : oHw Z a0) (fm : Value) (h0 : Heap) (q0 : fm.isRef = true) : oMet l Z (⟨z6, "checkIndex", "(IILjava/util/function/BiFunction;)I"⟩ : MethodName) jdk_41_method_11_code 3 (some .int) r_pchk4 [] #[.int 4, .int 7, fm] h0 (Q_pchk4 Z fm h0) [] false := by
 refine oEnter (oEW hw) (plainFor_of_name (by first | (simp [plainName, overriddenIn]; done) | decide +kernel)) (own := z6) (nm := "checkIndex") rfl rfl (L := #[.val (.int 4), .val (.int 7), .val fm]) (fun m => by first | (simp [entryFrame, mkF, argsToLocals, oCat1, oCat2, oCat3, oCat4, oCatRef q0]; done) | rfl) ?_
 intro pp ee ss mm bb mtd cc T0 K X0
 have E0 := X0.ext0
 refine o_iloadN K X0 d38_0 rfl rfl ?_
 refine o_if_lt_f K X0 d38_1 rfl (by decide) ?_
 refine o_iloadN K X0 d38_4 rfl rfl ?_
 refine o_iloadN K X0 d38_5 rfl rfl ?_
 refine o_icmp_lt_t K X0 d38_6 (by decide) (pc' := 16) (by decide) (by decide) ?_
 refine o_iloadN K X0 d38_16 rfl rfl ?_
 refine o_ireturn K X0 d38_17 rfl ?_ (by decide) (by decide) (by decide)
 exact ⟨rfl, rfl⟩
def r_schk4 : Room := { frames := 1, cells := 0, slots := 0, locals := 14 }
def Q_schk4 (Z : State) (fm : Value) (h0 : Heap) (v : Option Value) (h : Heap) : Prop := v = none ∧ h0 = h
theorem rm_schk4 (l : Launch) (Z : State) (a0 : Array Value) (hw : oHw Z a0) (fm : Value) (h0 : Heap) (q0 : Sta Z Z.heap z6 z7 z8 fm) (q1 : fm.isRef = true) : oMet l Z (⟨z0, "checkIndex", "(II)V"⟩ : MethodName) jdk_42_method_155_code 2 none r_schk4 [] #[.int 4, .int 7] h0 (Q_schk4 Z fm h0) [] false := by
 refine oEnter (oEW hw) (plainFor_of_name (by first | (simp [plainName, overriddenIn]; done) | decide +kernel)) (own := z0) (nm := "checkIndex") rfl rfl (L := #[.val (.int 4), .val (.int 7)]) (fun m => by first | (simp [entryFrame, mkF, argsToLocals, Value.category, oCatRef q1]; done) | rfl) ?_
 intro pp ee ss mm bb mtd cc T0 K X0
 have E0 := X0.ext0
 refine o_iloadN K X0 d39_0 rfl rfl ?_
 refine o_iloadN K X0 d39_1 rfl rfl ?_
 refine o_getstatic K X0 (host := "") (Or.inl (w92 hw)) Via.refl (q0.ext X0.ext0) d39_2 rfl ?_
 intro T1 X1
 refine o_static K X1  (w94 hw) (w95 hw) (w93 hw) (w96 hw) (by decide) (rm_pchk4 l Z a0 hw fm h0 q1) all0 (by decide) rfl (argsL := [.int 4, .int 7, fm]) rfl (lenOf pd21 rfl) (W := 0) rfl (by decide) (by decide) (by decide) d39_5 rfl ?_
 intro v2 T2 h2 FX2 U2
 obtain ⟨rfl, rfl⟩ := U2
 have X2 := FX2 [] (Or.inl rfl) all0
 show oGoes pp ee bb ss Z T2 (mkF mm 8 _ [.int 4]) _ _ _ _
 refine o_pop K X2 d39_8 rfl rfl ?_
 refine o_return K X2 d39_9 rfl ?_ (by decide) (by decide) (by decide)
 exact ⟨rfl, rfl⟩
def r_lchar4 : Room := { frames := 2, cells := 0, slots := 0, locals := 27 }
def Q_lchar4 (Z : State) (va : Addr) (k : ClassId) (c0 c1 c2 c3 c4 c5 c6 : Int32) (fm : Value) (h0 : Heap) (v : Option Value) (h : Heap) : Prop := v = some (.int c4) ∧ h0 = h ∧ nar .char c4 = c4
theorem rm_lchar4 (l : Launch) (Z : State) (a0 : Array Value) (hw : oHw Z a0) (va : Addr) (k : ClassId) (c0 c1 c2 c3 c4 c5 c6 : Int32) (fm : Value) (h0 : Heap) (q0 : oArr Z h0 va k .byte [(.int (nar .byte c0)), (.int (nar .byte c1)), (.int (nar .byte c2)), (.int (nar .byte c3)), (.int (nar .byte c4)), (.int (nar .byte c5)), (.int (nar .byte c6))]) (q1 : oCh c4) (q2 : Sta Z Z.heap z6 z7 z8 fm) (q3 : fm.isRef = true) : oMet l Z (⟨z9, "charAt", "([BI)C"⟩ : MethodName) jdk_43_method_2_code 2 (some .char) r_lchar4 [] #[.ref va, .int 4] h0 (Q_lchar4 Z va k c0 c1 c2 c3 c4 c5 c6 fm h0) [] false := by
 refine oEnter (oEW hw) (plainFor_of_name (by first | (simp [plainName, overriddenIn]; done) | decide +kernel)) (own := z9) (nm := "charAt") rfl rfl (L := #[.val (.ref va), .val (.int 4)]) (fun m => by first | (simp [entryFrame, mkF, argsToLocals, Value.category, oCatRef q3]; done) | rfl) ?_
 intro pp ee ss mm bb mtd cc T0 K X0
 have E0 := X0.ext0
 refine o_iloadN K X0 d40_0 rfl rfl ?_
 refine o_aloadN K X0 d40_1 rfl rfl rfl ?_
 refine o_arraylength K X0 q0 (z := 7) rfl d40_2 rfl ?_
 refine o_static K X0  (w89 hw) (w90 hw) (w4 hw) (w91 hw) (by decide) (rm_schk4 l Z a0 hw fm h0 q2 q3) all0 (by decide) rfl (argsL := [.int 4, .int 7]) rfl (lenOf pd11 rfl) (W := 0) rfl (by decide) (by decide) (by decide) d40_3 rfl ?_
 intro v1 T1 h1 FX1 U1
 obtain ⟨rfl, rfl⟩ := U1
 have X1 := FX1 [] (Or.inl rfl) all0
 show oGoes pp ee bb ss Z T1 (mkF mm 6 _ []) _ _ _ _
 refine o_aloadN K X1 d40_6 rfl rfl rfl ?_
 refine o_iloadN K X1 d40_7 rfl rfl ?_
 refine o_baload K X1 q0 (by decide) (v := (.int (nar .byte c4))) rfl d40_8 rfl ?_
 refine o_sipush K X1 d40_9 rfl (z := 255) rfl ?_
 refine o_iand K X1 d40_12 rfl (z := c4) (oBack q1) ?_
 refine o_i2c K X1 d40_13 rfl (z := c4) (oChN q1) ?_
 refine o_ireturnN K X1 .char d40_14 rfl (by simp) (z' := c4) (oChN q1) ?_ (by decide) (by decide) (by decide)
 exact ⟨rfl, rfl, (oChN q1)⟩
def r_char4 : Room := { frames := 3, cells := 0, slots := 0, locals := 40 }
def Q_char4 (Z : State) (a va : Addr) (k : ClassId) (c0 c1 c2 c3 c4 c5 c6 : Int32) (fm : Value) (cs : Int32) (h0 : Heap) (v : Option Value) (h : Heap) : Prop := v = some (.int c4) ∧ h0 = h ∧ nar .char c4 = c4
theorem rm_char4 (l : Launch) (Z : State) (a0 : Array Value) (hw : oHw Z a0) (a va : Addr) (k : ClassId) (c0 c1 c2 c3 c4 c5 c6 : Int32) (fm : Value) (cs : Int32) (h0 : Heap) (q0 : Exa Z h0 a z0) (q1 : Fld Z h0 a z0 "value" "[B" (.ref va)) (q2 : Fld Z h0 a z0 "coder" "B" (.int 0)) (q3 : oArr Z h0 va k .byte [(.int (nar .byte c0)), (.int (nar .byte c1)), (.int (nar .byte c2)), (.int (nar .byte c3)), (.int (nar .byte c4)), (.int (nar .byte c5)), (.int (nar .byte c6))]) (q4 : oCh c4) (q5 : Sta Z Z.heap z6 z7 z8 fm) (q6 : fm.isRef = true) (q7 : Sta Z Z.heap z0 z5 "Z" (.int cs)) (q8 : ¬ (cs = (0 : Int32))) : oMet l Z (⟨z0, "charAt", "(I)C"⟩ : MethodName) jdk_42_method_56_code 2 (some .char) r_char4 [] #[.ref a, .int 4] h0 (Q_char4 Z a va k c0 c1 c2 c3 c4 c5 c6 fm cs h0) [] false := by
 refine oEnter (oEW hw) (plainFor_of_name (by first | (simp [plainName, overriddenIn]; done) | decide +kernel)) (own := z0) (nm := "charAt") rfl rfl (L := #[.val (.ref a), .val (.int 4)]) (fun m => by first | (simp [entryFrame, mkF, argsToLocals, Value.category, oCatRef q6]; done) | rfl) ?_
 intro pp ee ss mm bb mtd cc T0 K X0
 have E0 := X0.ext0
 refine o_aloadN K X0 d41_0 rfl rfl rfl ?_
 refine o_virtual K X0   (w80 hw) (w81 hw) (oNF (w83 hw)) (w83 hw) (w82 hw) (w4 hw) (w84 hw) (by decide) q0 (rm_strlat l Z a0 hw a cs h0 q2 q7 q8) all0 (by decide) rfl (argsL := []) rfl (lenOf pd8 rfl) (W := 0) rfl (by decide) (by decide) (by decide) d41_1 rfl ?_
 intro v1 T1 h1 FX1 U1
 obtain ⟨rfl, rfl⟩ := U1
 have X1 := FX1 [] (Or.inl rfl) all0
 show oGoes pp ee bb ss Z T1 (mkF mm 4 _ [.int 1]) _ _ _ _
 refine o_if_eq_f K X1 d41_4 rfl (by decide) ?_
 refine o_aloadN K X1 d41_7 rfl rfl rfl ?_
 refine o_getfield K X1 (host := "") (Or.inl (w29 hw)) Via.refl q1 d41_8 rfl ?_
 intro T2 X2
 refine o_iloadN K X2 d41_11 rfl rfl ?_
 refine o_static K X2  (w85 hw) (w86 hw) (w87 hw) (w88 hw) (by decide) (rm_lchar4 l Z a0 hw va k c0 c1 c2 c3 c4 c5 c6 fm h0 q3 q4 q5 q6) all0 (by decide) rfl (argsL := [.ref va, .int 4]) rfl (lenOf pd22 rfl) (W := 0) rfl (by decide) (by decide) (by decide) d41_12 rfl ?_
 intro v3 T3 h3 FX3 U3
 obtain ⟨rfl, rfl, u3_1⟩ := U3
 have X3 := FX3 [] (Or.inl rfl) all0
 show oGoes pp ee bb ss Z T3 (mkF mm 15 _ [.int c4]) _ _ _ _
 refine o_ireturnN K X3 .char d41_15 rfl (by simp) (z' := c4) u3_1 ?_ (by decide) (by decide) (by decide)
 exact ⟨rfl, rfl, u3_1⟩
def r_pchk5 : Room := { frames := 0, cells := 0, slots := 0, locals := 0 }
def Q_pchk5 (Z : State) (fm : Value) (h0 : Heap) (v : Option Value) (h : Heap) : Prop := v = some (.int 5) ∧ h0 = h
theorem rm_pchk5 (l : Launch) (Z : State) (a0 : Array Value) (hw : oHw Z a0) (fm : Value) (h0 : Heap) (q0 : fm.isRef = true) : oMet l Z (⟨z6, "checkIndex", "(IILjava/util/function/BiFunction;)I"⟩ : MethodName) jdk_41_method_11_code 3 (some .int) r_pchk5 [] #[.int 5, .int 7, fm] h0 (Q_pchk5 Z fm h0) [] false := by
 refine oEnter (oEW hw) (plainFor_of_name (by first | (simp [plainName, overriddenIn]; done) | decide +kernel)) (own := z6) (nm := "checkIndex") rfl rfl (L := #[.val (.int 5), .val (.int 7), .val fm]) (fun m => by first | (simp [entryFrame, mkF, argsToLocals, oCat1, oCat2, oCat3, oCat4, oCatRef q0]; done) | rfl) ?_
 intro pp ee ss mm bb mtd cc T0 K X0
 have E0 := X0.ext0
 refine o_iloadN K X0 d38_0 rfl rfl ?_
 refine o_if_lt_f K X0 d38_1 rfl (by decide) ?_
 refine o_iloadN K X0 d38_4 rfl rfl ?_
 refine o_iloadN K X0 d38_5 rfl rfl ?_
 refine o_icmp_lt_t K X0 d38_6 (by decide) (pc' := 16) (by decide) (by decide) ?_
 refine o_iloadN K X0 d38_16 rfl rfl ?_
 refine o_ireturn K X0 d38_17 rfl ?_ (by decide) (by decide) (by decide)
 exact ⟨rfl, rfl⟩
def r_schk5 : Room := { frames := 1, cells := 0, slots := 0, locals := 14 }
def Q_schk5 (Z : State) (fm : Value) (h0 : Heap) (v : Option Value) (h : Heap) : Prop := v = none ∧ h0 = h
theorem rm_schk5 (l : Launch) (Z : State) (a0 : Array Value) (hw : oHw Z a0) (fm : Value) (h0 : Heap) (q0 : Sta Z Z.heap z6 z7 z8 fm) (q1 : fm.isRef = true) : oMet l Z (⟨z0, "checkIndex", "(II)V"⟩ : MethodName) jdk_42_method_155_code 2 none r_schk5 [] #[.int 5, .int 7] h0 (Q_schk5 Z fm h0) [] false := by
 refine oEnter (oEW hw) (plainFor_of_name (by first | (simp [plainName, overriddenIn]; done) | decide +kernel)) (own := z0) (nm := "checkIndex") rfl rfl (L := #[.val (.int 5), .val (.int 7)]) (fun m => by first | (simp [entryFrame, mkF, argsToLocals, Value.category, oCatRef q1]; done) | rfl) ?_
 intro pp ee ss mm bb mtd cc T0 K X0
 have E0 := X0.ext0
 refine o_iloadN K X0 d39_0 rfl rfl ?_
 refine o_iloadN K X0 d39_1 rfl rfl ?_
 refine o_getstatic K X0 (host := "") (Or.inl (w92 hw)) Via.refl (q0.ext X0.ext0) d39_2 rfl ?_
 intro T1 X1
 refine o_static K X1  (w94 hw) (w95 hw) (w93 hw) (w96 hw) (by decide) (rm_pchk5 l Z a0 hw fm h0 q1) all0 (by decide) rfl (argsL := [.int 5, .int 7, fm]) rfl (lenOf pd21 rfl) (W := 0) rfl (by decide) (by decide) (by decide) d39_5 rfl ?_
 intro v2 T2 h2 FX2 U2
 obtain ⟨rfl, rfl⟩ := U2
 have X2 := FX2 [] (Or.inl rfl) all0
 show oGoes pp ee bb ss Z T2 (mkF mm 8 _ [.int 5]) _ _ _ _
 refine o_pop K X2 d39_8 rfl rfl ?_
 refine o_return K X2 d39_9 rfl ?_ (by decide) (by decide) (by decide)
 exact ⟨rfl, rfl⟩
def r_lchar5 : Room := { frames := 2, cells := 0, slots := 0, locals := 27 }
def Q_lchar5 (Z : State) (va : Addr) (k : ClassId) (c0 c1 c2 c3 c4 c5 c6 : Int32) (fm : Value) (h0 : Heap) (v : Option Value) (h : Heap) : Prop := v = some (.int c5) ∧ h0 = h ∧ nar .char c5 = c5
theorem rm_lchar5 (l : Launch) (Z : State) (a0 : Array Value) (hw : oHw Z a0) (va : Addr) (k : ClassId) (c0 c1 c2 c3 c4 c5 c6 : Int32) (fm : Value) (h0 : Heap) (q0 : oArr Z h0 va k .byte [(.int (nar .byte c0)), (.int (nar .byte c1)), (.int (nar .byte c2)), (.int (nar .byte c3)), (.int (nar .byte c4)), (.int (nar .byte c5)), (.int (nar .byte c6))]) (q1 : oCh c5) (q2 : Sta Z Z.heap z6 z7 z8 fm) (q3 : fm.isRef = true) : oMet l Z (⟨z9, "charAt", "([BI)C"⟩ : MethodName) jdk_43_method_2_code 2 (some .char) r_lchar5 [] #[.ref va, .int 5] h0 (Q_lchar5 Z va k c0 c1 c2 c3 c4 c5 c6 fm h0) [] false := by
 refine oEnter (oEW hw) (plainFor_of_name (by first | (simp [plainName, overriddenIn]; done) | decide +kernel)) (own := z9) (nm := "charAt") rfl rfl (L := #[.val (.ref va), .val (.int 5)]) (fun m => by first | (simp [entryFrame, mkF, argsToLocals, Value.category, oCatRef q3]; done) | rfl) ?_
 intro pp ee ss mm bb mtd cc T0 K X0
 have E0 := X0.ext0
 refine o_iloadN K X0 d40_0 rfl rfl ?_
 refine o_aloadN K X0 d40_1 rfl rfl rfl ?_
 refine o_arraylength K X0 q0 (z := 7) rfl d40_2 rfl ?_
 refine o_static K X0  (w89 hw) (w90 hw) (w4 hw) (w91 hw) (by decide) (rm_schk5 l Z a0 hw fm h0 q2 q3) all0 (by decide) rfl (argsL := [.int 5, .int 7]) rfl (lenOf pd11 rfl) (W := 0) rfl (by decide) (by decide) (by decide) d40_3 rfl ?_
 intro v1 T1 h1 FX1 U1
 obtain ⟨rfl, rfl⟩ := U1
 have X1 := FX1 [] (Or.inl rfl) all0
 show oGoes pp ee bb ss Z T1 (mkF mm 6 _ []) _ _ _ _
 refine o_aloadN K X1 d40_6 rfl rfl rfl ?_
 refine o_iloadN K X1 d40_7 rfl rfl ?_
 refine o_baload K X1 q0 (by decide) (v := (.int (nar .byte c5))) rfl d40_8 rfl ?_
 refine o_sipush K X1 d40_9 rfl (z := 255) rfl ?_
 refine o_iand K X1 d40_12 rfl (z := c5) (oBack q1) ?_
 refine o_i2c K X1 d40_13 rfl (z := c5) (oChN q1) ?_
 refine o_ireturnN K X1 .char d40_14 rfl (by simp) (z' := c5) (oChN q1) ?_ (by decide) (by decide) (by decide)
 exact ⟨rfl, rfl, (oChN q1)⟩
def r_char5 : Room := { frames := 3, cells := 0, slots := 0, locals := 40 }
def Q_char5 (Z : State) (a va : Addr) (k : ClassId) (c0 c1 c2 c3 c4 c5 c6 : Int32) (fm : Value) (cs : Int32) (h0 : Heap) (v : Option Value) (h : Heap) : Prop := v = some (.int c5) ∧ h0 = h ∧ nar .char c5 = c5
theorem rm_char5 (l : Launch) (Z : State) (a0 : Array Value) (hw : oHw Z a0) (a va : Addr) (k : ClassId) (c0 c1 c2 c3 c4 c5 c6 : Int32) (fm : Value) (cs : Int32) (h0 : Heap) (q0 : Exa Z h0 a z0) (q1 : Fld Z h0 a z0 "value" "[B" (.ref va)) (q2 : Fld Z h0 a z0 "coder" "B" (.int 0)) (q3 : oArr Z h0 va k .byte [(.int (nar .byte c0)), (.int (nar .byte c1)), (.int (nar .byte c2)), (.int (nar .byte c3)), (.int (nar .byte c4)), (.int (nar .byte c5)), (.int (nar .byte c6))]) (q4 : oCh c5) (q5 : Sta Z Z.heap z6 z7 z8 fm) (q6 : fm.isRef = true) (q7 : Sta Z Z.heap z0 z5 "Z" (.int cs)) (q8 : ¬ (cs = (0 : Int32))) : oMet l Z (⟨z0, "charAt", "(I)C"⟩ : MethodName) jdk_42_method_56_code 2 (some .char) r_char5 [] #[.ref a, .int 5] h0 (Q_char5 Z a va k c0 c1 c2 c3 c4 c5 c6 fm cs h0) [] false := by
 refine oEnter (oEW hw) (plainFor_of_name (by first | (simp [plainName, overriddenIn]; done) | decide +kernel)) (own := z0) (nm := "charAt") rfl rfl (L := #[.val (.ref a), .val (.int 5)]) (fun m => by first | (simp [entryFrame, mkF, argsToLocals, Value.category, oCatRef q6]; done) | rfl) ?_
 intro pp ee ss mm bb mtd cc T0 K X0
 have E0 := X0.ext0
 refine o_aloadN K X0 d41_0 rfl rfl rfl ?_
 refine o_virtual K X0   (w80 hw) (w81 hw) (oNF (w83 hw)) (w83 hw) (w82 hw) (w4 hw) (w84 hw) (by decide) q0 (rm_strlat l Z a0 hw a cs h0 q2 q7 q8) all0 (by decide) rfl (argsL := []) rfl (lenOf pd8 rfl) (W := 0) rfl (by decide) (by decide) (by decide) d41_1 rfl ?_
 intro v1 T1 h1 FX1 U1
 obtain ⟨rfl, rfl⟩ := U1
 have X1 := FX1 [] (Or.inl rfl) all0
 show oGoes pp ee bb ss Z T1 (mkF mm 4 _ [.int 1]) _ _ _ _
 refine o_if_eq_f K X1 d41_4 rfl (by decide) ?_
 refine o_aloadN K X1 d41_7 rfl rfl rfl ?_
 refine o_getfield K X1 (host := "") (Or.inl (w29 hw)) Via.refl q1 d41_8 rfl ?_
 intro T2 X2
 refine o_iloadN K X2 d41_11 rfl rfl ?_
 refine o_static K X2  (w85 hw) (w86 hw) (w87 hw) (w88 hw) (by decide) (rm_lchar5 l Z a0 hw va k c0 c1 c2 c3 c4 c5 c6 fm h0 q3 q4 q5 q6) all0 (by decide) rfl (argsL := [.ref va, .int 5]) rfl (lenOf pd22 rfl) (W := 0) rfl (by decide) (by decide) (by decide) d41_12 rfl ?_
 intro v3 T3 h3 FX3 U3
 obtain ⟨rfl, rfl, u3_1⟩ := U3
 have X3 := FX3 [] (Or.inl rfl) all0
 show oGoes pp ee bb ss Z T3 (mkF mm 15 _ [.int c5]) _ _ _ _
 refine o_ireturnN K X3 .char d41_15 rfl (by simp) (z' := c5) u3_1 ?_ (by decide) (by decide) (by decide)
 exact ⟨rfl, rfl, u3_1⟩
def r_pchk6 : Room := { frames := 0, cells := 0, slots := 0, locals := 0 }
def Q_pchk6 (Z : State) (fm : Value) (h0 : Heap) (v : Option Value) (h : Heap) : Prop := v = some (.int 6) ∧ h0 = h
theorem rm_pchk6 (l : Launch) (Z : State) (a0 : Array Value) (hw : oHw Z a0) (fm : Value) (h0 : Heap) (q0 : fm.isRef = true) : oMet l Z (⟨z6, "checkIndex", "(IILjava/util/function/BiFunction;)I"⟩ : MethodName) jdk_41_method_11_code 3 (some .int) r_pchk6 [] #[.int 6, .int 7, fm] h0 (Q_pchk6 Z fm h0) [] false := by
 refine oEnter (oEW hw) (plainFor_of_name (by first | (simp [plainName, overriddenIn]; done) | decide +kernel)) (own := z6) (nm := "checkIndex") rfl rfl (L := #[.val (.int 6), .val (.int 7), .val fm]) (fun m => by first | (simp [entryFrame, mkF, argsToLocals, oCat1, oCat2, oCat3, oCat4, oCatRef q0]; done) | rfl) ?_
 intro pp ee ss mm bb mtd cc T0 K X0
 have E0 := X0.ext0
 refine o_iloadN K X0 d38_0 rfl rfl ?_
 refine o_if_lt_f K X0 d38_1 rfl (by decide) ?_
 refine o_iloadN K X0 d38_4 rfl rfl ?_
 refine o_iloadN K X0 d38_5 rfl rfl ?_
 refine o_icmp_lt_t K X0 d38_6 (by decide) (pc' := 16) (by decide) (by decide) ?_
 refine o_iloadN K X0 d38_16 rfl rfl ?_
 refine o_ireturn K X0 d38_17 rfl ?_ (by decide) (by decide) (by decide)
 exact ⟨rfl, rfl⟩
def r_schk6 : Room := { frames := 1, cells := 0, slots := 0, locals := 14 }
def Q_schk6 (Z : State) (fm : Value) (h0 : Heap) (v : Option Value) (h : Heap) : Prop := v = none ∧ h0 = h
theorem rm_schk6 (l : Launch) (Z : State) (a0 : Array Value) (hw : oHw Z a0) (fm : Value) (h0 : Heap) (q0 : Sta Z Z.heap z6 z7 z8 fm) (q1 : fm.isRef = true) : oMet l Z (⟨z0, "checkIndex", "(II)V"⟩ : MethodName) jdk_42_method_155_code 2 none r_schk6 [] #[.int 6, .int 7] h0 (Q_schk6 Z fm h0) [] false := by
 refine oEnter (oEW hw) (plainFor_of_name (by first | (simp [plainName, overriddenIn]; done) | decide +kernel)) (own := z0) (nm := "checkIndex") rfl rfl (L := #[.val (.int 6), .val (.int 7)]) (fun m => by first | (simp [entryFrame, mkF, argsToLocals, Value.category, oCatRef q1]; done) | rfl) ?_
 intro pp ee ss mm bb mtd cc T0 K X0
 have E0 := X0.ext0
 refine o_iloadN K X0 d39_0 rfl rfl ?_
 refine o_iloadN K X0 d39_1 rfl rfl ?_
 refine o_getstatic K X0 (host := "") (Or.inl (w92 hw)) Via.refl (q0.ext X0.ext0) d39_2 rfl ?_
 intro T1 X1
 refine o_static K X1  (w94 hw) (w95 hw) (w93 hw) (w96 hw) (by decide) (rm_pchk6 l Z a0 hw fm h0 q1) all0 (by decide) rfl (argsL := [.int 6, .int 7, fm]) rfl (lenOf pd21 rfl) (W := 0) rfl (by decide) (by decide) (by decide) d39_5 rfl ?_
 intro v2 T2 h2 FX2 U2
 obtain ⟨rfl, rfl⟩ := U2
 have X2 := FX2 [] (Or.inl rfl) all0
 show oGoes pp ee bb ss Z T2 (mkF mm 8 _ [.int 6]) _ _ _ _
 refine o_pop K X2 d39_8 rfl rfl ?_
 refine o_return K X2 d39_9 rfl ?_ (by decide) (by decide) (by decide)
 exact ⟨rfl, rfl⟩
def r_lchar6 : Room := { frames := 2, cells := 0, slots := 0, locals := 27 }
def Q_lchar6 (Z : State) (va : Addr) (k : ClassId) (c0 c1 c2 c3 c4 c5 c6 : Int32) (fm : Value) (h0 : Heap) (v : Option Value) (h : Heap) : Prop := v = some (.int c6) ∧ h0 = h ∧ nar .char c6 = c6
theorem rm_lchar6 (l : Launch) (Z : State) (a0 : Array Value) (hw : oHw Z a0) (va : Addr) (k : ClassId) (c0 c1 c2 c3 c4 c5 c6 : Int32) (fm : Value) (h0 : Heap) (q0 : oArr Z h0 va k .byte [(.int (nar .byte c0)), (.int (nar .byte c1)), (.int (nar .byte c2)), (.int (nar .byte c3)), (.int (nar .byte c4)), (.int (nar .byte c5)), (.int (nar .byte c6))]) (q1 : oCh c6) (q2 : Sta Z Z.heap z6 z7 z8 fm) (q3 : fm.isRef = true) : oMet l Z (⟨z9, "charAt", "([BI)C"⟩ : MethodName) jdk_43_method_2_code 2 (some .char) r_lchar6 [] #[.ref va, .int 6] h0 (Q_lchar6 Z va k c0 c1 c2 c3 c4 c5 c6 fm h0) [] false := by
 refine oEnter (oEW hw) (plainFor_of_name (by first | (simp [plainName, overriddenIn]; done) | decide +kernel)) (own := z9) (nm := "charAt") rfl rfl (L := #[.val (.ref va), .val (.int 6)]) (fun m => by first | (simp [entryFrame, mkF, argsToLocals, Value.category, oCatRef q3]; done) | rfl) ?_
 intro pp ee ss mm bb mtd cc T0 K X0
 have E0 := X0.ext0
 refine o_iloadN K X0 d40_0 rfl rfl ?_
 refine o_aloadN K X0 d40_1 rfl rfl rfl ?_
 refine o_arraylength K X0 q0 (z := 7) rfl d40_2 rfl ?_
 refine o_static K X0  (w89 hw) (w90 hw) (w4 hw) (w91 hw) (by decide) (rm_schk6 l Z a0 hw fm h0 q2 q3) all0 (by decide) rfl (argsL := [.int 6, .int 7]) rfl (lenOf pd11 rfl) (W := 0) rfl (by decide) (by decide) (by decide) d40_3 rfl ?_
 intro v1 T1 h1 FX1 U1
 obtain ⟨rfl, rfl⟩ := U1
 have X1 := FX1 [] (Or.inl rfl) all0
 show oGoes pp ee bb ss Z T1 (mkF mm 6 _ []) _ _ _ _
 refine o_aloadN K X1 d40_6 rfl rfl rfl ?_
 refine o_iloadN K X1 d40_7 rfl rfl ?_
 refine o_baload K X1 q0 (by decide) (v := (.int (nar .byte c6))) rfl d40_8 rfl ?_
 refine o_sipush K X1 d40_9 rfl (z := 255) rfl ?_
 refine o_iand K X1 d40_12 rfl (z := c6) (oBack q1) ?_
 refine o_i2c K X1 d40_13 rfl (z := c6) (oChN q1) ?_
 refine o_ireturnN K X1 .char d40_14 rfl (by simp) (z' := c6) (oChN q1) ?_ (by decide) (by decide) (by decide)
 exact ⟨rfl, rfl, (oChN q1)⟩
def r_char6 : Room := { frames := 3, cells := 0, slots := 0, locals := 40 }
def Q_char6 (Z : State) (a va : Addr) (k : ClassId) (c0 c1 c2 c3 c4 c5 c6 : Int32) (fm : Value) (cs : Int32) (h0 : Heap) (v : Option Value) (h : Heap) : Prop := v = some (.int c6) ∧ h0 = h ∧ nar .char c6 = c6
theorem rm_char6 (l : Launch) (Z : State) (a0 : Array Value) (hw : oHw Z a0) (a va : Addr) (k : ClassId) (c0 c1 c2 c3 c4 c5 c6 : Int32) (fm : Value) (cs : Int32) (h0 : Heap) (q0 : Exa Z h0 a z0) (q1 : Fld Z h0 a z0 "value" "[B" (.ref va)) (q2 : Fld Z h0 a z0 "coder" "B" (.int 0)) (q3 : oArr Z h0 va k .byte [(.int (nar .byte c0)), (.int (nar .byte c1)), (.int (nar .byte c2)), (.int (nar .byte c3)), (.int (nar .byte c4)), (.int (nar .byte c5)), (.int (nar .byte c6))]) (q4 : oCh c6) (q5 : Sta Z Z.heap z6 z7 z8 fm) (q6 : fm.isRef = true) (q7 : Sta Z Z.heap z0 z5 "Z" (.int cs)) (q8 : ¬ (cs = (0 : Int32))) : oMet l Z (⟨z0, "charAt", "(I)C"⟩ : MethodName) jdk_42_method_56_code 2 (some .char) r_char6 [] #[.ref a, .int 6] h0 (Q_char6 Z a va k c0 c1 c2 c3 c4 c5 c6 fm cs h0) [] false := by
 refine oEnter (oEW hw) (plainFor_of_name (by first | (simp [plainName, overriddenIn]; done) | decide +kernel)) (own := z0) (nm := "charAt") rfl rfl (L := #[.val (.ref a), .val (.int 6)]) (fun m => by first | (simp [entryFrame, mkF, argsToLocals, Value.category, oCatRef q6]; done) | rfl) ?_
 intro pp ee ss mm bb mtd cc T0 K X0
 have E0 := X0.ext0
 refine o_aloadN K X0 d41_0 rfl rfl rfl ?_
 refine o_virtual K X0   (w80 hw) (w81 hw) (oNF (w83 hw)) (w83 hw) (w82 hw) (w4 hw) (w84 hw) (by decide) q0 (rm_strlat l Z a0 hw a cs h0 q2 q7 q8) all0 (by decide) rfl (argsL := []) rfl (lenOf pd8 rfl) (W := 0) rfl (by decide) (by decide) (by decide) d41_1 rfl ?_
 intro v1 T1 h1 FX1 U1
 obtain ⟨rfl, rfl⟩ := U1
 have X1 := FX1 [] (Or.inl rfl) all0
 show oGoes pp ee bb ss Z T1 (mkF mm 4 _ [.int 1]) _ _ _ _
 refine o_if_eq_f K X1 d41_4 rfl (by decide) ?_
 refine o_aloadN K X1 d41_7 rfl rfl rfl ?_
 refine o_getfield K X1 (host := "") (Or.inl (w29 hw)) Via.refl q1 d41_8 rfl ?_
 intro T2 X2
 refine o_iloadN K X2 d41_11 rfl rfl ?_
 refine o_static K X2  (w85 hw) (w86 hw) (w87 hw) (w88 hw) (by decide) (rm_lchar6 l Z a0 hw va k c0 c1 c2 c3 c4 c5 c6 fm h0 q3 q4 q5 q6) all0 (by decide) rfl (argsL := [.ref va, .int 6]) rfl (lenOf pd22 rfl) (W := 0) rfl (by decide) (by decide) (by decide) d41_12 rfl ?_
 intro v3 T3 h3 FX3 U3
 obtain ⟨rfl, rfl, u3_1⟩ := U3
 have X3 := FX3 [] (Or.inl rfl) all0
 show oGoes pp ee bb ss Z T3 (mkF mm 15 _ [.int c6]) _ _ _ _
 refine o_ireturnN K X3 .char d41_15 rfl (by simp) (z' := c6) u3_1 ?_ (by decide) (by decide) (by decide)
 exact ⟨rfl, rfl, u3_1⟩
def r_read : Room := { frames := 6, cells := 8, slots := 49, locals := 93 }
theorem d42_82 : decode prog_30_method_2_code 82 = .ok (.new 8, 3) := by decide +kernel
theorem d42_85 : decode prog_30_method_2_code 85 = .ok (.dup, 1) := by decide +kernel
theorem d42_86 : decode prog_30_method_2_code 86 = .ok (.aload_n 2, 1) := by decide +kernel
theorem d42_87 : decode prog_30_method_2_code 87 = .ok (.invokevirtual 34, 3) := by decide +kernel
theorem d42_90 : decode prog_30_method_2_code 90 = .ok (.iload_n 3, 1) := by decide +kernel
theorem d42_91 : decode prog_30_method_2_code 91 = .ok (.iconst 1, 1) := by decide +kernel
theorem d42_92 : decode prog_30_method_2_code 92 = .ok (.iadd, 1) := by decide +kernel
theorem d42_93 : decode prog_30_method_2_code 93 = .ok (.invokespecial 38, 3) := by decide +kernel
theorem d42_96 : decode prog_30_method_2_code 96 = .ok (.invokestatic 41, 3) := by decide +kernel
theorem d42_99 : decode prog_30_method_2_code 99 = .ok (.areturn, 1) := by decide +kernel
theorem pd23 : parseMethodDescriptor "()Ljava/lang/String;" = some ⟨[], some (.object z0)⟩ := by decide +kernel
theorem pd24 : parseMethodDescriptor "(Ljava/lang/String;I)V" = some ⟨[(.object z0), .int], none⟩ := by decide +kernel
theorem pd25 : parseMethodDescriptor "(Ljava/lang/Object;)Ljava/util/Optional;" = some ⟨[(.object "java/lang/Object")], some (.object z3)⟩ := by decide +kernel
def Q_rd0 (Z : State) (a : Addr) (st : Int32) (b : Addr) (i c e : Int32) (va : Addr) (k : ClassId) (cs : Int32) (h0 : Heap) (v : Option Value) (h : Heap) : Prop := ∃ r qt s sv : Addr, ∃ ks : ClassId, v = some (.ref r) ∧ Keep h0 h [] ∧ h0.size ≤ r ∧ Exa Z h r z3 ∧ Fld Z h r z3 "value" z11 (.ref qt) ∧ Exa Z h qt z2 ∧ Fld Z h qt z2 "value" z13 (.ref s) ∧ Fld Z h qt z2 "end" "I" (.int e) ∧ h0.size ≤ s ∧ Exa Z h s z0 ∧ Fld Z h s z0 "value" "[B" (.ref sv) ∧ Fld Z h s z0 "coder" "B" (.int 0) ∧ oArr Z h sv ks .byte []
theorem tl_rd0 (l : Launch) (Z : State) (a0 : Array Value) (hw : oHw Z a0) (a : Addr) (st : Int32) (b : Addr) (i c e : Int32) (va : Addr) (k : ClassId) (cs : Int32) (h0 : Heap) (q0 : Exa Z h0 b z4) (q1 : Fld Z h0 b z1 "value" "[B" (.ref va)) (q2 : Fld Z h0 b z1 "coder" "B" (.int 0)) (q3 : Fld Z h0 b z1 "count" "I" (.int 0)) (q4 : oArr Z h0 va k .byte [.int 0, .int 0, .int 0, .int 0, .int 0, .int 0, .int 0, .int 0, .int 0, .int 0, .int 0, .int 0, .int 0, .int 0, .int 0, .int 0]) (q5 : Sta Z Z.heap z0 z5 "Z" (.int cs)) (q6 : ¬ (cs = (0 : Int32))) (q7 : (i + (1 : Int32)) = e) {Q : Option Value → Heap → Prop} (hQ : ∀ v h, Q_rd0 Z a st b i c e va k cs h0 v h → Q v h) {pp : Program} {ee : Env} {ss : State} {mm : MethodId} {bb : List Frame} {mtd : Method} {cc : Code} {A : Array Value} {T0 : State} (K : oCtx pp ss mm mtd cc Z z2 prog_30_method_2_code 5 "read" (some (.object z3)) (⟨z2, "read", z12⟩ : MethodName)) (X0 : oSt pp l ee r_read ss mm A bb mtd cc Z T0 h0 4 40 [] false) : oGoes pp ee bb ss Z T0 (mkF mm 82 #[vR a, vI st, vR b, vI i, vI c] []) Q r_read.cells r_read.slots false := by
 have E0 := X0.ext0
 refine o_new K X0 (w122 hw) (w123 hw) (w33 hw) d42_82 rfl (by decide) (by decide) ?_
 intro T1 h1 b1 X1 g1 E1 A1 D1 G1
 have F1_value : Fld Z h1 b1 z2 "value" z13 .null := (D1 (Or.inr (w178 hw)) (ty := (.object z0)) (by decide))
 have F1_end : Fld Z h1 b1 z2 "end" "I" (.int 0) := (D1 (Or.inr (w180 hw)) (ty := .int) (by decide))
 refine o_dup K X1 d42_85 rfl rfl ?_
 refine o_aloadN K X1 d42_86 rfl rfl rfl ?_
 have m2 := (q0.ext E1)
 have m3 := (q1.ext E1)
 have m4 := (q2.ext E1)
 have m5 := (q3.ext E1)
 have m6 := (q4.ext E1)
 refine o_virtual K X1   (w124 hw) (w125 hw) (oNF (w127 hw)) (w127 hw) (w126 hw) (w37 hw) (w128 hw) (by decide) m2 (rm_tostr0 l Z a0 hw b va k cs h1 m2 m3 m4 m5 m6 q5 q6) all0 (by decide) rfl (argsL := []) rfl (lenOf pd23 rfl) (W := 2) rfl (by decide) (by decide) (by decide) d42_87 rfl ?_
 intro v7 T7 h7 FX7 U7
 obtain ⟨s_7, r_7, kr_7, rfl, u7_0, u7_1, u7_2, u7_3, u7_4, u7_5, u7_6⟩ := U7
 have G7_s : Z.heap.size ≤ s_7 := Nat.le_trans X1.ext0.1 u7_1
 have G7_r : Z.heap.size ≤ r_7 := Nat.le_trans X1.ext0.1 u7_2
 have X7 := FX7 [s_7, r_7] (Or.inl rfl) (allS ⟨u7_1, u7_3.lt⟩ (allS ⟨u7_2, u7_6.lt⟩ all0))
 show oGoes pp ee bb ss Z T7 (mkF mm 90 _ [.ref s_7, .ref b1, .ref b1]) _ _ _ _
 refine o_iloadN K X7 d42_90 rfl rfl ?_
 refine o_iconst K X7 d42_91 rfl (z := 1) rfl ?_
 refine o_iadd K X7 d42_92 rfl (z := e) q7 ?_
 have m8 := (A1.keep u7_0)
 have m9 := (F1_value.keep u7_0 nin0)
 have m10 := (F1_end.keep u7_0 nin0)
 refine o_special K X7 (y := (⟨z2, "<init>", "(Ljava/lang/String;I)V"⟩ : MethodName)) rfl (w168 hw) (w169 hw) (w33 hw) (w170 hw) (by decide) (rm_qtinit l Z a0 hw b1 s_7 e h7 m8 m9 m10 G1) (allS me2 all0) (by decide) rfl (argsL := [.ref s_7, .int e]) rfl (lenOf pd24 rfl) (W := 1) rfl (by decide) (by decide) (by decide) d42_93 rfl ?_
 intro v11 T11 h11 FX11 U11
 obtain ⟨rfl, u11_0, u11_1, u11_2, u11_3⟩ := U11
 have X11 := FX11 [] (Or.inl rfl) all0
 show oGoes pp ee bb ss Z T11 (mkF mm 96 _ [.ref b1]) _ _ _ _
 refine o_static K X11  (w181 hw) (w182 hw) (w65 hw) (w183 hw) (by decide) (rm_optof l Z a0 hw b1 h11) all0 (by decide) rfl (argsL := [.ref b1]) rfl (lenOf pd25 rfl) (W := 0) rfl (by decide) (by decide) (by decide) d42_96 rfl ?_
 intro v12 T12 h12 FX12 U12
 obtain ⟨r_12, rfl, u12_0, u12_1, u12_2, u12_3⟩ := U12
 have G12_r : Z.heap.size ≤ r_12 := Nat.le_trans X11.ext0.1 u12_1
 have X12 := FX12 [r_12] (Or.inl rfl) (allS ⟨u12_1, u12_2.lt⟩ all0)
 show oGoes pp ee bb ss Z T12 (mkF mm 99 _ [.ref r_12]) _ _ _ _
 refine o_areturn K X12 (t := (.object z3)) d42_99 rfl rfl rfl ?_ (by decide) (by decide) (by decide)
 have y0_3 := Nat.le_trans (Nat.le_trans E1.1 u7_0.1) u11_0.1
 have m13 := (u11_1.keep u12_0)
 have m14 := (u11_2.keep u12_0 nin0)
 have m15 := (u11_3.keep u12_0 nin0)
 have m16 := ((u7_3.keep u11_0).keep u12_0)
 have n17 := oLsz A1.lt u7_1
 have m18 := ((u7_4.keep u11_0 (ninS n17 nin0)).keep u12_0 nin0)
 have m19 := ((u7_5.keep u11_0 (ninS n17 nin0)).keep u12_0 nin0)
 have n20 := oLsz A1.lt u7_2
 have m21 := ((u7_6.keep u11_0 (ninS n20 nin0)).keep u12_0 nin0)
 exact hQ _ _ ⟨r_12, b1, s_7, r_7, kr_7, rfl, (((((Keep.refl h0 []).ext E1).trans u7_0 all0).trans u11_0 (allS (Or.inr (oLe g1)) all0)).trans u12_0 all0), (Nat.le_trans y0_3 u12_1), u12_2, u12_3, m13, m14, m15, (Nat.le_trans E1.1 u7_1), m16, m18, m19, m21⟩
def Q_rd1 (Z : State) (a : Addr) (st : Int32) (b : Addr) (i c e : Int32) (va : Addr) (k : ClassId) (w0 cs : Int32) (h0 : Heap) (v : Option Value) (h : Heap) : Prop := ∃ r qt s sv : Addr, ∃ ks : ClassId, v = some (.ref r) ∧ Keep h0 h [] ∧ h0.size ≤ r ∧ Exa Z h r z3 ∧ Fld Z h r z3 "value" z11 (.ref qt) ∧ Exa Z h qt z2 ∧ Fld Z h qt z2 "value" z13 (.ref s) ∧ Fld Z h qt z2 "end" "I" (.int e) ∧ h0.size ≤ s ∧ Exa Z h s z0 ∧ Fld Z h s z0 "value" "[B" (.ref sv) ∧ Fld Z h s z0 "coder" "B" (.int 0) ∧ oArr Z h sv ks .byte [.int w0]
theorem tl_rd1 (l : Launch) (Z : State) (a0 : Array Value) (hw : oHw Z a0) (a : Addr) (st : Int32) (b : Addr) (i c e : Int32) (va : Addr) (k : ClassId) (w0 cs : Int32) (h0 : Heap) (q0 : Exa Z h0 b z4) (q1 : Fld Z h0 b z1 "value" "[B" (.ref va)) (q2 : Fld Z h0 b z1 "coder" "B" (.int 0)) (q3 : Fld Z h0 b z1 "count" "I" (.int 1)) (q4 : oArr Z h0 va k .byte [.int w0, .int 0, .int 0, .int 0, .int 0, .int 0, .int 0, .int 0, .int 0, .int 0, .int 0, .int 0, .int 0, .int 0, .int 0, .int 0]) (q5 : Sta Z Z.heap z0 z5 "Z" (.int cs)) (q6 : ¬ (cs = (0 : Int32))) (q7 : (i + (1 : Int32)) = e) {Q : Option Value → Heap → Prop} (hQ : ∀ v h, Q_rd1 Z a st b i c e va k w0 cs h0 v h → Q v h) {pp : Program} {ee : Env} {ss : State} {mm : MethodId} {bb : List Frame} {mtd : Method} {cc : Code} {A : Array Value} {T0 : State} (K : oCtx pp ss mm mtd cc Z z2 prog_30_method_2_code 5 "read" (some (.object z3)) (⟨z2, "read", z12⟩ : MethodName)) (X0 : oSt pp l ee r_read ss mm A bb mtd cc Z T0 h0 4 40 [] false) : oGoes pp ee bb ss Z T0 (mkF mm 82 #[vR a, vI st, vR b, vI i, vI c] []) Q r_read.cells r_read.slots false := by
 have E0 := X0.ext0
 refine o_new K X0 (w122 hw) (w123 hw) (w33 hw) d42_82 rfl (by decide) (by decide) ?_
 intro T1 h1 b1 X1 g1 E1 A1 D1 G1
 have F1_value : Fld Z h1 b1 z2 "value" z13 .null := (D1 (Or.inr (w178 hw)) (ty := (.object z0)) (by decide))
 have F1_end : Fld Z h1 b1 z2 "end" "I" (.int 0) := (D1 (Or.inr (w180 hw)) (ty := .int) (by decide))
 refine o_dup K X1 d42_85 rfl rfl ?_
 refine o_aloadN K X1 d42_86 rfl rfl rfl ?_
 have m2 := (q0.ext E1)
 have m3 := (q1.ext E1)
 have m4 := (q2.ext E1)
 have m5 := (q3.ext E1)
 have m6 := (q4.ext E1)
 refine o_virtual K X1   (w124 hw) (w125 hw) (oNF (w127 hw)) (w127 hw) (w126 hw) (w37 hw) (w128 hw) (by decide) m2 (rm_tostr1 l Z a0 hw b va k w0 cs h1 m2 m3 m4 m5 m6 q5 q6) all0 (by decide) rfl (argsL := []) rfl (lenOf pd23 rfl) (W := 2) rfl (by decide) (by decide) (by decide) d42_87 rfl ?_
 intro v7 T7 h7 FX7 U7
 obtain ⟨s_7, r_7, kr_7, rfl, u7_0, u7_1, u7_2, u7_3, u7_4, u7_5, u7_6⟩ := U7
 have G7_s : Z.heap.size ≤ s_7 := Nat.le_trans X1.ext0.1 u7_1
 have G7_r : Z.heap.size ≤ r_7 := Nat.le_trans X1.ext0.1 u7_2
 have X7 := FX7 [s_7, r_7] (Or.inl rfl) (allS ⟨u7_1, u7_3.lt⟩ (allS ⟨u7_2, u7_6.lt⟩ all0))
 show oGoes pp ee bb ss Z T7 (mkF mm 90 _ [.ref s_7, .ref b1, .ref b1]) _ _ _ _
 refine o_iloadN K X7 d42_90 rfl rfl ?_
 refine o_iconst K X7 d42_91 rfl (z := 1) rfl ?_
 refine o_iadd K X7 d42_92 rfl (z := e) q7 ?_
 have m8 := (A1.keep u7_0)
 have m9 := (F1_value.keep u7_0 nin0)
 have m10 := (F1_end.keep u7_0 nin0)
 refine o_special K X7 (y := (⟨z2, "<init>", "(Ljava/lang/String;I)V"⟩ : MethodName)) rfl (w168 hw) (w169 hw) (w33 hw) (w170 hw) (by decide) (rm_qtinit l Z a0 hw b1 s_7 e h7 m8 m9 m10 G1) (allS me2 all0) (by decide) rfl (argsL := [.ref s_7, .int e]) rfl (lenOf pd24 rfl) (W := 1) rfl (by decide) (by decide) (by decide) d42_93 rfl ?_
 intro v11 T11 h11 FX11 U11
 obtain ⟨rfl, u11_0, u11_1, u11_2, u11_3⟩ := U11
 have X11 := FX11 [] (Or.inl rfl) all0
 show oGoes pp ee bb ss Z T11 (mkF mm 96 _ [.ref b1]) _ _ _ _
 refine o_static K X11  (w181 hw) (w182 hw) (w65 hw) (w183 hw) (by decide) (rm_optof l Z a0 hw b1 h11) all0 (by decide) rfl (argsL := [.ref b1]) rfl (lenOf pd25 rfl) (W := 0) rfl (by decide) (by decide) (by decide) d42_96 rfl ?_
 intro v12 T12 h12 FX12 U12
 obtain ⟨r_12, rfl, u12_0, u12_1, u12_2, u12_3⟩ := U12
 have G12_r : Z.heap.size ≤ r_12 := Nat.le_trans X11.ext0.1 u12_1
 have X12 := FX12 [r_12] (Or.inl rfl) (allS ⟨u12_1, u12_2.lt⟩ all0)
 show oGoes pp ee bb ss Z T12 (mkF mm 99 _ [.ref r_12]) _ _ _ _
 refine o_areturn K X12 (t := (.object z3)) d42_99 rfl rfl rfl ?_ (by decide) (by decide) (by decide)
 have y0_3 := Nat.le_trans (Nat.le_trans E1.1 u7_0.1) u11_0.1
 have m13 := (u11_1.keep u12_0)
 have m14 := (u11_2.keep u12_0 nin0)
 have m15 := (u11_3.keep u12_0 nin0)
 have m16 := ((u7_3.keep u11_0).keep u12_0)
 have n17 := oLsz A1.lt u7_1
 have m18 := ((u7_4.keep u11_0 (ninS n17 nin0)).keep u12_0 nin0)
 have m19 := ((u7_5.keep u11_0 (ninS n17 nin0)).keep u12_0 nin0)
 have n20 := oLsz A1.lt u7_2
 have m21 := ((u7_6.keep u11_0 (ninS n20 nin0)).keep u12_0 nin0)
 exact hQ _ _ ⟨r_12, b1, s_7, r_7, kr_7, rfl, (((((Keep.refl h0 []).ext E1).trans u7_0 all0).trans u11_0 (allS (Or.inr (oLe g1)) all0)).trans u12_0 all0), (Nat.le_trans y0_3 u12_1), u12_2, u12_3, m13, m14, m15, (Nat.le_trans E1.1 u7_1), m16, m18, m19, m21⟩
def Q_rd2 (Z : State) (a : Addr) (st : Int32) (b : Addr) (i c e : Int32) (va : Addr) (k : ClassId) (w0 w1 cs : Int32) (h0 : Heap) (v : Option Value) (h : Heap) : Prop := ∃ r qt s sv : Addr, ∃ ks : ClassId, v = some (.ref r) ∧ Keep h0 h [] ∧ h0.size ≤ r ∧ Exa Z h r z3 ∧ Fld Z h r z3 "value" z11 (.ref qt) ∧ Exa Z h qt z2 ∧ Fld Z h qt z2 "value" z13 (.ref s) ∧ Fld Z h qt z2 "end" "I" (.int e) ∧ h0.size ≤ s ∧ Exa Z h s z0 ∧ Fld Z h s z0 "value" "[B" (.ref sv) ∧ Fld Z h s z0 "coder" "B" (.int 0) ∧ oArr Z h sv ks .byte [.int w0, .int w1]
theorem tl_rd2 (l : Launch) (Z : State) (a0 : Array Value) (hw : oHw Z a0) (a : Addr) (st : Int32) (b : Addr) (i c e : Int32) (va : Addr) (k : ClassId) (w0 w1 cs : Int32) (h0 : Heap) (q0 : Exa Z h0 b z4) (q1 : Fld Z h0 b z1 "value" "[B" (.ref va)) (q2 : Fld Z h0 b z1 "coder" "B" (.int 0)) (q3 : Fld Z h0 b z1 "count" "I" (.int 2)) (q4 : oArr Z h0 va k .byte [.int w0, .int w1, .int 0, .int 0, .int 0, .int 0, .int 0, .int 0, .int 0, .int 0, .int 0, .int 0, .int 0, .int 0, .int 0, .int 0]) (q5 : Sta Z Z.heap z0 z5 "Z" (.int cs)) (q6 : ¬ (cs = (0 : Int32))) (q7 : (i + (1 : Int32)) = e) {Q : Option Value → Heap → Prop} (hQ : ∀ v h, Q_rd2 Z a st b i c e va k w0 w1 cs h0 v h → Q v h) {pp : Program} {ee : Env} {ss : State} {mm : MethodId} {bb : List Frame} {mtd : Method} {cc : Code} {A : Array Value} {T0 : State} (K : oCtx pp ss mm mtd cc Z z2 prog_30_method_2_code 5 "read" (some (.object z3)) (⟨z2, "read", z12⟩ : MethodName)) (X0 : oSt pp l ee r_read ss mm A bb mtd cc Z T0 h0 4 40 [] false) : oGoes pp ee bb ss Z T0 (mkF mm 82 #[vR a, vI st, vR b, vI i, vI c] []) Q r_read.cells r_read.slots false := by
 have E0 := X0.ext0
 refine o_new K X0 (w122 hw) (w123 hw) (w33 hw) d42_82 rfl (by decide) (by decide) ?_
 intro T1 h1 b1 X1 g1 E1 A1 D1 G1
 have F1_value : Fld Z h1 b1 z2 "value" z13 .null := (D1 (Or.inr (w178 hw)) (ty := (.object z0)) (by decide))
 have F1_end : Fld Z h1 b1 z2 "end" "I" (.int 0) := (D1 (Or.inr (w180 hw)) (ty := .int) (by decide))
 refine o_dup K X1 d42_85 rfl rfl ?_
 refine o_aloadN K X1 d42_86 rfl rfl rfl ?_
 have m2 := (q0.ext E1)
 have m3 := (q1.ext E1)
 have m4 := (q2.ext E1)
 have m5 := (q3.ext E1)
 have m6 := (q4.ext E1)
 refine o_virtual K X1   (w124 hw) (w125 hw) (oNF (w127 hw)) (w127 hw) (w126 hw) (w37 hw) (w128 hw) (by decide) m2 (rm_tostr2 l Z a0 hw b va k w0 w1 cs h1 m2 m3 m4 m5 m6 q5 q6) all0 (by decide) rfl (argsL := []) rfl (lenOf pd23 rfl) (W := 2) rfl (by decide) (by decide) (by decide) d42_87 rfl ?_
 intro v7 T7 h7 FX7 U7
 obtain ⟨s_7, r_7, kr_7, rfl, u7_0, u7_1, u7_2, u7_3, u7_4, u7_5, u7_6⟩ := U7
 have G7_s : Z.heap.size ≤ s_7 := Nat.le_trans X1.ext0.1 u7_1
 have G7_r : Z.heap.size ≤ r_7 := Nat.le_trans X1.ext0.1 u7_2
 have X7 := FX7 [s_7, r_7] (Or.inl rfl) (allS ⟨u7_1, u7_3.lt⟩ (allS ⟨u7_2, u7_6.lt⟩ all0))
 show oGoes pp ee bb ss Z T7 (mkF mm 90 _ [.ref s_7, .ref b1, .ref b1]) _ _ _ _
 refine o_iloadN K X7 d42_90 rfl rfl ?_
 refine o_iconst K X7 d42_91 rfl (z := 1) rfl ?_
 refine o_iadd K X7 d42_92 rfl (z := e) q7 ?_
 have m8 := (A1.keep u7_0)
 have m9 := (F1_value.keep u7_0 nin0)
 have m10 := (F1_end.keep u7_0 nin0)
 refine o_special K X7 (y := (⟨z2, "<init>", "(Ljava/lang/String;I)V"⟩ : MethodName)) rfl (w168 hw) (w169 hw) (w33 hw) (w170 hw) (by decide) (rm_qtinit l Z a0 hw b1 s_7 e h7 m8 m9 m10 G1) (allS me2 all0) (by decide) rfl (argsL := [.ref s_7, .int e]) rfl (lenOf pd24 rfl) (W := 1) rfl (by decide) (by decide) (by decide) d42_93 rfl ?_
 intro v11 T11 h11 FX11 U11
 obtain ⟨rfl, u11_0, u11_1, u11_2, u11_3⟩ := U11
 have X11 := FX11 [] (Or.inl rfl) all0
 show oGoes pp ee bb ss Z T11 (mkF mm 96 _ [.ref b1]) _ _ _ _
 refine o_static K X11  (w181 hw) (w182 hw) (w65 hw) (w183 hw) (by decide) (rm_optof l Z a0 hw b1 h11) all0 (by decide) rfl (argsL := [.ref b1]) rfl (lenOf pd25 rfl) (W := 0) rfl (by decide) (by decide) (by decide) d42_96 rfl ?_
 intro v12 T12 h12 FX12 U12
 obtain ⟨r_12, rfl, u12_0, u12_1, u12_2, u12_3⟩ := U12
 have G12_r : Z.heap.size ≤ r_12 := Nat.le_trans X11.ext0.1 u12_1
 have X12 := FX12 [r_12] (Or.inl rfl) (allS ⟨u12_1, u12_2.lt⟩ all0)
 show oGoes pp ee bb ss Z T12 (mkF mm 99 _ [.ref r_12]) _ _ _ _
 refine o_areturn K X12 (t := (.object z3)) d42_99 rfl rfl rfl ?_ (by decide) (by decide) (by decide)
 have y0_3 := Nat.le_trans (Nat.le_trans E1.1 u7_0.1) u11_0.1
 have m13 := (u11_1.keep u12_0)
 have m14 := (u11_2.keep u12_0 nin0)
 have m15 := (u11_3.keep u12_0 nin0)
 have m16 := ((u7_3.keep u11_0).keep u12_0)
 have n17 := oLsz A1.lt u7_1
 have m18 := ((u7_4.keep u11_0 (ninS n17 nin0)).keep u12_0 nin0)
 have m19 := ((u7_5.keep u11_0 (ninS n17 nin0)).keep u12_0 nin0)
 have n20 := oLsz A1.lt u7_2
 have m21 := ((u7_6.keep u11_0 (ninS n20 nin0)).keep u12_0 nin0)
 exact hQ _ _ ⟨r_12, b1, s_7, r_7, kr_7, rfl, (((((Keep.refl h0 []).ext E1).trans u7_0 all0).trans u11_0 (allS (Or.inr (oLe g1)) all0)).trans u12_0 all0), (Nat.le_trans y0_3 u12_1), u12_2, u12_3, m13, m14, m15, (Nat.le_trans E1.1 u7_1), m16, m18, m19, m21⟩
theorem d42_0 : decode prog_30_method_2_code 0 = .ok (.new 17, 3) := by decide +kernel
theorem d42_3 : decode prog_30_method_2_code 3 = .ok (.dup, 1) := by decide +kernel
theorem d42_4 : decode prog_30_method_2_code 4 = .ok (.invokespecial 19, 3) := by decide +kernel
theorem d42_7 : decode prog_30_method_2_code 7 = .ok (.astore_n 2, 1) := by decide +kernel
theorem d42_8 : decode prog_30_method_2_code 8 = .ok (.iload_n 1, 1) := by decide +kernel
theorem d42_9 : decode prog_30_method_2_code 9 = .ok (.iconst 1, 1) := by decide +kernel
theorem d42_10 : decode prog_30_method_2_code 10 = .ok (.iadd, 1) := by decide +kernel
theorem d42_11 : decode prog_30_method_2_code 11 = .ok (.istore_n 3, 1) := by decide +kernel
theorem d42_12 : decode prog_30_method_2_code 12 = .ok (.iload_n 3, 1) := by decide +kernel
theorem d42_13 : decode prog_30_method_2_code 13 = .ok (.aload_n 0, 1) := by decide +kernel
theorem d42_14 : decode prog_30_method_2_code 14 = .ok (.invokevirtual 20, 3) := by decide +kernel
theorem d42_17 : decode prog_30_method_2_code 17 = .ok (.if_icmp .ge 86, 3) := by decide +kernel
theorem d42_103 : decode prog_30_method_2_code 103 = .ok (.invokestatic 47, 3) := by decide +kernel
theorem d42_106 : decode prog_30_method_2_code 106 = .ok (.areturn, 1) := by decide +kernel
theorem pd26 : parseMethodDescriptor "()Ljava/util/Optional;" = some ⟨[], some (.object z3)⟩ := by decide +kernel
def Q_read_e_0 (Z : State) (a va : Addr) (k : ClassId) (c0 c1 c2 c3 c4 c5 c6 : Int32) (fm : Value) (cs : Int32) (em : Addr) (h0 : Heap) (v : Option Value) (h : Heap) : Prop := v = some (.ref em) ∧ Keep h0 h []
theorem rm_read_e_0 (l : Launch) (Z : State) (a0 : Array Value) (hw : oHw Z a0) (a va : Addr) (k : ClassId) (c0 c1 c2 c3 c4 c5 c6 : Int32) (fm : Value) (cs : Int32) (em : Addr) (h0 : Heap) (q0 : Exa Z h0 a z0) (q1 : Fld Z h0 a z0 "value" "[B" (.ref va)) (q2 : Fld Z h0 a z0 "coder" "B" (.int 0)) (q3 : oArr Z h0 va k .byte [(.int (nar .byte c0)), (.int (nar .byte c1)), (.int (nar .byte c2)), (.int (nar .byte c3)), (.int (nar .byte c4)), (.int (nar .byte c5)), (.int (nar .byte c6))]) (q4 : Sta Z Z.heap z6 z7 z8 fm) (q5 : fm.isRef = true) (q6 : Sta Z Z.heap z0 z5 "Z" (.int cs)) (q7 : ¬ (cs = (0 : Int32))) (q8 : Sta Z Z.heap z3 "EMPTY" z14 (.ref em)) : oMet l Z (⟨z2, "read", z12⟩ : MethodName) prog_30_method_2_code 5 (some (.object z3)) r_read [] #[.ref a, .int 6] h0 (Q_read_e_0 Z a va k c0 c1 c2 c3 c4 c5 c6 fm cs em h0) [] false := by
 refine oEnter (oEW hw) (plainFor_of_name (by first | (simp [plainName, overriddenIn]; done) | decide +kernel)) (own := z2) (nm := "read") rfl rfl (L := #[.val (.ref a), .val (.int 6), .unset, .unset, .unset]) (fun m => by first | (simp [entryFrame, mkF, argsToLocals, Value.category, oCatRef q5]; done) | rfl) ?_
 intro pp ee ss mm bb mtd cc T0 K X0
 have E0 := X0.ext0
 refine o_new K X0 (w35 hw) (w36 hw) (w37 hw) d42_0 rfl (by decide) (by decide) ?_
 intro T1 h1 b1 X1 g1 E1 A1 D1 G1
 have F1_value : Fld Z h1 b1 z1 "value" "[B" .null := (D1 (Or.inl (w50 hw)) (ty := (.array .byte)) (by decide))
 have F1_coder : Fld Z h1 b1 z1 "coder" "B" (.int 0) := (D1 (Or.inl (w52 hw)) (ty := .byte) (by decide))
 have F1_count : Fld Z h1 b1 z1 "count" "I" (.int 0) := (D1 (Or.inl (w108 hw)) (ty := .int) (by decide))
 refine o_dup K X1 d42_3 rfl rfl ?_
 refine o_special K X1 (y := (⟨z4, "<init>", "()V"⟩ : MethodName)) rfl (w38 hw) (w39 hw) (w37 hw) (w40 hw) (by decide) (rm_sbinit l Z a0 hw b1 cs h1 A1 F1_value F1_coder F1_count G1 q6 q7) (allS me0 all0) (by decide) rfl (argsL := []) rfl (lenOf pd17 rfl) (W := 1) rfl (by decide) (by decide) (by decide) d42_4 rfl ?_
 intro v2 T2 h2 FX2 U2
 obtain ⟨r_2, k_2, rfl, u2_0, u2_1, u2_2, u2_3, u2_4, u2_5, u2_6⟩ := U2
 have G2_r : Z.heap.size ≤ r_2 := Nat.le_trans X1.ext0.1 u2_1
 have X2 := FX2 [r_2] (Or.inl rfl) (allS ⟨u2_1, u2_6.lt⟩ all0)
 show oGoes pp ee bb ss Z T2 (mkF mm 7 _ [.ref b1]) _ _ _ _
 refine o_astoreN K X2 d42_7 rfl rfl (L' := #[vR a, vI 6, vR b1, uS, uS]) rfl ?_
 refine o_iloadN K X2 d42_8 rfl rfl ?_
 refine o_iconst K X2 d42_9 rfl (z := 1) rfl ?_
 refine o_iadd K X2 d42_10 rfl (z := 7) (by decide) ?_
 refine o_istoreN K X2 d42_11 rfl (L' := #[vR a, vI 6, vR b1, vI 7, uS]) rfl ?_
 refine o_iloadN K X2 d42_12 rfl rfl ?_
 refine o_aloadN K X2 d42_13 rfl rfl rfl ?_
 have m3 := ((q0.ext E1).keep u2_0)
 have n4 := oLz q0.lt (oLe g1)
 have m5 := ((q1.ext E1).keep u2_0 (ninS n4 nin0))
 have m6 := ((q2.ext E1).keep u2_0 (ninS n4 nin0))
 have n7 := oLz q3.lt (oLe g1)
 have m8 := ((q3.ext E1).keep u2_0 (ninS n7 nin0))
 refine o_virtual K X2   (w53 hw) (w54 hw) (oNF (w56 hw)) (w56 hw) (w55 hw) (w4 hw) (w57 hw) (by decide) m3 (rm_strlen l Z a0 hw a va k c0 c1 c2 c3 c4 c5 c6 cs h2 m3 m5 m6 m8 q6 q7) all0 (by decide) rfl (argsL := []) rfl (lenOf pd10 rfl) (W := 1) rfl (by decide) (by decide) (by decide) d42_14 rfl ?_
 intro v9 T9 h9 FX9 U9
 obtain ⟨rfl, rfl⟩ := U9
 have X9 := FX9 [] (Or.inl rfl) all0
 show oGoes pp ee bb ss Z T9 (mkF mm 17 _ [.int 7, .int 7]) _ _ _ _
 refine o_icmp_ge_t K X9 d42_17 (by decide) (pc' := 103) (by decide) (by decide) ?_
 refine o_static K X9  (w63 hw) (w64 hw) (w65 hw) (w66 hw) (by decide) (rm_optempty l Z a0 hw em h2 q8) all0 (by decide) rfl (argsL := []) rfl (lenOf pd26 rfl) (W := 0) rfl (by decide) (by decide) (by decide) d42_103 rfl ?_
 intro v10 T10 h10 FX10 U10
 obtain ⟨rfl, rfl⟩ := U10
 have X10 := FX10 [] (Or.inl rfl) all0
 show oGoes pp ee bb ss Z T10 (mkF mm 106 _ [.ref em]) _ _ _ _
 refine o_areturn K X10 (t := (.object z3)) d42_106 rfl rfl rfl ?_ (by decide) (by decide) (by decide)
 exact ⟨rfl, (((Keep.refl h0 []).ext E1).trans u2_0 (allS (Or.inr (oLe g1)) all0))⟩
theorem d42_20 : decode prog_30_method_2_code 20 = .ok (.aload_n 0, 1) := by decide +kernel
theorem d42_21 : decode prog_30_method_2_code 21 = .ok (.iload_n 3, 1) := by decide +kernel
theorem d42_22 : decode prog_30_method_2_code 22 = .ok (.invokevirtual 26, 3) := by decide +kernel
theorem d42_25 : decode prog_30_method_2_code 25 = .ok (.istore 4, 2) := by decide +kernel
theorem d42_27 : decode prog_30_method_2_code 27 = .ok (.iload 4, 2) := by decide +kernel
theorem d42_29 : decode prog_30_method_2_code 29 = .ok (.bipush 34, 2) := by decide +kernel
theorem d42_31 : decode prog_30_method_2_code 31 = .ok (.if_icmp .eq 16, 3) := by decide +kernel
theorem d42_47 : decode prog_30_method_2_code 47 = .ok (.iload_n 3, 1) := by decide +kernel
theorem d42_48 : decode prog_30_method_2_code 48 = .ok (.iconst 1, 1) := by decide +kernel
theorem d42_49 : decode prog_30_method_2_code 49 = .ok (.iadd, 1) := by decide +kernel
theorem d42_50 : decode prog_30_method_2_code 50 = .ok (.aload_n 0, 1) := by decide +kernel
theorem d42_51 : decode prog_30_method_2_code 51 = .ok (.invokevirtual 20, 3) := by decide +kernel
theorem d42_54 : decode prog_30_method_2_code 54 = .ok (.if_icmp .ge 28, 3) := by decide +kernel
theorem pd27 : parseMethodDescriptor "(I)C" = some ⟨[.int], some .char⟩ := by decide +kernel
def Q_read_e_1 (Z : State) (a va : Addr) (k : ClassId) (c0 c1 c2 c3 c4 c5 c6 : Int32) (fm : Value) (cs : Int32) (em : Addr) (h0 : Heap) (v : Option Value) (h : Heap) : Prop := ∃ r qt s sv : Addr, ∃ ks : ClassId, v = some (.ref r) ∧ Keep h0 h [] ∧ h0.size ≤ r ∧ Exa Z h r z3 ∧ Fld Z h r z3 "value" z11 (.ref qt) ∧ Exa Z h qt z2 ∧ Fld Z h qt z2 "value" z13 (.ref s) ∧ Fld Z h qt z2 "end" "I" (.int 7) ∧ h0.size ≤ s ∧ Exa Z h s z0 ∧ Fld Z h s z0 "value" "[B" (.ref sv) ∧ Fld Z h s z0 "coder" "B" (.int 0) ∧ oArr Z h sv ks .byte []
theorem rm_read_e_1 (l : Launch) (Z : State) (a0 : Array Value) (hw : oHw Z a0) (a va : Addr) (k : ClassId) (c0 c1 c2 c3 c4 c5 c6 : Int32) (fm : Value) (cs : Int32) (em : Addr) (h0 : Heap) (q0 : Exa Z h0 a z0) (q1 : Fld Z h0 a z0 "value" "[B" (.ref va)) (q2 : Fld Z h0 a z0 "coder" "B" (.int 0)) (q3 : oArr Z h0 va k .byte [(.int (nar .byte c0)), (.int (nar .byte c1)), (.int (nar .byte c2)), (.int (nar .byte c3)), (.int (nar .byte c4)), (.int (nar .byte c5)), (.int (nar .byte c6))]) (q4 : c6 = (34 : Int32)) (q5 : oCh c6) (q6 : Sta Z Z.heap z6 z7 z8 fm) (q7 : fm.isRef = true) (q8 : Sta Z Z.heap z0 z5 "Z" (.int cs)) (q9 : ¬ (cs = (0 : Int32))) (q10 : Sta Z Z.heap z3 "EMPTY" z14 (.ref em)) : oMet l Z (⟨z2, "read", z12⟩ : MethodName) prog_30_method_2_code 5 (some (.object z3)) r_read [] #[.ref a, .int 5] h0 (Q_read_e_1 Z a va k c0 c1 c2 c3 c4 c5 c6 fm cs em h0) [] false := by
 refine oEnter (oEW hw) (plainFor_of_name (by first | (simp [plainName, overriddenIn]; done) | decide +kernel)) (own := z2) (nm := "read") rfl rfl (L := #[.val (.ref a), .val (.int 5), .unset, .unset, .unset]) (fun m => by first | (simp [entryFrame, mkF, argsToLocals, Value.category, oCatRef q7]; done) | rfl) ?_
 intro pp ee ss mm bb mtd cc T0 K X0
 have E0 := X0.ext0
 refine o_new K X0 (w35 hw) (w36 hw) (w37 hw) d42_0 rfl (by decide) (by decide) ?_
 intro T1 h1 b1 X1 g1 E1 A1 D1 G1
 have F1_value : Fld Z h1 b1 z1 "value" "[B" .null := (D1 (Or.inl (w50 hw)) (ty := (.array .byte)) (by decide))
 have F1_coder : Fld Z h1 b1 z1 "coder" "B" (.int 0) := (D1 (Or.inl (w52 hw)) (ty := .byte) (by decide))
 have F1_count : Fld Z h1 b1 z1 "count" "I" (.int 0) := (D1 (Or.inl (w108 hw)) (ty := .int) (by decide))
 refine o_dup K X1 d42_3 rfl rfl ?_
 refine o_special K X1 (y := (⟨z4, "<init>", "()V"⟩ : MethodName)) rfl (w38 hw) (w39 hw) (w37 hw) (w40 hw) (by decide) (rm_sbinit l Z a0 hw b1 cs h1 A1 F1_value F1_coder F1_count G1 q8 q9) (allS me0 all0) (by decide) rfl (argsL := []) rfl (lenOf pd17 rfl) (W := 1) rfl (by decide) (by decide) (by decide) d42_4 rfl ?_
 intro v2 T2 h2 FX2 U2
 obtain ⟨r_2, k_2, rfl, u2_0, u2_1, u2_2, u2_3, u2_4, u2_5, u2_6⟩ := U2
 have G2_r : Z.heap.size ≤ r_2 := Nat.le_trans X1.ext0.1 u2_1
 have X2 := FX2 [r_2] (Or.inl rfl) (allS ⟨u2_1, u2_6.lt⟩ all0)
 show oGoes pp ee bb ss Z T2 (mkF mm 7 _ [.ref b1]) _ _ _ _
 refine o_astoreN K X2 d42_7 rfl rfl (L' := #[vR a, vI 5, vR b1, uS, uS]) rfl ?_
 refine o_iloadN K X2 d42_8 rfl rfl ?_
 refine o_iconst K X2 d42_9 rfl (z := 1) rfl ?_
 refine o_iadd K X2 d42_10 rfl (z := 6) (by decide) ?_
 refine o_istoreN K X2 d42_11 rfl (L' := #[vR a, vI 5, vR b1, vI 6, uS]) rfl ?_
 refine o_iloadN K X2 d42_12 rfl rfl ?_
 refine o_aloadN K X2 d42_13 rfl rfl rfl ?_
 have m3 := ((q0.ext E1).keep u2_0)
 have n4 := oLz q0.lt (oLe g1)
 have m5 := ((q1.ext E1).keep u2_0 (ninS n4 nin0))
 have m6 := ((q2.ext E1).keep u2_0 (ninS n4 nin0))
 have n7 := oLz q3.lt (oLe g1)
 have m8 := ((q3.ext E1).keep u2_0 (ninS n7 nin0))
 refine o_virtual K X2   (w53 hw) (w54 hw) (oNF (w56 hw)) (w56 hw) (w55 hw) (w4 hw) (w57 hw) (by decide) m3 (rm_strlen l Z a0 hw a va k c0 c1 c2 c3 c4 c5 c6 cs h2 m3 m5 m6 m8 q8 q9) all0 (by decide) rfl (argsL := []) rfl (lenOf pd10 rfl) (W := 1) rfl (by decide) (by decide) (by decide) d42_14 rfl ?_
 intro v9 T9 h9 FX9 U9
 obtain ⟨rfl, rfl⟩ := U9
 have X9 := FX9 [] (Or.inl rfl) all0
 show oGoes pp ee bb ss Z T9 (mkF mm 17 _ [.int 7, .int 6]) _ _ _ _
 refine o_icmp_ge_f K X9 d42_17 rfl (by decide) ?_
 refine o_aloadN K X9 d42_20 rfl rfl rfl ?_
 refine o_iloadN K X9 d42_21 rfl rfl ?_
 refine o_virtual K X9   (w75 hw) (w76 hw) (oNF (w78 hw)) (w78 hw) (w77 hw) (w4 hw) (w79 hw) (by decide) m3 (rm_char6 l Z a0 hw a va k c0 c1 c2 c3 c4 c5 c6 fm cs h2 m3 m5 m6 m8 q5 q6 q7 q8 q9) all0 (by decide) rfl (argsL := [.int 6]) rfl (lenOf pd27 rfl) (W := 0) rfl (by decide) (by decide) (by decide) d42_22 rfl ?_
 intro v10 T10 h10 FX10 U10
 obtain ⟨rfl, rfl, u10_1⟩ := U10
 have X10 := FX10 [] (Or.inl rfl) all0
 show oGoes pp ee bb ss Z T10 (mkF mm 25 _ [.int c6]) _ _ _ _
 refine o_istore K X10 d42_25 rfl (L' := #[vR a, vI 5, vR b1, vI 6, vI c6]) rfl ?_
 refine o_iload K X10 d42_27 rfl rfl ?_
 refine o_bipush K X10 d42_29 rfl (z := 34) rfl ?_
 refine o_icmp_eq_t K X10 d42_31 (by decide) (pc' := 47) (by decide) q4 ?_
 refine o_iloadN K X10 d42_47 rfl rfl ?_
 refine o_iconst K X10 d42_48 rfl (z := 1) rfl ?_
 refine o_iadd K X10 d42_49 rfl (z := 7) (by decide) ?_
 refine o_aloadN K X10 d42_50 rfl rfl rfl ?_
 refine o_virtual K X10   (w53 hw) (w54 hw) (oNF (w56 hw)) (w56 hw) (w55 hw) (w4 hw) (w57 hw) (by decide) m3 (rm_strlen l Z a0 hw a va k c0 c1 c2 c3 c4 c5 c6 cs h2 m3 m5 m6 m8 q8 q9) all0 (by decide) rfl (argsL := []) rfl (lenOf pd10 rfl) (W := 1) rfl (by decide) (by decide) (by decide) d42_51 rfl ?_
 intro v11 T11 h11 FX11 U11
 obtain ⟨rfl, rfl⟩ := U11
 have X11 := FX11 [] (Or.inl rfl) all0
 show oGoes pp ee bb ss Z T11 (mkF mm 54 _ [.int 7, .int 7]) _ _ _ _
 refine o_icmp_ge_t K X11 d42_54 (by decide) (pc' := 82) (by decide) (by decide) ?_
 refine tl_rd0 l Z a0 hw a 5 b1 6 c6 7 r_2 k_2 cs h2 u2_2 u2_3 u2_4 u2_5 u2_6 q8 q9 (by decide) (fun v12 h12 U12 => ?_) K (X11.mono (by decide) (by decide) (by decide) all0)
 obtain ⟨r_12, qt_12, s_12, sv_12, ks_12, rfl, u12_0, u12_1, u12_2, u12_3, u12_4, u12_5, u12_6, u12_7, u12_8, u12_9, u12_10, u12_11⟩ := U12
 have G12_r : Z.heap.size ≤ r_12 := Nat.le_trans X11.ext0.1 u12_1
 have G12_s : Z.heap.size ≤ s_12 := Nat.le_trans X11.ext0.1 u12_7
 exact ⟨r_12, qt_12, s_12, sv_12, ks_12, rfl, ((((Keep.refl h0 []).ext E1).trans u2_0 (allS (Or.inr (oLe g1)) all0)).trans u12_0 all0), (Nat.le_trans (Nat.le_trans E1.1 u2_0.1) u12_1), u12_2, u12_3, u12_4, u12_5, u12_6, (Nat.le_trans (Nat.le_trans E1.1 u2_0.1) u12_7), u12_8, u12_9, u12_10, u12_11⟩
theorem d42_57 : decode prog_30_method_2_code 57 = .ok (.aload_n 0, 1) := by decide +kernel
theorem d42_58 : decode prog_30_method_2_code 58 = .ok (.iload_n 3, 1) := by decide +kernel
theorem d42_59 : decode prog_30_method_2_code 59 = .ok (.iconst 1, 1) := by decide +kernel
theorem d42_60 : decode prog_30_method_2_code 60 = .ok (.iadd, 1) := by decide +kernel
theorem d42_61 : decode prog_30_method_2_code 61 = .ok (.invokevirtual 26, 3) := by decide +kernel
theorem d42_64 : decode prog_30_method_2_code 64 = .ok (.bipush 34, 2) := by decide +kernel
theorem d42_66 : decode prog_30_method_2_code 66 = .ok (.if_icmp .ne 16, 3) := by decide +kernel
def Q_read_e_2 (Z : State) (a va : Addr) (k : ClassId) (c0 c1 c2 c3 c4 c5 c6 : Int32) (fm : Value) (cs : Int32) (em : Addr) (h0 : Heap) (v : Option Value) (h : Heap) : Prop := ∃ r qt s sv : Addr, ∃ ks : ClassId, v = some (.ref r) ∧ Keep h0 h [] ∧ h0.size ≤ r ∧ Exa Z h r z3 ∧ Fld Z h r z3 "value" z11 (.ref qt) ∧ Exa Z h qt z2 ∧ Fld Z h qt z2 "value" z13 (.ref s) ∧ Fld Z h qt z2 "end" "I" (.int 6) ∧ h0.size ≤ s ∧ Exa Z h s z0 ∧ Fld Z h s z0 "value" "[B" (.ref sv) ∧ Fld Z h s z0 "coder" "B" (.int 0) ∧ oArr Z h sv ks .byte []
theorem rm_read_e_2 (l : Launch) (Z : State) (a0 : Array Value) (hw : oHw Z a0) (a va : Addr) (k : ClassId) (c0 c1 c2 c3 c4 c5 c6 : Int32) (fm : Value) (cs : Int32) (em : Addr) (h0 : Heap) (q0 : Exa Z h0 a z0) (q1 : Fld Z h0 a z0 "value" "[B" (.ref va)) (q2 : Fld Z h0 a z0 "coder" "B" (.int 0)) (q3 : oArr Z h0 va k .byte [(.int (nar .byte c0)), (.int (nar .byte c1)), (.int (nar .byte c2)), (.int (nar .byte c3)), (.int (nar .byte c4)), (.int (nar .byte c5)), (.int (nar .byte c6))]) (q4 : c5 = (34 : Int32)) (q5 : ¬ (c6 = (34 : Int32))) (q6 : oCh c5) (q7 : oCh c6) (q8 : ¬ ((255 : Int32) < c6)) (q9 : Sta Z Z.heap z6 z7 z8 fm) (q10 : fm.isRef = true) (q11 : Sta Z Z.heap z0 z5 "Z" (.int cs)) (q12 : ¬ (cs = (0 : Int32))) (q13 : Sta Z Z.heap z3 "EMPTY" z14 (.ref em)) : oMet l Z (⟨z2, "read", z12⟩ : MethodName) prog_30_method_2_code 5 (some (.object z3)) r_read [] #[.ref a, .int 4] h0 (Q_read_e_2 Z a va k c0 c1 c2 c3 c4 c5 c6 fm cs em h0) [] false := by
 refine oEnter (oEW hw) (plainFor_of_name (by first | (simp [plainName, overriddenIn]; done) | decide +kernel)) (own := z2) (nm := "read") rfl rfl (L := #[.val (.ref a), .val (.int 4), .unset, .unset, .unset]) (fun m => by first | (simp [entryFrame, mkF, argsToLocals, Value.category, oCatRef q10]; done) | rfl) ?_
 intro pp ee ss mm bb mtd cc T0 K X0
 have E0 := X0.ext0
 refine o_new K X0 (w35 hw) (w36 hw) (w37 hw) d42_0 rfl (by decide) (by decide) ?_
 intro T1 h1 b1 X1 g1 E1 A1 D1 G1
 have F1_value : Fld Z h1 b1 z1 "value" "[B" .null := (D1 (Or.inl (w50 hw)) (ty := (.array .byte)) (by decide))
 have F1_coder : Fld Z h1 b1 z1 "coder" "B" (.int 0) := (D1 (Or.inl (w52 hw)) (ty := .byte) (by decide))
 have F1_count : Fld Z h1 b1 z1 "count" "I" (.int 0) := (D1 (Or.inl (w108 hw)) (ty := .int) (by decide))
 refine o_dup K X1 d42_3 rfl rfl ?_
 refine o_special K X1 (y := (⟨z4, "<init>", "()V"⟩ : MethodName)) rfl (w38 hw) (w39 hw) (w37 hw) (w40 hw) (by decide) (rm_sbinit l Z a0 hw b1 cs h1 A1 F1_value F1_coder F1_count G1 q11 q12) (allS me0 all0) (by decide) rfl (argsL := []) rfl (lenOf pd17 rfl) (W := 1) rfl (by decide) (by decide) (by decide) d42_4 rfl ?_
 intro v2 T2 h2 FX2 U2
 obtain ⟨r_2, k_2, rfl, u2_0, u2_1, u2_2, u2_3, u2_4, u2_5, u2_6⟩ := U2
 have G2_r : Z.heap.size ≤ r_2 := Nat.le_trans X1.ext0.1 u2_1
 have X2 := FX2 [r_2] (Or.inl rfl) (allS ⟨u2_1, u2_6.lt⟩ all0)
 show oGoes pp ee bb ss Z T2 (mkF mm 7 _ [.ref b1]) _ _ _ _
 refine o_astoreN K X2 d42_7 rfl rfl (L' := #[vR a, vI 4, vR b1, uS, uS]) rfl ?_
 refine o_iloadN K X2 d42_8 rfl rfl ?_
 refine o_iconst K X2 d42_9 rfl (z := 1) rfl ?_
 refine o_iadd K X2 d42_10 rfl (z := 5) (by decide) ?_
 refine o_istoreN K X2 d42_11 rfl (L' := #[vR a, vI 4, vR b1, vI 5, uS]) rfl ?_
 refine o_iloadN K X2 d42_12 rfl rfl ?_
 refine o_aloadN K X2 d42_13 rfl rfl rfl ?_
 have m3 := ((q0.ext E1).keep u2_0)
 have n4 := oLz q0.lt (oLe g1)
 have m5 := ((q1.ext E1).keep u2_0 (ninS n4 nin0))
 have m6 := ((q2.ext E1).keep u2_0 (ninS n4 nin0))
 have n7 := oLz q3.lt (oLe g1)
 have m8 := ((q3.ext E1).keep u2_0 (ninS n7 nin0))
 refine o_virtual K X2   (w53 hw) (w54 hw) (oNF (w56 hw)) (w56 hw) (w55 hw) (w4 hw) (w57 hw) (by decide) m3 (rm_strlen l Z a0 hw a va k c0 c1 c2 c3 c4 c5 c6 cs h2 m3 m5 m6 m8 q11 q12) all0 (by decide) rfl (argsL := []) rfl (lenOf pd10 rfl) (W := 1) rfl (by decide) (by decide) (by decide) d42_14 rfl ?_
 intro v9 T9 h9 FX9 U9
 obtain ⟨rfl, rfl⟩ := U9
 have X9 := FX9 [] (Or.inl rfl) all0
 show oGoes pp ee bb ss Z T9 (mkF mm 17 _ [.int 7, .int 5]) _ _ _ _
 refine o_icmp_ge_f K X9 d42_17 rfl (by decide) ?_
 refine o_aloadN K X9 d42_20 rfl rfl rfl ?_
 refine o_iloadN K X9 d42_21 rfl rfl ?_
 refine o_virtual K X9   (w75 hw) (w76 hw) (oNF (w78 hw)) (w78 hw) (w77 hw) (w4 hw) (w79 hw) (by decide) m3 (rm_char5 l Z a0 hw a va k c0 c1 c2 c3 c4 c5 c6 fm cs h2 m3 m5 m6 m8 q6 q9 q10 q11 q12) all0 (by decide) rfl (argsL := [.int 5]) rfl (lenOf pd27 rfl) (W := 0) rfl (by decide) (by decide) (by decide) d42_22 rfl ?_
 intro v10 T10 h10 FX10 U10
 obtain ⟨rfl, rfl, u10_1⟩ := U10
 have X10 := FX10 [] (Or.inl rfl) all0
 show oGoes pp ee bb ss Z T10 (mkF mm 25 _ [.int c5]) _ _ _ _
 refine o_istore K X10 d42_25 rfl (L' := #[vR a, vI 4, vR b1, vI 5, vI c5]) rfl ?_
 refine o_iload K X10 d42_27 rfl rfl ?_
 refine o_bipush K X10 d42_29 rfl (z := 34) rfl ?_
 refine o_icmp_eq_t K X10 d42_31 (by decide) (pc' := 47) (by decide) q4 ?_
 refine o_iloadN K X10 d42_47 rfl rfl ?_
 refine o_iconst K X10 d42_48 rfl (z := 1) rfl ?_
 refine o_iadd K X10 d42_49 rfl (z := 6) (by decide) ?_
 refine o_aloadN K X10 d42_50 rfl rfl rfl ?_
 refine o_virtual K X10   (w53 hw) (w54 hw) (oNF (w56 hw)) (w56 hw) (w55 hw) (w4 hw) (w57 hw) (by decide) m3 (rm_strlen l Z a0 hw a va k c0 c1 c2 c3 c4 c5 c6 cs h2 m3 m5 m6 m8 q11 q12) all0 (by decide) rfl (argsL := []) rfl (lenOf pd10 rfl) (W := 1) rfl (by decide) (by decide) (by decide) d42_51 rfl ?_
 intro v11 T11 h11 FX11 U11
 obtain ⟨rfl, rfl⟩ := U11
 have X11 := FX11 [] (Or.inl rfl) all0
 show oGoes pp ee bb ss Z T11 (mkF mm 54 _ [.int 7, .int 6]) _ _ _ _
 refine o_icmp_ge_f K X11 d42_54 rfl (by decide) ?_
 refine o_aloadN K X11 d42_57 rfl rfl rfl ?_
 refine o_iloadN K X11 d42_58 rfl rfl ?_
 refine o_iconst K X11 d42_59 rfl (z := 1) rfl ?_
 refine o_iadd K X11 d42_60 rfl (z := 6) (by decide) ?_
 refine o_virtual K X11   (w75 hw) (w76 hw) (oNF (w78 hw)) (w78 hw) (w77 hw) (w4 hw) (w79 hw) (by decide) m3 (rm_char6 l Z a0 hw a va k c0 c1 c2 c3 c4 c5 c6 fm cs h2 m3 m5 m6 m8 q7 q9 q10 q11 q12) all0 (by decide) rfl (argsL := [.int 6]) rfl (lenOf pd27 rfl) (W := 0) rfl (by decide) (by decide) (by decide) d42_61 rfl ?_
 intro v12 T12 h12 FX12 U12
 obtain ⟨rfl, rfl, u12_1⟩ := U12
 have X12 := FX12 [] (Or.inl rfl) all0
 show oGoes pp ee bb ss Z T12 (mkF mm 64 _ [.int c6]) _ _ _ _
 refine o_bipush K X12 d42_64 rfl (z := 34) rfl ?_
 refine o_icmp_ne_t K X12 d42_66 (by decide) (pc' := 82) (by decide) q5 ?_
 refine tl_rd0 l Z a0 hw a 4 b1 5 c5 6 r_2 k_2 cs h2 u2_2 u2_3 u2_4 u2_5 u2_6 q11 q12 (by decide) (fun v13 h13 U13 => ?_) K (X12.mono (by decide) (by decide) (by decide) all0)
 obtain ⟨r_13, qt_13, s_13, sv_13, ks_13, rfl, u13_0, u13_1, u13_2, u13_3, u13_4, u13_5, u13_6, u13_7, u13_8, u13_9, u13_10, u13_11⟩ := U13
 have G13_r : Z.heap.size ≤ r_13 := Nat.le_trans X12.ext0.1 u13_1
 have G13_s : Z.heap.size ≤ s_13 := Nat.le_trans X12.ext0.1 u13_7
 exact ⟨r_13, qt_13, s_13, sv_13, ks_13, rfl, ((((Keep.refl h0 []).ext E1).trans u2_0 (allS (Or.inr (oLe g1)) all0)).trans u13_0 all0), (Nat.le_trans (Nat.le_trans E1.1 u2_0.1) u13_1), u13_2, u13_3, u13_4, u13_5, u13_6, (Nat.le_trans (Nat.le_trans E1.1 u2_0.1) u13_7), u13_8, u13_9, u13_10, u13_11⟩
theorem d42_34 : decode prog_30_method_2_code 34 = .ok (.aload_n 2, 1) := by decide +kernel
theorem d42_35 : decode prog_30_method_2_code 35 = .ok (.iload 4, 2) := by decide +kernel
theorem d42_37 : decode prog_30_method_2_code 37 = .ok (.invokevirtual 30, 3) := by decide +kernel
theorem d42_40 : decode prog_30_method_2_code 40 = .ok (.pop, 1) := by decide +kernel
theorem d42_41 : decode prog_30_method_2_code 41 = .ok (.iinc 3 1, 3) := by decide +kernel
theorem d42_44 : decode prog_30_method_2_code 44 = .ok (.goto 56, 3) := by decide +kernel
theorem d42_100 : decode prog_30_method_2_code 100 = .ok (.goto (-88), 3) := by decide +kernel
theorem pd28 : parseMethodDescriptor "(C)Ljava/lang/StringBuilder;" = some ⟨[.char], some (.object z4)⟩ := by decide +kernel
def Q_read_n_0 (Z : State) (a va : Addr) (k : ClassId) (c0 c1 c2 c3 c4 c5 c6 : Int32) (fm : Value) (cs : Int32) (em : Addr) (h0 : Heap) (v : Option Value) (h : Heap) : Prop := v = some (.ref em) ∧ Keep h0 h []
theorem rm_read_n_0 (l : Launch) (Z : State) (a0 : Array Value) (hw : oHw Z a0) (a va : Addr) (k : ClassId) (c0 c1 c2 c3 c4 c5 c6 : Int32) (fm : Value) (cs : Int32) (em : Addr) (h0 : Heap) (q0 : Exa Z h0 a z0) (q1 : Fld Z h0 a z0 "value" "[B" (.ref va)) (q2 : Fld Z h0 a z0 "coder" "B" (.int 0)) (q3 : oArr Z h0 va k .byte [(.int (nar .byte c0)), (.int (nar .byte c1)), (.int (nar .byte c2)), (.int (nar .byte c3)), (.int (nar .byte c4)), (.int (nar .byte c5)), (.int (nar .byte c6))]) (q4 : ¬ (c6 = (34 : Int32))) (q5 : oCh c6) (q6 : ¬ ((255 : Int32) < c6)) (q7 : Sta Z Z.heap z6 z7 z8 fm) (q8 : fm.isRef = true) (q9 : Sta Z Z.heap z0 z5 "Z" (.int cs)) (q10 : ¬ (cs = (0 : Int32))) (q11 : Sta Z Z.heap z3 "EMPTY" z14 (.ref em)) : oMet l Z (⟨z2, "read", z12⟩ : MethodName) prog_30_method_2_code 5 (some (.object z3)) r_read [] #[.ref a, .int 5] h0 (Q_read_n_0 Z a va k c0 c1 c2 c3 c4 c5 c6 fm cs em h0) [] false := by
 refine oEnter (oEW hw) (plainFor_of_name (by first | (simp [plainName, overriddenIn]; done) | decide +kernel)) (own := z2) (nm := "read") rfl rfl (L := #[.val (.ref a), .val (.int 5), .unset, .unset, .unset]) (fun m => by first | (simp [entryFrame, mkF, argsToLocals, Value.category, oCatRef q8]; done) | rfl) ?_
 intro pp ee ss mm bb mtd cc T0 K X0
 have E0 := X0.ext0
 refine o_new K X0 (w35 hw) (w36 hw) (w37 hw) d42_0 rfl (by decide) (by decide) ?_
 intro T1 h1 b1 X1 g1 E1 A1 D1 G1
 have F1_value : Fld Z h1 b1 z1 "value" "[B" .null := (D1 (Or.inl (w50 hw)) (ty := (.array .byte)) (by decide))
 have F1_coder : Fld Z h1 b1 z1 "coder" "B" (.int 0) := (D1 (Or.inl (w52 hw)) (ty := .byte) (by decide))
 have F1_count : Fld Z h1 b1 z1 "count" "I" (.int 0) := (D1 (Or.inl (w108 hw)) (ty := .int) (by decide))
 refine o_dup K X1 d42_3 rfl rfl ?_
 refine o_special K X1 (y := (⟨z4, "<init>", "()V"⟩ : MethodName)) rfl (w38 hw) (w39 hw) (w37 hw) (w40 hw) (by decide) (rm_sbinit l Z a0 hw b1 cs h1 A1 F1_value F1_coder F1_count G1 q9 q10) (allS me0 all0) (by decide) rfl (argsL := []) rfl (lenOf pd17 rfl) (W := 1) rfl (by decide) (by decide) (by decide) d42_4 rfl ?_
 intro v2 T2 h2 FX2 U2
 obtain ⟨r_2, k_2, rfl, u2_0, u2_1, u2_2, u2_3, u2_4, u2_5, u2_6⟩ := U2
 have G2_r : Z.heap.size ≤ r_2 := Nat.le_trans X1.ext0.1 u2_1
 have X2 := FX2 [r_2] (Or.inl rfl) (allS ⟨u2_1, u2_6.lt⟩ all0)
 show oGoes pp ee bb ss Z T2 (mkF mm 7 _ [.ref b1]) _ _ _ _
 refine o_astoreN K X2 d42_7 rfl rfl (L' := #[vR a, vI 5, vR b1, uS, uS]) rfl ?_
 refine o_iloadN K X2 d42_8 rfl rfl ?_
 refine o_iconst K X2 d42_9 rfl (z := 1) rfl ?_
 refine o_iadd K X2 d42_10 rfl (z := 6) (by decide) ?_
 refine o_istoreN K X2 d42_11 rfl (L' := #[vR a, vI 5, vR b1, vI 6, uS]) rfl ?_
 refine o_iloadN K X2 d42_12 rfl rfl ?_
 refine o_aloadN K X2 d42_13 rfl rfl rfl ?_
 have m3 := ((q0.ext E1).keep u2_0)
 have n4 := oLz q0.lt (oLe g1)
 have m5 := ((q1.ext E1).keep u2_0 (ninS n4 nin0))
 have m6 := ((q2.ext E1).keep u2_0 (ninS n4 nin0))
 have n7 := oLz q3.lt (oLe g1)
 have m8 := ((q3.ext E1).keep u2_0 (ninS n7 nin0))
 refine o_virtual K X2   (w53 hw) (w54 hw) (oNF (w56 hw)) (w56 hw) (w55 hw) (w4 hw) (w57 hw) (by decide) m3 (rm_strlen l Z a0 hw a va k c0 c1 c2 c3 c4 c5 c6 cs h2 m3 m5 m6 m8 q9 q10) all0 (by decide) rfl (argsL := []) rfl (lenOf pd10 rfl) (W := 1) rfl (by decide) (by decide) (by decide) d42_14 rfl ?_
 intro v9 T9 h9 FX9 U9
 obtain ⟨rfl, rfl⟩ := U9
 have X9 := FX9 [] (Or.inl rfl) all0
 show oGoes pp ee bb ss Z T9 (mkF mm 17 _ [.int 7, .int 6]) _ _ _ _
 refine o_icmp_ge_f K X9 d42_17 rfl (by decide) ?_
 refine o_aloadN K X9 d42_20 rfl rfl rfl ?_
 refine o_iloadN K X9 d42_21 rfl rfl ?_
 refine o_virtual K X9   (w75 hw) (w76 hw) (oNF (w78 hw)) (w78 hw) (w77 hw) (w4 hw) (w79 hw) (by decide) m3 (rm_char6 l Z a0 hw a va k c0 c1 c2 c3 c4 c5 c6 fm cs h2 m3 m5 m6 m8 q5 q7 q8 q9 q10) all0 (by decide) rfl (argsL := [.int 6]) rfl (lenOf pd27 rfl) (W := 0) rfl (by decide) (by decide) (by decide) d42_22 rfl ?_
 intro v10 T10 h10 FX10 U10
 obtain ⟨rfl, rfl, u10_1⟩ := U10
 have X10 := FX10 [] (Or.inl rfl) all0
 show oGoes pp ee bb ss Z T10 (mkF mm 25 _ [.int c6]) _ _ _ _
 refine o_istore K X10 d42_25 rfl (L' := #[vR a, vI 5, vR b1, vI 6, vI c6]) rfl ?_
 refine o_iload K X10 d42_27 rfl rfl ?_
 refine o_bipush K X10 d42_29 rfl (z := 34) rfl ?_
 refine o_icmp_eq_f K X10 d42_31 rfl q4 ?_
 refine o_aloadN K X10 d42_34 rfl rfl rfl ?_
 refine o_iload K X10 d42_35 rfl rfl ?_
 have n11 := oLsz A1.lt u2_1
 refine o_virtual K X10   (w97 hw) (w98 hw) (oNF (w100 hw)) (w100 hw) (w99 hw) (w37 hw) (w101 hw) (by decide) u2_2 (rm_sbapp0 l Z a0 hw b1 r_2 k_2 c6 cs h2 u2_2 u2_3 u2_4 u2_5 u2_6 G1 G2_r n11 q6 q9 q10) (allS me1 (allS me0 all0)) (by decide) rfl (argsL := [.int c6]) rfl (lenOf pd28 rfl) (W := 0) rfl (by decide) (by decide) (by decide) d42_37 rfl ?_
 intro v12 T12 h12 FX12 U12
 obtain ⟨rfl, u12_0, u12_1, u12_2, u12_3, u12_4, u12_5⟩ := U12
 have X12 := FX12 [] (Or.inl rfl) all0
 show oGoes pp ee bb ss Z T12 (mkF mm 40 _ [.ref b1]) _ _ _ _
 refine o_pop K X12 d42_40 rfl rfl ?_
 refine o_iinc K X12 d42_41 rfl rfl (L' := #[vR a, vI 5, vR b1, vI 7, vI c6]) (by rw [show (6 : Int32) + Int32.ofInt 1 = (7 : Int32) from (by decide)]; rfl) ?_
 refine o_goto K X12 d42_44 (by decide) (pc' := 100) (by decide) ?_
 refine o_goto K X12 d42_100 (by decide) (pc' := 12) (by decide) ?_
 refine o_iloadN K X12 d42_12 rfl rfl ?_
 refine o_aloadN K X12 d42_13 rfl rfl rfl ?_
 have m13 := (m3.keep u12_0)
 have n14 := oLn q0.lt E1.1 u2_1
 have m15 := (m5.keep u12_0 (ninS n4 (ninS n14 nin0)))
 have m16 := (m6.keep u12_0 (ninS n4 (ninS n14 nin0)))
 have n17 := oLn q3.lt E1.1 u2_1
 have m18 := (m8.keep u12_0 (ninS n7 (ninS n17 nin0)))
 refine o_virtual K X12   (w53 hw) (w54 hw) (oNF (w56 hw)) (w56 hw) (w55 hw) (w4 hw) (w57 hw) (by decide) m13 (rm_strlen l Z a0 hw a va k c0 c1 c2 c3 c4 c5 c6 cs h12 m13 m15 m16 m18 q9 q10) all0 (by decide) rfl (argsL := []) rfl (lenOf pd10 rfl) (W := 1) rfl (by decide) (by decide) (by decide) d42_14 rfl ?_
 intro v19 T19 h19 FX19 U19
 obtain ⟨rfl, rfl⟩ := U19
 have X19 := FX19 [] (Or.inl rfl) all0
 show oGoes pp ee bb ss Z T19 (mkF mm 17 _ [.int 7, .int 7]) _ _ _ _
 refine o_icmp_ge_t K X19 d42_17 (by decide) (pc' := 103) (by decide) (by decide) ?_
 refine o_static K X19  (w63 hw) (w64 hw) (w65 hw) (w66 hw) (by decide) (rm_optempty l Z a0 hw em h12 q11) all0 (by decide) rfl (argsL := []) rfl (lenOf pd26 rfl) (W := 0) rfl (by decide) (by decide) (by decide) d42_103 rfl ?_
 intro v20 T20 h20 FX20 U20
 obtain ⟨rfl, rfl⟩ := U20
 have X20 := FX20 [] (Or.inl rfl) all0
 show oGoes pp ee bb ss Z T20 (mkF mm 106 _ [.ref em]) _ _ _ _
 refine o_areturn K X20 (t := (.object z3)) d42_106 rfl rfl rfl ?_ (by decide) (by decide) (by decide)
 exact ⟨rfl, ((((Keep.refl h0 []).ext E1).trans u2_0 (allS (Or.inr (oLe g1)) all0)).trans u12_0 (allS (Or.inr (oLe g1)) (allS (Or.inr (Nat.le_trans E1.1 u2_1)) all0)))⟩
def Q_read_n_1 (Z : State) (a va : Addr) (k : ClassId) (c0 c1 c2 c3 c4 c5 c6 : Int32) (fm : Value) (cs : Int32) (em : Addr) (h0 : Heap) (v : Option Value) (h : Heap) : Prop := ∃ r qt s sv : Addr, ∃ ks : ClassId, v = some (.ref r) ∧ Keep h0 h [] ∧ h0.size ≤ r ∧ Exa Z h r z3 ∧ Fld Z h r z3 "value" z11 (.ref qt) ∧ Exa Z h qt z2 ∧ Fld Z h qt z2 "value" z13 (.ref s) ∧ Fld Z h qt z2 "end" "I" (.int 7) ∧ h0.size ≤ s ∧ Exa Z h s z0 ∧ Fld Z h s z0 "value" "[B" (.ref sv) ∧ Fld Z h s z0 "coder" "B" (.int 0) ∧ oArr Z h sv ks .byte [(.int (nar .byte c5))]
theorem rm_read_n_1 (l : Launch) (Z : State) (a0 : Array Value) (hw : oHw Z a0) (a va : Addr) (k : ClassId) (c0 c1 c2 c3 c4 c5 c6 : Int32) (fm : Value) (cs : Int32) (em : Addr) (h0 : Heap) (q0 : Exa Z h0 a z0) (q1 : Fld Z h0 a z0 "value" "[B" (.ref va)) (q2 : Fld Z h0 a z0 "coder" "B" (.int 0)) (q3 : oArr Z h0 va k .byte [(.int (nar .byte c0)), (.int (nar .byte c1)), (.int (nar .byte c2)), (.int (nar .byte c3)), (.int (nar .byte c4)), (.int (nar .byte c5)), (.int (nar .byte c6))]) (q4 : c6 = (34 : Int32)) (q5 : ¬ (c5 = (34 : Int32))) (q6 : oCh c5) (q7 : oCh c6) (q8 : ¬ ((255 : Int32) < c5)) (q9 : Sta Z Z.heap z6 z7 z8 fm) (q10 : fm.isRef = true) (q11 : Sta Z Z.heap z0 z5 "Z" (.int cs)) (q12 : ¬ (cs = (0 : Int32))) (q13 : Sta Z Z.heap z3 "EMPTY" z14 (.ref em)) : oMet l Z (⟨z2, "read", z12⟩ : MethodName) prog_30_method_2_code 5 (some (.object z3)) r_read [] #[.ref a, .int 4] h0 (Q_read_n_1 Z a va k c0 c1 c2 c3 c4 c5 c6 fm cs em h0) [] false := by
 refine oEnter (oEW hw) (plainFor_of_name (by first | (simp [plainName, overriddenIn]; done) | decide +kernel)) (own := z2) (nm := "read") rfl rfl (L := #[.val (.ref a), .val (.int 4), .unset, .unset, .unset]) (fun m => by first | (simp [entryFrame, mkF, argsToLocals, Value.category, oCatRef q10]; done) | rfl) ?_
 intro pp ee ss mm bb mtd cc T0 K X0
 have E0 := X0.ext0
 refine o_new K X0 (w35 hw) (w36 hw) (w37 hw) d42_0 rfl (by decide) (by decide) ?_
 intro T1 h1 b1 X1 g1 E1 A1 D1 G1
 have F1_value : Fld Z h1 b1 z1 "value" "[B" .null := (D1 (Or.inl (w50 hw)) (ty := (.array .byte)) (by decide))
 have F1_coder : Fld Z h1 b1 z1 "coder" "B" (.int 0) := (D1 (Or.inl (w52 hw)) (ty := .byte) (by decide))
 have F1_count : Fld Z h1 b1 z1 "count" "I" (.int 0) := (D1 (Or.inl (w108 hw)) (ty := .int) (by decide))
 refine o_dup K X1 d42_3 rfl rfl ?_
 refine o_special K X1 (y := (⟨z4, "<init>", "()V"⟩ : MethodName)) rfl (w38 hw) (w39 hw) (w37 hw) (w40 hw) (by decide) (rm_sbinit l Z a0 hw b1 cs h1 A1 F1_value F1_coder F1_count G1 q11 q12) (allS me0 all0) (by decide) rfl (argsL := []) rfl (lenOf pd17 rfl) (W := 1) rfl (by decide) (by decide) (by decide) d42_4 rfl ?_
 intro v2 T2 h2 FX2 U2
 obtain ⟨r_2, k_2, rfl, u2_0, u2_1, u2_2, u2_3, u2_4, u2_5, u2_6⟩ := U2
 have G2_r : Z.heap.size ≤ r_2 := Nat.le_trans X1.ext0.1 u2_1
 have X2 := FX2 [r_2] (Or.inl rfl) (allS ⟨u2_1, u2_6.lt⟩ all0)
 show oGoes pp ee bb ss Z T2 (mkF mm 7 _ [.ref b1]) _ _ _ _
 refine o_astoreN K X2 d42_7 rfl rfl (L' := #[vR a, vI 4, vR b1, uS, uS]) rfl ?_
 refine o_iloadN K X2 d42_8 rfl rfl ?_
 refine o_iconst K X2 d42_9 rfl (z := 1) rfl ?_
 refine o_iadd K X2 d42_10 rfl (z := 5) (by decide) ?_
 refine o_istoreN K X2 d42_11 rfl (L' := #[vR a, vI 4, vR b1, vI 5, uS]) rfl ?_
 refine o_iloadN K X2 d42_12 rfl rfl ?_
 refine o_aloadN K X2 d42_13 rfl rfl rfl ?_
 have m3 := ((q0.ext E1).keep u2_0)
 have n4 := oLz q0.lt (oLe g1)
 have m5 := ((q1.ext E1).keep u2_0 (ninS n4 nin0))
 have m6 := ((q2.ext E1).keep u2_0 (ninS n4 nin0))
 have n7 := oLz q3.lt (oLe g1)
 have m8 := ((q3.ext E1).keep u2_0 (ninS n7 nin0))
 refine o_virtual K X2   (w53 hw) (w54 hw) (oNF (w56 hw)) (w56 hw) (w55 hw) (w4 hw) (w57 hw) (by decide) m3 (rm_strlen l Z a0 hw a va k c0 c1 c2 c3 c4 c5 c6 cs h2 m3 m5 m6 m8 q11 q12) all0 (by decide) rfl (argsL := []) rfl (lenOf pd10 rfl) (W := 1) rfl (by decide) (by decide) (by decide) d42_14 rfl ?_
 intro v9 T9 h9 FX9 U9
 obtain ⟨rfl, rfl⟩ := U9
 have X9 := FX9 [] (Or.inl rfl) all0
 show oGoes pp ee bb ss Z T9 (mkF mm 17 _ [.int 7, .int 5]) _ _ _ _
 refine o_icmp_ge_f K X9 d42_17 rfl (by decide) ?_
 refine o_aloadN K X9 d42_20 rfl rfl rfl ?_
 refine o_iloadN K X9 d42_21 rfl rfl ?_
 refine o_virtual K X9   (w75 hw) (w76 hw) (oNF (w78 hw)) (w78 hw) (w77 hw) (w4 hw) (w79 hw) (by decide) m3 (rm_char5 l Z a0 hw a va k c0 c1 c2 c3 c4 c5 c6 fm cs h2 m3 m5 m6 m8 q6 q9 q10 q11 q12) all0 (by decide) rfl (argsL := [.int 5]) rfl (lenOf pd27 rfl) (W := 0) rfl (by decide) (by decide) (by decide) d42_22 rfl ?_
 intro v10 T10 h10 FX10 U10
 obtain ⟨rfl, rfl, u10_1⟩ := U10
 have X10 := FX10 [] (Or.inl rfl) all0
 show oGoes pp ee bb ss Z T10 (mkF mm 25 _ [.int c5]) _ _ _ _
 refine o_istore K X10 d42_25 rfl (L' := #[vR a, vI 4, vR b1, vI 5, vI c5]) rfl ?_
 refine o_iload K X10 d42_27 rfl rfl ?_
 refine o_bipush K X10 d42_29 rfl (z := 34) rfl ?_
 refine o_icmp_eq_f K X10 d42_31 rfl q5 ?_
 refine o_aloadN K X10 d42_34 rfl rfl rfl ?_
 refine o_iload K X10 d42_35 rfl rfl ?_
 have n11 := oLsz A1.lt u2_1
 refine o_virtual K X10   (w97 hw) (w98 hw) (oNF (w100 hw)) (w100 hw) (w99 hw) (w37 hw) (w101 hw) (by decide) u2_2 (rm_sbapp0 l Z a0 hw b1 r_2 k_2 c5 cs h2 u2_2 u2_3 u2_4 u2_5 u2_6 G1 G2_r n11 q8 q11 q12) (allS me1 (allS me0 all0)) (by decide) rfl (argsL := [.int c5]) rfl (lenOf pd28 rfl) (W := 0) rfl (by decide) (by decide) (by decide) d42_37 rfl ?_
 intro v12 T12 h12 FX12 U12
 obtain ⟨rfl, u12_0, u12_1, u12_2, u12_3, u12_4, u12_5⟩ := U12
 have X12 := FX12 [] (Or.inl rfl) all0
 show oGoes pp ee bb ss Z T12 (mkF mm 40 _ [.ref b1]) _ _ _ _
 refine o_pop K X12 d42_40 rfl rfl ?_
 refine o_iinc K X12 d42_41 rfl rfl (L' := #[vR a, vI 4, vR b1, vI 6, vI c5]) (by rw [show (5 : Int32) + Int32.ofInt 1 = (6 : Int32) from (by decide)]; rfl) ?_
 refine o_goto K X12 d42_44 (by decide) (pc' := 100) (by decide) ?_
 refine o_goto K X12 d42_100 (by decide) (pc' := 12) (by decide) ?_
 refine o_iloadN K X12 d42_12 rfl rfl ?_
 refine o_aloadN K X12 d42_13 rfl rfl rfl ?_
 have m13 := (m3.keep u12_0)
 have n14 := oLn q0.lt E1.1 u2_1
 have m15 := (m5.keep u12_0 (ninS n4 (ninS n14 nin0)))
 have m16 := (m6.keep u12_0 (ninS n4 (ninS n14 nin0)))
 have n17 := oLn q3.lt E1.1 u2_1
 have m18 := (m8.keep u12_0 (ninS n7 (ninS n17 nin0)))
 refine o_virtual K X12   (w53 hw) (w54 hw) (oNF (w56 hw)) (w56 hw) (w55 hw) (w4 hw) (w57 hw) (by decide) m13 (rm_strlen l Z a0 hw a va k c0 c1 c2 c3 c4 c5 c6 cs h12 m13 m15 m16 m18 q11 q12) all0 (by decide) rfl (argsL := []) rfl (lenOf pd10 rfl) (W := 1) rfl (by decide) (by decide) (by decide) d42_14 rfl ?_
 intro v19 T19 h19 FX19 U19
 obtain ⟨rfl, rfl⟩ := U19
 have X19 := FX19 [] (Or.inl rfl) all0
 show oGoes pp ee bb ss Z T19 (mkF mm 17 _ [.int 7, .int 6]) _ _ _ _
 refine o_icmp_ge_f K X19 d42_17 rfl (by decide) ?_
 refine o_aloadN K X19 d42_20 rfl rfl rfl ?_
 refine o_iloadN K X19 d42_21 rfl rfl ?_
 refine o_virtual K X19   (w75 hw) (w76 hw) (oNF (w78 hw)) (w78 hw) (w77 hw) (w4 hw) (w79 hw) (by decide) m13 (rm_char6 l Z a0 hw a va k c0 c1 c2 c3 c4 c5 c6 fm cs h12 m13 m15 m16 m18 q7 q9 q10 q11 q12) all0 (by decide) rfl (argsL := [.int 6]) rfl (lenOf pd27 rfl) (W := 0) rfl (by decide) (by decide) (by decide) d42_22 rfl ?_
 intro v20 T20 h20 FX20 U20
 obtain ⟨rfl, rfl, u20_1⟩ := U20
 have X20 := FX20 [] (Or.inl rfl) all0
 show oGoes pp ee bb ss Z T20 (mkF mm 25 _ [.int c6]) _ _ _ _
 refine o_istore K X20 d42_25 rfl (L' := #[vR a, vI 4, vR b1, vI 6, vI c6]) rfl ?_
 refine o_iload K X20 d42_27 rfl rfl ?_
 refine o_bipush K X20 d42_29 rfl (z := 34) rfl ?_
 refine o_icmp_eq_t K X20 d42_31 (by decide) (pc' := 47) (by decide) q4 ?_
 refine o_iloadN K X20 d42_47 rfl rfl ?_
 refine o_iconst K X20 d42_48 rfl (z := 1) rfl ?_
 refine o_iadd K X20 d42_49 rfl (z := 7) (by decide) ?_
 refine o_aloadN K X20 d42_50 rfl rfl rfl ?_
 refine o_virtual K X20   (w53 hw) (w54 hw) (oNF (w56 hw)) (w56 hw) (w55 hw) (w4 hw) (w57 hw) (by decide) m13 (rm_strlen l Z a0 hw a va k c0 c1 c2 c3 c4 c5 c6 cs h12 m13 m15 m16 m18 q11 q12) all0 (by decide) rfl (argsL := []) rfl (lenOf pd10 rfl) (W := 1) rfl (by decide) (by decide) (by decide) d42_51 rfl ?_
 intro v21 T21 h21 FX21 U21
 obtain ⟨rfl, rfl⟩ := U21
 have X21 := FX21 [] (Or.inl rfl) all0
 show oGoes pp ee bb ss Z T21 (mkF mm 54 _ [.int 7, .int 7]) _ _ _ _
 refine o_icmp_ge_t K X21 d42_54 (by decide) (pc' := 82) (by decide) (by decide) ?_
 refine tl_rd1 l Z a0 hw a 4 b1 6 c6 7 r_2 k_2 (nar .byte c5) cs h12 u12_1 u12_2 u12_3 u12_4 u12_5 q11 q12 (by decide) (fun v22 h22 U22 => ?_) K (X21.mono (by decide) (by decide) (by decide) all0)
 obtain ⟨r_22, qt_22, s_22, sv_22, ks_22, rfl, u22_0, u22_1, u22_2, u22_3, u22_4, u22_5, u22_6, u22_7, u22_8, u22_9, u22_10, u22_11⟩ := U22
 have G22_r : Z.heap.size ≤ r_22 := Nat.le_trans X21.ext0.1 u22_1
 have G22_s : Z.heap.size ≤ s_22 := Nat.le_trans X21.ext0.1 u22_7
 have y0_3 := Nat.le_trans (Nat.le_trans E1.1 u2_0.1) u12_0.1
 exact ⟨r_22, qt_22, s_22, sv_22, ks_22, rfl, (((((Keep.refl h0 []).ext E1).trans u2_0 (allS (Or.inr (oLe g1)) all0)).trans u12_0 (allS (Or.inr (oLe g1)) (allS (Or.inr (Nat.le_trans E1.1 u2_1)) all0))).trans u22_0 all0), (Nat.le_trans y0_3 u22_1), u22_2, u22_3, u22_4, u22_5, u22_6, (Nat.le_trans y0_3 u22_7), u22_8, u22_9, u22_10, u22_11⟩
def Q_read_n_2 (Z : State) (a va : Addr) (k : ClassId) (c0 c1 c2 c3 c4 c5 c6 : Int32) (fm : Value) (cs : Int32) (em : Addr) (h0 : Heap) (v : Option Value) (h : Heap) : Prop := ∃ r qt s sv : Addr, ∃ ks : ClassId, v = some (.ref r) ∧ Keep h0 h [] ∧ h0.size ≤ r ∧ Exa Z h r z3 ∧ Fld Z h r z3 "value" z11 (.ref qt) ∧ Exa Z h qt z2 ∧ Fld Z h qt z2 "value" z13 (.ref s) ∧ Fld Z h qt z2 "end" "I" (.int 6) ∧ h0.size ≤ s ∧ Exa Z h s z0 ∧ Fld Z h s z0 "value" "[B" (.ref sv) ∧ Fld Z h s z0 "coder" "B" (.int 0) ∧ oArr Z h sv ks .byte [(.int (nar .byte c4))]
theorem rm_read_n_2 (l : Launch) (Z : State) (a0 : Array Value) (hw : oHw Z a0) (a va : Addr) (k : ClassId) (c0 c1 c2 c3 c4 c5 c6 : Int32) (fm : Value) (cs : Int32) (em : Addr) (h0 : Heap) (q0 : Exa Z h0 a z0) (q1 : Fld Z h0 a z0 "value" "[B" (.ref va)) (q2 : Fld Z h0 a z0 "coder" "B" (.int 0)) (q3 : oArr Z h0 va k .byte [(.int (nar .byte c0)), (.int (nar .byte c1)), (.int (nar .byte c2)), (.int (nar .byte c3)), (.int (nar .byte c4)), (.int (nar .byte c5)), (.int (nar .byte c6))]) (q4 : c5 = (34 : Int32)) (q5 : ¬ (c4 = (34 : Int32))) (q6 : ¬ (c6 = (34 : Int32))) (q7 : oCh c4) (q8 : oCh c5) (q9 : oCh c6) (q10 : ¬ ((255 : Int32) < c4)) (q11 : ¬ ((255 : Int32) < c6)) (q12 : Sta Z Z.heap z6 z7 z8 fm) (q13 : fm.isRef = true) (q14 : Sta Z Z.heap z0 z5 "Z" (.int cs)) (q15 : ¬ (cs = (0 : Int32))) (q16 : Sta Z Z.heap z3 "EMPTY" z14 (.ref em)) : oMet l Z (⟨z2, "read", z12⟩ : MethodName) prog_30_method_2_code 5 (some (.object z3)) r_read [] #[.ref a, .int 3] h0 (Q_read_n_2 Z a va k c0 c1 c2 c3 c4 c5 c6 fm cs em h0) [] false := by
 refine oEnter (oEW hw) (plainFor_of_name (by first | (simp [plainName, overriddenIn]; done) | decide +kernel)) (own := z2) (nm := "read") rfl rfl (L := #[.val (.ref a), .val (.int 3), .unset, .unset, .unset]) (fun m => by first | (simp [entryFrame, mkF, argsToLocals, Value.category, oCatRef q13]; done) | rfl) ?_
 intro pp ee ss mm bb mtd cc T0 K X0
 have E0 := X0.ext0
 refine o_new K X0 (w35 hw) (w36 hw) (w37 hw) d42_0 rfl (by decide) (by decide) ?_
 intro T1 h1 b1 X1 g1 E1 A1 D1 G1
 have F1_value : Fld Z h1 b1 z1 "value" "[B" .null := (D1 (Or.inl (w50 hw)) (ty := (.array .byte)) (by decide))
 have F1_coder : Fld Z h1 b1 z1 "coder" "B" (.int 0) := (D1 (Or.inl (w52 hw)) (ty := .byte) (by decide))
 have F1_count : Fld Z h1 b1 z1 "count" "I" (.int 0) := (D1 (Or.inl (w108 hw)) (ty := .int) (by decide))
 refine o_dup K X1 d42_3 rfl rfl ?_
 refine o_special K X1 (y := (⟨z4, "<init>", "()V"⟩ : MethodName)) rfl (w38 hw) (w39 hw) (w37 hw) (w40 hw) (by decide) (rm_sbinit l Z a0 hw b1 cs h1 A1 F1_value F1_coder F1_count G1 q14 q15) (allS me0 all0) (by decide) rfl (argsL := []) rfl (lenOf pd17 rfl) (W := 1) rfl (by decide) (by decide) (by decide) d42_4 rfl ?_
 intro v2 T2 h2 FX2 U2
 obtain ⟨r_2, k_2, rfl, u2_0, u2_1, u2_2, u2_3, u2_4, u2_5, u2_6⟩ := U2
 have G2_r : Z.heap.size ≤ r_2 := Nat.le_trans X1.ext0.1 u2_1
 have X2 := FX2 [r_2] (Or.inl rfl) (allS ⟨u2_1, u2_6.lt⟩ all0)
 show oGoes pp ee bb ss Z T2 (mkF mm 7 _ [.ref b1]) _ _ _ _
 refine o_astoreN K X2 d42_7 rfl rfl (L' := #[vR a, vI 3, vR b1, uS, uS]) rfl ?_
 refine o_iloadN K X2 d42_8 rfl rfl ?_
 refine o_iconst K X2 d42_9 rfl (z := 1) rfl ?_
 refine o_iadd K X2 d42_10 rfl (z := 4) (by decide) ?_
 refine o_istoreN K X2 d42_11 rfl (L' := #[vR a, vI 3, vR b1, vI 4, uS]) rfl ?_
 refine o_iloadN K X2 d42_12 rfl rfl ?_
 refine o_aloadN K X2 d42_13 rfl rfl rfl ?_
 have m3 := ((q0.ext E1).keep u2_0)
 have n4 := oLz q0.lt (oLe g1)
 have m5 := ((q1.ext E1).keep u2_0 (ninS n4 nin0))
 have m6 := ((q2.ext E1).keep u2_0 (ninS n4 nin0))
 have n7 := oLz q3.lt (oLe g1)
 have m8 := ((q3.ext E1).keep u2_0 (ninS n7 nin0))
 refine o_virtual K X2   (w53 hw) (w54 hw) (oNF (w56 hw)) (w56 hw) (w55 hw) (w4 hw) (w57 hw) (by decide) m3 (rm_strlen l Z a0 hw a va k c0 c1 c2 c3 c4 c5 c6 cs h2 m3 m5 m6 m8 q14 q15) all0 (by decide) rfl (argsL := []) rfl (lenOf pd10 rfl) (W := 1) rfl (by decide) (by decide) (by decide) d42_14 rfl ?_
 intro v9 T9 h9 FX9 U9
 obtain ⟨rfl, rfl⟩ := U9
 have X9 := FX9 [] (Or.inl rfl) all0
 show oGoes pp ee bb ss Z T9 (mkF mm 17 _ [.int 7, .int 4]) _ _ _ _
 refine o_icmp_ge_f K X9 d42_17 rfl (by decide) ?_
 refine o_aloadN K X9 d42_20 rfl rfl rfl ?_
 refine o_iloadN K X9 d42_21 rfl rfl ?_
 refine o_virtual K X9   (w75 hw) (w76 hw) (oNF (w78 hw)) (w78 hw) (w77 hw) (w4 hw) (w79 hw) (by decide) m3 (rm_char4 l Z a0 hw a va k c0 c1 c2 c3 c4 c5 c6 fm cs h2 m3 m5 m6 m8 q7 q12 q13 q14 q15) all0 (by decide) rfl (argsL := [.int 4]) rfl (lenOf pd27 rfl) (W := 0) rfl (by decide) (by decide) (by decide) d42_22 rfl ?_
 intro v10 T10 h10 FX10 U10
 obtain ⟨rfl, rfl, u10_1⟩ := U10
 have X10 := FX10 [] (Or.inl rfl) all0
 show oGoes pp ee bb ss Z T10 (mkF mm 25 _ [.int c4]) _ _ _ _
 refine o_istore K X10 d42_25 rfl (L' := #[vR a, vI 3, vR b1, vI 4, vI c4]) rfl ?_
 refine o_iload K X10 d42_27 rfl rfl ?_
 refine o_bipush K X10 d42_29 rfl (z := 34) rfl ?_
 refine o_icmp_eq_f K X10 d42_31 rfl q5 ?_
 refine o_aloadN K X10 d42_34 rfl rfl rfl ?_
 refine o_iload K X10 d42_35 rfl rfl ?_
 have n11 := oLsz A1.lt u2_1
 refine o_virtual K X10   (w97 hw) (w98 hw) (oNF (w100 hw)) (w100 hw) (w99 hw) (w37 hw) (w101 hw) (by decide) u2_2 (rm_sbapp0 l Z a0 hw b1 r_2 k_2 c4 cs h2 u2_2 u2_3 u2_4 u2_5 u2_6 G1 G2_r n11 q10 q14 q15) (allS me1 (allS me0 all0)) (by decide) rfl (argsL := [.int c4]) rfl (lenOf pd28 rfl) (W := 0) rfl (by decide) (by decide) (by decide) d42_37 rfl ?_
 intro v12 T12 h12 FX12 U12
 obtain ⟨rfl, u12_0, u12_1, u12_2, u12_3, u12_4, u12_5⟩ := U12
 have X12 := FX12 [] (Or.inl rfl) all0
 show oGoes pp ee bb ss Z T12 (mkF mm 40 _ [.ref b1]) _ _ _ _
 refine o_pop K X12 d42_40 rfl rfl ?_
 refine o_iinc K X12 d42_41 rfl rfl (L' := #[vR a, vI 3, vR b1, vI 5, vI c4]) (by rw [show (4 : Int32) + Int32.ofInt 1 = (5 : Int32) from (by decide)]; rfl) ?_
 refine o_goto K X12 d42_44 (by decide) (pc' := 100) (by decide) ?_
 refine o_goto K X12 d42_100 (by decide) (pc' := 12) (by decide) ?_
 refine o_iloadN K X12 d42_12 rfl rfl ?_
 refine o_aloadN K X12 d42_13 rfl rfl rfl ?_
 have m13 := (m3.keep u12_0)
 have n14 := oLn q0.lt E1.1 u2_1
 have m15 := (m5.keep u12_0 (ninS n4 (ninS n14 nin0)))
 have m16 := (m6.keep u12_0 (ninS n4 (ninS n14 nin0)))
 have n17 := oLn q3.lt E1.1 u2_1
 have m18 := (m8.keep u12_0 (ninS n7 (ninS n17 nin0)))
 refine o_virtual K X12   (w53 hw) (w54 hw) (oNF (w56 hw)) (w56 hw) (w55 hw) (w4 hw) (w57 hw) (by decide) m13 (rm_strlen l Z a0 hw a va k c0 c1 c2 c3 c4 c5 c6 cs h12 m13 m15 m16 m18 q14 q15) all0 (by decide) rfl (argsL := []) rfl (lenOf pd10 rfl) (W := 1) rfl (by decide) (by decide) (by decide) d42_14 rfl ?_
 intro v19 T19 h19 FX19 U19
 obtain ⟨rfl, rfl⟩ := U19
 have X19 := FX19 [] (Or.inl rfl) all0
 show oGoes pp ee bb ss Z T19 (mkF mm 17 _ [.int 7, .int 5]) _ _ _ _
 refine o_icmp_ge_f K X19 d42_17 rfl (by decide) ?_
 refine o_aloadN K X19 d42_20 rfl rfl rfl ?_
 refine o_iloadN K X19 d42_21 rfl rfl ?_
 refine o_virtual K X19   (w75 hw) (w76 hw) (oNF (w78 hw)) (w78 hw) (w77 hw) (w4 hw) (w79 hw) (by decide) m13 (rm_char5 l Z a0 hw a va k c0 c1 c2 c3 c4 c5 c6 fm cs h12 m13 m15 m16 m18 q8 q12 q13 q14 q15) all0 (by decide) rfl (argsL := [.int 5]) rfl (lenOf pd27 rfl) (W := 0) rfl (by decide) (by decide) (by decide) d42_22 rfl ?_
 intro v20 T20 h20 FX20 U20
 obtain ⟨rfl, rfl, u20_1⟩ := U20
 have X20 := FX20 [] (Or.inl rfl) all0
 show oGoes pp ee bb ss Z T20 (mkF mm 25 _ [.int c5]) _ _ _ _
 refine o_istore K X20 d42_25 rfl (L' := #[vR a, vI 3, vR b1, vI 5, vI c5]) rfl ?_
 refine o_iload K X20 d42_27 rfl rfl ?_
 refine o_bipush K X20 d42_29 rfl (z := 34) rfl ?_
 refine o_icmp_eq_t K X20 d42_31 (by decide) (pc' := 47) (by decide) q4 ?_
 refine o_iloadN K X20 d42_47 rfl rfl ?_
 refine o_iconst K X20 d42_48 rfl (z := 1) rfl ?_
 refine o_iadd K X20 d42_49 rfl (z := 6) (by decide) ?_
 refine o_aloadN K X20 d42_50 rfl rfl rfl ?_
 refine o_virtual K X20   (w53 hw) (w54 hw) (oNF (w56 hw)) (w56 hw) (w55 hw) (w4 hw) (w57 hw) (by decide) m13 (rm_strlen l Z a0 hw a va k c0 c1 c2 c3 c4 c5 c6 cs h12 m13 m15 m16 m18 q14 q15) all0 (by decide) rfl (argsL := []) rfl (lenOf pd10 rfl) (W := 1) rfl (by decide) (by decide) (by decide) d42_51 rfl ?_
 intro v21 T21 h21 FX21 U21
 obtain ⟨rfl, rfl⟩ := U21
 have X21 := FX21 [] (Or.inl rfl) all0
 show oGoes pp ee bb ss Z T21 (mkF mm 54 _ [.int 7, .int 6]) _ _ _ _
 refine o_icmp_ge_f K X21 d42_54 rfl (by decide) ?_
 refine o_aloadN K X21 d42_57 rfl rfl rfl ?_
 refine o_iloadN K X21 d42_58 rfl rfl ?_
 refine o_iconst K X21 d42_59 rfl (z := 1) rfl ?_
 refine o_iadd K X21 d42_60 rfl (z := 6) (by decide) ?_
 refine o_virtual K X21   (w75 hw) (w76 hw) (oNF (w78 hw)) (w78 hw) (w77 hw) (w4 hw) (w79 hw) (by decide) m13 (rm_char6 l Z a0 hw a va k c0 c1 c2 c3 c4 c5 c6 fm cs h12 m13 m15 m16 m18 q9 q12 q13 q14 q15) all0 (by decide) rfl (argsL := [.int 6]) rfl (lenOf pd27 rfl) (W := 0) rfl (by decide) (by decide) (by decide) d42_61 rfl ?_
 intro v22 T22 h22 FX22 U22
 obtain ⟨rfl, rfl, u22_1⟩ := U22
 have X22 := FX22 [] (Or.inl rfl) all0
 show oGoes pp ee bb ss Z T22 (mkF mm 64 _ [.int c6]) _ _ _ _
 refine o_bipush K X22 d42_64 rfl (z := 34) rfl ?_
 refine o_icmp_ne_t K X22 d42_66 (by decide) (pc' := 82) (by decide) q6 ?_
 refine tl_rd1 l Z a0 hw a 3 b1 5 c5 6 r_2 k_2 (nar .byte c4) cs h12 u12_1 u12_2 u12_3 u12_4 u12_5 q14 q15 (by decide) (fun v23 h23 U23 => ?_) K (X22.mono (by decide) (by decide) (by decide) all0)
 obtain ⟨r_23, qt_23, s_23, sv_23, ks_23, rfl, u23_0, u23_1, u23_2, u23_3, u23_4, u23_5, u23_6, u23_7, u23_8, u23_9, u23_10, u23_11⟩ := U23
 have G23_r : Z.heap.size ≤ r_23 := Nat.le_trans X22.ext0.1 u23_1
 have G23_s : Z.heap.size ≤ s_23 := Nat.le_trans X22.ext0.1 u23_7
 have y0_3 := Nat.le_trans (Nat.le_trans E1.1 u2_0.1) u12_0.1
 exact ⟨r_23, qt_23, s_23, sv_23, ks_23, rfl, (((((Keep.refl h0 []).ext E1).trans u2_0 (allS (Or.inr (oLe g1)) all0)).trans u12_0 (allS (Or.inr (oLe g1)) (allS (Or.inr (Nat.le_trans E1.1 u2_1)) all0))).trans u23_0 all0), (Nat.le_trans y0_3 u23_1), u23_2, u23_3, u23_4, u23_5, u23_6, (Nat.le_trans y0_3 u23_7), u23_8, u23_9, u23_10, u23_11⟩
theorem d42_69 : decode prog_30_method_2_code 69 = .ok (.aload_n 2, 1) := by decide +kernel
theorem d42_70 : decode prog_30_method_2_code 70 = .ok (.bipush 34, 2) := by decide +kernel
theorem d42_72 : decode prog_30_method_2_code 72 = .ok (.invokevirtual 30, 3) := by decide +kernel
theorem d42_75 : decode prog_30_method_2_code 75 = .ok (.pop, 1) := by decide +kernel
theorem d42_76 : decode prog_30_method_2_code 76 = .ok (.iinc 3 2, 3) := by decide +kernel
theorem d42_79 : decode prog_30_method_2_code 79 = .ok (.goto 21, 3) := by decide +kernel
def Q_read_q_0 (Z : State) (a va : Addr) (k : ClassId) (c0 c1 c2 c3 c4 c5 c6 : Int32) (fm : Value) (cs : Int32) (em : Addr) (h0 : Heap) (v : Option Value) (h : Heap) : Prop := v = some (.ref em) ∧ Keep h0 h []
theorem rm_read_q_0 (l : Launch) (Z : State) (a0 : Array Value) (hw : oHw Z a0) (a va : Addr) (k : ClassId) (c0 c1 c2 c3 c4 c5 c6 : Int32) (fm : Value) (cs : Int32) (em : Addr) (h0 : Heap) (q0 : Exa Z h0 a z0) (q1 : Fld Z h0 a z0 "value" "[B" (.ref va)) (q2 : Fld Z h0 a z0 "coder" "B" (.int 0)) (q3 : oArr Z h0 va k .byte [(.int (nar .byte c0)), (.int (nar .byte c1)), (.int (nar .byte c2)), (.int (nar .byte c3)), (.int (nar .byte c4)), (.int (nar .byte c5)), (.int (nar .byte c6))]) (q4 : c5 = (34 : Int32)) (q5 : c6 = (34 : Int32)) (q6 : oCh c5) (q7 : oCh c6) (q8 : Sta Z Z.heap z6 z7 z8 fm) (q9 : fm.isRef = true) (q10 : Sta Z Z.heap z0 z5 "Z" (.int cs)) (q11 : ¬ (cs = (0 : Int32))) (q12 : Sta Z Z.heap z3 "EMPTY" z14 (.ref em)) : oMet l Z (⟨z2, "read", z12⟩ : MethodName) prog_30_method_2_code 5 (some (.object z3)) r_read [] #[.ref a, .int 4] h0 (Q_read_q_0 Z a va k c0 c1 c2 c3 c4 c5 c6 fm cs em h0) [] false := by
 refine oEnter (oEW hw) (plainFor_of_name (by first | (simp [plainName, overriddenIn]; done) | decide +kernel)) (own := z2) (nm := "read") rfl rfl (L := #[.val (.ref a), .val (.int 4), .unset, .unset, .unset]) (fun m => by first | (simp [entryFrame, mkF, argsToLocals, Value.category, oCatRef q9]; done) | rfl) ?_
 intro pp ee ss mm bb mtd cc T0 K X0
 have E0 := X0.ext0
 refine o_new K X0 (w35 hw) (w36 hw) (w37 hw) d42_0 rfl (by decide) (by decide) ?_
 intro T1 h1 b1 X1 g1 E1 A1 D1 G1
 have F1_value : Fld Z h1 b1 z1 "value" "[B" .null := (D1 (Or.inl (w50 hw)) (ty := (.array .byte)) (by decide))
 have F1_coder : Fld Z h1 b1 z1 "coder" "B" (.int 0) := (D1 (Or.inl (w52 hw)) (ty := .byte) (by decide))
 have F1_count : Fld Z h1 b1 z1 "count" "I" (.int 0) := (D1 (Or.inl (w108 hw)) (ty := .int) (by decide))
 refine o_dup K X1 d42_3 rfl rfl ?_
 refine o_special K X1 (y := (⟨z4, "<init>", "()V"⟩ : MethodName)) rfl (w38 hw) (w39 hw) (w37 hw) (w40 hw) (by decide) (rm_sbinit l Z a0 hw b1 cs h1 A1 F1_value F1_coder F1_count G1 q10 q11) (allS me0 all0) (by decide) rfl (argsL := []) rfl (lenOf pd17 rfl) (W := 1) rfl (by decide) (by decide) (by decide) d42_4 rfl ?_
 intro v2 T2 h2 FX2 U2
 obtain ⟨r_2, k_2, rfl, u2_0, u2_1, u2_2, u2_3, u2_4, u2_5, u2_6⟩ := U2
 have G2_r : Z.heap.size ≤ r_2 := Nat.le_trans X1.ext0.1 u2_1
 have X2 := FX2 [r_2] (Or.inl rfl) (allS ⟨u2_1, u2_6.lt⟩ all0)
 show oGoes pp ee bb ss Z T2 (mkF mm 7 _ [.ref b1]) _ _ _ _
 refine o_astoreN K X2 d42_7 rfl rfl (L' := #[vR a, vI 4, vR b1, uS, uS]) rfl ?_
 refine o_iloadN K X2 d42_8 rfl rfl ?_
 refine o_iconst K X2 d42_9 rfl (z := 1) rfl ?_
 refine o_iadd K X2 d42_10 rfl (z := 5) (by decide) ?_
 refine o_istoreN K X2 d42_11 rfl (L' := #[vR a, vI 4, vR b1, vI 5, uS]) rfl ?_
 refine o_iloadN K X2 d42_12 rfl rfl ?_
 refine o_aloadN K X2 d42_13 rfl rfl rfl ?_
 have m3 := ((q0.ext E1).keep u2_0)
 have n4 := oLz q0.lt (oLe g1)
 have m5 := ((q1.ext E1).keep u2_0 (ninS n4 nin0))
 have m6 := ((q2.ext E1).keep u2_0 (ninS n4 nin0))
 have n7 := oLz q3.lt (oLe g1)
 have m8 := ((q3.ext E1).keep u2_0 (ninS n7 nin0))
 refine o_virtual K X2   (w53 hw) (w54 hw) (oNF (w56 hw)) (w56 hw) (w55 hw) (w4 hw) (w57 hw) (by decide) m3 (rm_strlen l Z a0 hw a va k c0 c1 c2 c3 c4 c5 c6 cs h2 m3 m5 m6 m8 q10 q11) all0 (by decide) rfl (argsL := []) rfl (lenOf pd10 rfl) (W := 1) rfl (by decide) (by decide) (by decide) d42_14 rfl ?_
 intro v9 T9 h9 FX9 U9
 obtain ⟨rfl, rfl⟩ := U9
 have X9 := FX9 [] (Or.inl rfl) all0
 show oGoes pp ee bb ss Z T9 (mkF mm 17 _ [.int 7, .int 5]) _ _ _ _
 refine o_icmp_ge_f K X9 d42_17 rfl (by decide) ?_
 refine o_aloadN K X9 d42_20 rfl rfl rfl ?_
 refine o_iloadN K X9 d42_21 rfl rfl ?_
 refine o_virtual K X9   (w75 hw) (w76 hw) (oNF (w78 hw)) (w78 hw) (w77 hw) (w4 hw) (w79 hw) (by decide) m3 (rm_char5 l Z a0 hw a va k c0 c1 c2 c3 c4 c5 c6 fm cs h2 m3 m5 m6 m8 q6 q8 q9 q10 q11) all0 (by decide) rfl (argsL := [.int 5]) rfl (lenOf pd27 rfl) (W := 0) rfl (by decide) (by decide) (by decide) d42_22 rfl ?_
 intro v10 T10 h10 FX10 U10
 obtain ⟨rfl, rfl, u10_1⟩ := U10
 have X10 := FX10 [] (Or.inl rfl) all0
 show oGoes pp ee bb ss Z T10 (mkF mm 25 _ [.int c5]) _ _ _ _
 refine o_istore K X10 d42_25 rfl (L' := #[vR a, vI 4, vR b1, vI 5, vI c5]) rfl ?_
 refine o_iload K X10 d42_27 rfl rfl ?_
 refine o_bipush K X10 d42_29 rfl (z := 34) rfl ?_
 refine o_icmp_eq_t K X10 d42_31 (by decide) (pc' := 47) (by decide) q4 ?_
 refine o_iloadN K X10 d42_47 rfl rfl ?_
 refine o_iconst K X10 d42_48 rfl (z := 1) rfl ?_
 refine o_iadd K X10 d42_49 rfl (z := 6) (by decide) ?_
 refine o_aloadN K X10 d42_50 rfl rfl rfl ?_
 refine o_virtual K X10   (w53 hw) (w54 hw) (oNF (w56 hw)) (w56 hw) (w55 hw) (w4 hw) (w57 hw) (by decide) m3 (rm_strlen l Z a0 hw a va k c0 c1 c2 c3 c4 c5 c6 cs h2 m3 m5 m6 m8 q10 q11) all0 (by decide) rfl (argsL := []) rfl (lenOf pd10 rfl) (W := 1) rfl (by decide) (by decide) (by decide) d42_51 rfl ?_
 intro v11 T11 h11 FX11 U11
 obtain ⟨rfl, rfl⟩ := U11
 have X11 := FX11 [] (Or.inl rfl) all0
 show oGoes pp ee bb ss Z T11 (mkF mm 54 _ [.int 7, .int 6]) _ _ _ _
 refine o_icmp_ge_f K X11 d42_54 rfl (by decide) ?_
 refine o_aloadN K X11 d42_57 rfl rfl rfl ?_
 refine o_iloadN K X11 d42_58 rfl rfl ?_
 refine o_iconst K X11 d42_59 rfl (z := 1) rfl ?_
 refine o_iadd K X11 d42_60 rfl (z := 6) (by decide) ?_
 refine o_virtual K X11   (w75 hw) (w76 hw) (oNF (w78 hw)) (w78 hw) (w77 hw) (w4 hw) (w79 hw) (by decide) m3 (rm_char6 l Z a0 hw a va k c0 c1 c2 c3 c4 c5 c6 fm cs h2 m3 m5 m6 m8 q7 q8 q9 q10 q11) all0 (by decide) rfl (argsL := [.int 6]) rfl (lenOf pd27 rfl) (W := 0) rfl (by decide) (by decide) (by decide) d42_61 rfl ?_
 intro v12 T12 h12 FX12 U12
 obtain ⟨rfl, rfl, u12_1⟩ := U12
 have X12 := FX12 [] (Or.inl rfl) all0
 show oGoes pp ee bb ss Z T12 (mkF mm 64 _ [.int c6]) _ _ _ _
 refine o_bipush K X12 d42_64 rfl (z := 34) rfl ?_
 refine o_icmp_ne_f K X12 d42_66 rfl q5 ?_
 refine o_aloadN K X12 d42_69 rfl rfl rfl ?_
 refine o_bipush K X12 d42_70 rfl (z := 34) rfl ?_
 have n13 := oLsz A1.lt u2_1
 refine o_virtual K X12   (w97 hw) (w98 hw) (oNF (w100 hw)) (w100 hw) (w99 hw) (w37 hw) (w101 hw) (by decide) u2_2 (rm_sbapp0 l Z a0 hw b1 r_2 k_2 34 cs h2 u2_2 u2_3 u2_4 u2_5 u2_6 G1 G2_r n13 (by decide) q10 q11) (allS me1 (allS me0 all0)) (by decide) rfl (argsL := [.int 34]) rfl (lenOf pd28 rfl) (W := 0) rfl (by decide) (by decide) (by decide) d42_72 rfl ?_
 intro v14 T14 h14 FX14 U14
 obtain ⟨rfl, u14_0, u14_1, u14_2, u14_3, u14_4, u14_5⟩ := U14
 have X14 := FX14 [] (Or.inl rfl) all0
 show oGoes pp ee bb ss Z T14 (mkF mm 75 _ [.ref b1]) _ _ _ _
 refine o_pop K X14 d42_75 rfl rfl ?_
 refine o_iinc K X14 d42_76 rfl rfl (L' := #[vR a, vI 4, vR b1, vI 7, vI c5]) (by rw [show (5 : Int32) + Int32.ofInt 2 = (7 : Int32) from (by decide)]; rfl) ?_
 refine o_goto K X14 d42_79 (by decide) (pc' := 100) (by decide) ?_
 refine o_goto K X14 d42_100 (by decide) (pc' := 12) (by decide) ?_
 refine o_iloadN K X14 d42_12 rfl rfl ?_
 refine o_aloadN K X14 d42_13 rfl rfl rfl ?_
 have m15 := (m3.keep u14_0)
 have n16 := oLn q0.lt E1.1 u2_1
 have m17 := (m5.keep u14_0 (ninS n4 (ninS n16 nin0)))
 have m18 := (m6.keep u14_0 (ninS n4 (ninS n16 nin0)))
 have n19 := oLn q3.lt E1.1 u2_1
 have m20 := (m8.keep u14_0 (ninS n7 (ninS n19 nin0)))
 refine o_virtual K X14   (w53 hw) (w54 hw) (oNF (w56 hw)) (w56 hw) (w55 hw) (w4 hw) (w57 hw) (by decide) m15 (rm_strlen l Z a0 hw a va k c0 c1 c2 c3 c4 c5 c6 cs h14 m15 m17 m18 m20 q10 q11) all0 (by decide) rfl (argsL := []) rfl (lenOf pd10 rfl) (W := 1) rfl (by decide) (by decide) (by decide) d42_14 rfl ?_
 intro v21 T21 h21 FX21 U21
 obtain ⟨rfl, rfl⟩ := U21
 have X21 := FX21 [] (Or.inl rfl) all0
 show oGoes pp ee bb ss Z T21 (mkF mm 17 _ [.int 7, .int 7]) _ _ _ _
 refine o_icmp_ge_t K X21 d42_17 (by decide) (pc' := 103) (by decide) (by decide) ?_
 refine o_static K X21  (w63 hw) (w64 hw) (w65 hw) (w66 hw) (by decide) (rm_optempty l Z a0 hw em h14 q12) all0 (by decide) rfl (argsL := []) rfl (lenOf pd26 rfl) (W := 0) rfl (by decide) (by decide) (by decide) d42_103 rfl ?_
 intro v22 T22 h22 FX22 U22
 obtain ⟨rfl, rfl⟩ := U22
 have X22 := FX22 [] (Or.inl rfl) all0
 show oGoes pp ee bb ss Z T22 (mkF mm 106 _ [.ref em]) _ _ _ _
 refine o_areturn K X22 (t := (.object z3)) d42_106 rfl rfl rfl ?_ (by decide) (by decide) (by decide)
 exact ⟨rfl, ((((Keep.refl h0 []).ext E1).trans u2_0 (allS (Or.inr (oLe g1)) all0)).trans u14_0 (allS (Or.inr (oLe g1)) (allS (Or.inr (Nat.le_trans E1.1 u2_1)) all0)))⟩
def Q_read_q_1 (Z : State) (a va : Addr) (k : ClassId) (c0 c1 c2 c3 c4 c5 c6 : Int32) (fm : Value) (cs : Int32) (em : Addr) (h0 : Heap) (v : Option Value) (h : Heap) : Prop := ∃ r qt s sv : Addr, ∃ ks : ClassId, v = some (.ref r) ∧ Keep h0 h [] ∧ h0.size ≤ r ∧ Exa Z h r z3 ∧ Fld Z h r z3 "value" z11 (.ref qt) ∧ Exa Z h qt z2 ∧ Fld Z h qt z2 "value" z13 (.ref s) ∧ Fld Z h qt z2 "end" "I" (.int 7) ∧ h0.size ≤ s ∧ Exa Z h s z0 ∧ Fld Z h s z0 "value" "[B" (.ref sv) ∧ Fld Z h s z0 "coder" "B" (.int 0) ∧ oArr Z h sv ks .byte [(.int (nar .byte (34 : Int32)))]
theorem rm_read_q_1 (l : Launch) (Z : State) (a0 : Array Value) (hw : oHw Z a0) (a va : Addr) (k : ClassId) (c0 c1 c2 c3 c4 c5 c6 : Int32) (fm : Value) (cs : Int32) (em : Addr) (h0 : Heap) (q0 : Exa Z h0 a z0) (q1 : Fld Z h0 a z0 "value" "[B" (.ref va)) (q2 : Fld Z h0 a z0 "coder" "B" (.int 0)) (q3 : oArr Z h0 va k .byte [(.int (nar .byte c0)), (.int (nar .byte c1)), (.int (nar .byte c2)), (.int (nar .byte c3)), (.int (nar .byte c4)), (.int (nar .byte c5)), (.int (nar .byte c6))]) (q4 : c4 = (34 : Int32)) (q5 : c5 = (34 : Int32)) (q6 : c6 = (34 : Int32)) (q7 : oCh c4) (q8 : oCh c5) (q9 : oCh c6) (q10 : Sta Z Z.heap z6 z7 z8 fm) (q11 : fm.isRef = true) (q12 : Sta Z Z.heap z0 z5 "Z" (.int cs)) (q13 : ¬ (cs = (0 : Int32))) (q14 : Sta Z Z.heap z3 "EMPTY" z14 (.ref em)) : oMet l Z (⟨z2, "read", z12⟩ : MethodName) prog_30_method_2_code 5 (some (.object z3)) r_read [] #[.ref a, .int 3] h0 (Q_read_q_1 Z a va k c0 c1 c2 c3 c4 c5 c6 fm cs em h0) [] false := by
 refine oEnter (oEW hw) (plainFor_of_name (by first | (simp [plainName, overriddenIn]; done) | decide +kernel)) (own := z2) (nm := "read") rfl rfl (L := #[.val (.ref a), .val (.int 3), .unset, .unset, .unset]) (fun m => by first | (simp [entryFrame, mkF, argsToLocals, Value.category, oCatRef q11]; done) | rfl) ?_
 intro pp ee ss mm bb mtd cc T0 K X0
 have E0 := X0.ext0
 refine o_new K X0 (w35 hw) (w36 hw) (w37 hw) d42_0 rfl (by decide) (by decide) ?_
 intro T1 h1 b1 X1 g1 E1 A1 D1 G1
 have F1_value : Fld Z h1 b1 z1 "value" "[B" .null := (D1 (Or.inl (w50 hw)) (ty := (.array .byte)) (by decide))
 have F1_coder : Fld Z h1 b1 z1 "coder" "B" (.int 0) := (D1 (Or.inl (w52 hw)) (ty := .byte) (by decide))
 have F1_count : Fld Z h1 b1 z1 "count" "I" (.int 0) := (D1 (Or.inl (w108 hw)) (ty := .int) (by decide))
 refine o_dup K X1 d42_3 rfl rfl ?_
 refine o_special K X1 (y := (⟨z4, "<init>", "()V"⟩ : MethodName)) rfl (w38 hw) (w39 hw) (w37 hw) (w40 hw) (by decide) (rm_sbinit l Z a0 hw b1 cs h1 A1 F1_value F1_coder F1_count G1 q12 q13) (allS me0 all0) (by decide) rfl (argsL := []) rfl (lenOf pd17 rfl) (W := 1) rfl (by decide) (by decide) (by decide) d42_4 rfl ?_
 intro v2 T2 h2 FX2 U2
 obtain ⟨r_2, k_2, rfl, u2_0, u2_1, u2_2, u2_3, u2_4, u2_5, u2_6⟩ := U2
 have G2_r : Z.heap.size ≤ r_2 := Nat.le_trans X1.ext0.1 u2_1
 have X2 := FX2 [r_2] (Or.inl rfl) (allS ⟨u2_1, u2_6.lt⟩ all0)
 show oGoes pp ee bb ss Z T2 (mkF mm 7 _ [.ref b1]) _ _ _ _
 refine o_astoreN K X2 d42_7 rfl rfl (L' := #[vR a, vI 3, vR b1, uS, uS]) rfl ?_
 refine o_iloadN K X2 d42_8 rfl rfl ?_
 refine o_iconst K X2 d42_9 rfl (z := 1) rfl ?_
 refine o_iadd K X2 d42_10 rfl (z := 4) (by decide) ?_
 refine o_istoreN K X2 d42_11 rfl (L' := #[vR a, vI 3, vR b1, vI 4, uS]) rfl ?_
 refine o_iloadN K X2 d42_12 rfl rfl ?_
 refine o_aloadN K X2 d42_13 rfl rfl rfl ?_
 have m3 := ((q0.ext E1).keep u2_0)
 have n4 := oLz q0.lt (oLe g1)
 have m5 := ((q1.ext E1).keep u2_0 (ninS n4 nin0))
 have m6 := ((q2.ext E1).keep u2_0 (ninS n4 nin0))
 have n7 := oLz q3.lt (oLe g1)
 have m8 := ((q3.ext E1).keep u2_0 (ninS n7 nin0))
 refine o_virtual K X2   (w53 hw) (w54 hw) (oNF (w56 hw)) (w56 hw) (w55 hw) (w4 hw) (w57 hw) (by decide) m3 (rm_strlen l Z a0 hw a va k c0 c1 c2 c3 c4 c5 c6 cs h2 m3 m5 m6 m8 q12 q13) all0 (by decide) rfl (argsL := []) rfl (lenOf pd10 rfl) (W := 1) rfl (by decide) (by decide) (by decide) d42_14 rfl ?_
 intro v9 T9 h9 FX9 U9
 obtain ⟨rfl, rfl⟩ := U9
 have X9 := FX9 [] (Or.inl rfl) all0
 show oGoes pp ee bb ss Z T9 (mkF mm 17 _ [.int 7, .int 4]) _ _ _ _
 refine o_icmp_ge_f K X9 d42_17 rfl (by decide) ?_
 refine o_aloadN K X9 d42_20 rfl rfl rfl ?_
 refine o_iloadN K X9 d42_21 rfl rfl ?_
 refine o_virtual K X9   (w75 hw) (w76 hw) (oNF (w78 hw)) (w78 hw) (w77 hw) (w4 hw) (w79 hw) (by decide) m3 (rm_char4 l Z a0 hw a va k c0 c1 c2 c3 c4 c5 c6 fm cs h2 m3 m5 m6 m8 q7 q10 q11 q12 q13) all0 (by decide) rfl (argsL := [.int 4]) rfl (lenOf pd27 rfl) (W := 0) rfl (by decide) (by decide) (by decide) d42_22 rfl ?_
 intro v10 T10 h10 FX10 U10
 obtain ⟨rfl, rfl, u10_1⟩ := U10
 have X10 := FX10 [] (Or.inl rfl) all0
 show oGoes pp ee bb ss Z T10 (mkF mm 25 _ [.int c4]) _ _ _ _
 refine o_istore K X10 d42_25 rfl (L' := #[vR a, vI 3, vR b1, vI 4, vI c4]) rfl ?_
 refine o_iload K X10 d42_27 rfl rfl ?_
 refine o_bipush K X10 d42_29 rfl (z := 34) rfl ?_
 refine o_icmp_eq_t K X10 d42_31 (by decide) (pc' := 47) (by decide) q4 ?_
 refine o_iloadN K X10 d42_47 rfl rfl ?_
 refine o_iconst K X10 d42_48 rfl (z := 1) rfl ?_
 refine o_iadd K X10 d42_49 rfl (z := 5) (by decide) ?_
 refine o_aloadN K X10 d42_50 rfl rfl rfl ?_
 refine o_virtual K X10   (w53 hw) (w54 hw) (oNF (w56 hw)) (w56 hw) (w55 hw) (w4 hw) (w57 hw) (by decide) m3 (rm_strlen l Z a0 hw a va k c0 c1 c2 c3 c4 c5 c6 cs h2 m3 m5 m6 m8 q12 q13) all0 (by decide) rfl (argsL := []) rfl (lenOf pd10 rfl) (W := 1) rfl (by decide) (by decide) (by decide) d42_51 rfl ?_
 intro v11 T11 h11 FX11 U11
 obtain ⟨rfl, rfl⟩ := U11
 have X11 := FX11 [] (Or.inl rfl) all0
 show oGoes pp ee bb ss Z T11 (mkF mm 54 _ [.int 7, .int 5]) _ _ _ _
 refine o_icmp_ge_f K X11 d42_54 rfl (by decide) ?_
 refine o_aloadN K X11 d42_57 rfl rfl rfl ?_
 refine o_iloadN K X11 d42_58 rfl rfl ?_
 refine o_iconst K X11 d42_59 rfl (z := 1) rfl ?_
 refine o_iadd K X11 d42_60 rfl (z := 5) (by decide) ?_
 refine o_virtual K X11   (w75 hw) (w76 hw) (oNF (w78 hw)) (w78 hw) (w77 hw) (w4 hw) (w79 hw) (by decide) m3 (rm_char5 l Z a0 hw a va k c0 c1 c2 c3 c4 c5 c6 fm cs h2 m3 m5 m6 m8 q8 q10 q11 q12 q13) all0 (by decide) rfl (argsL := [.int 5]) rfl (lenOf pd27 rfl) (W := 0) rfl (by decide) (by decide) (by decide) d42_61 rfl ?_
 intro v12 T12 h12 FX12 U12
 obtain ⟨rfl, rfl, u12_1⟩ := U12
 have X12 := FX12 [] (Or.inl rfl) all0
 show oGoes pp ee bb ss Z T12 (mkF mm 64 _ [.int c5]) _ _ _ _
 refine o_bipush K X12 d42_64 rfl (z := 34) rfl ?_
 refine o_icmp_ne_f K X12 d42_66 rfl q5 ?_
 refine o_aloadN K X12 d42_69 rfl rfl rfl ?_
 refine o_bipush K X12 d42_70 rfl (z := 34) rfl ?_
 have n13 := oLsz A1.lt u2_1
 refine o_virtual K X12   (w97 hw) (w98 hw) (oNF (w100 hw)) (w100 hw) (w99 hw) (w37 hw) (w101 hw) (by decide) u2_2 (rm_sbapp0 l Z a0 hw b1 r_2 k_2 34 cs h2 u2_2 u2_3 u2_4 u2_5 u2_6 G1 G2_r n13 (by decide) q12 q13) (allS me1 (allS me0 all0)) (by decide) rfl (argsL := [.int 34]) rfl (lenOf pd28 rfl) (W := 0) rfl (by decide) (by decide) (by decide) d42_72 rfl ?_
 intro v14 T14 h14 FX14 U14
 obtain ⟨rfl, u14_0, u14_1, u14_2, u14_3, u14_4, u14_5⟩ := U14
 have X14 := FX14 [] (Or.inl rfl) all0
 show oGoes pp ee bb ss Z T14 (mkF mm 75 _ [.ref b1]) _ _ _ _
 refine o_pop K X14 d42_75 rfl rfl ?_
 refine o_iinc K X14 d42_76 rfl rfl (L' := #[vR a, vI 3, vR b1, vI 6, vI c4]) (by rw [show (4 : Int32) + Int32.ofInt 2 = (6 : Int32) from (by decide)]; rfl) ?_
 refine o_goto K X14 d42_79 (by decide) (pc' := 100) (by decide) ?_
 refine o_goto K X14 d42_100 (by decide) (pc' := 12) (by decide) ?_
 refine o_iloadN K X14 d42_12 rfl rfl ?_
 refine o_aloadN K X14 d42_13 rfl rfl rfl ?_
 have m15 := (m3.keep u14_0)
 have n16 := oLn q0.lt E1.1 u2_1
 have m17 := (m5.keep u14_0 (ninS n4 (ninS n16 nin0)))
 have m18 := (m6.keep u14_0 (ninS n4 (ninS n16 nin0)))
 have n19 := oLn q3.lt E1.1 u2_1
 have m20 := (m8.keep u14_0 (ninS n7 (ninS n19 nin0)))
 refine o_virtual K X14   (w53 hw) (w54 hw) (oNF (w56 hw)) (w56 hw) (w55 hw) (w4 hw) (w57 hw) (by decide) m15 (rm_strlen l Z a0 hw a va k c0 c1 c2 c3 c4 c5 c6 cs h14 m15 m17 m18 m20 q12 q13) all0 (by decide) rfl (argsL := []) rfl (lenOf pd10 rfl) (W := 1) rfl (by decide) (by decide) (by decide) d42_14 rfl ?_
 intro v21 T21 h21 FX21 U21
 obtain ⟨rfl, rfl⟩ := U21
 have X21 := FX21 [] (Or.inl rfl) all0
 show oGoes pp ee bb ss Z T21 (mkF mm 17 _ [.int 7, .int 6]) _ _ _ _
 refine o_icmp_ge_f K X21 d42_17 rfl (by decide) ?_
 refine o_aloadN K X21 d42_20 rfl rfl rfl ?_
 refine o_iloadN K X21 d42_21 rfl rfl ?_
 refine o_virtual K X21   (w75 hw) (w76 hw) (oNF (w78 hw)) (w78 hw) (w77 hw) (w4 hw) (w79 hw) (by decide) m15 (rm_char6 l Z a0 hw a va k c0 c1 c2 c3 c4 c5 c6 fm cs h14 m15 m17 m18 m20 q9 q10 q11 q12 q13) all0 (by decide) rfl (argsL := [.int 6]) rfl (lenOf pd27 rfl) (W := 0) rfl (by decide) (by decide) (by decide) d42_22 rfl ?_
 intro v22 T22 h22 FX22 U22
 obtain ⟨rfl, rfl, u22_1⟩ := U22
 have X22 := FX22 [] (Or.inl rfl) all0
 show oGoes pp ee bb ss Z T22 (mkF mm 25 _ [.int c6]) _ _ _ _
 refine o_istore K X22 d42_25 rfl (L' := #[vR a, vI 3, vR b1, vI 6, vI c6]) rfl ?_
 refine o_iload K X22 d42_27 rfl rfl ?_
 refine o_bipush K X22 d42_29 rfl (z := 34) rfl ?_
 refine o_icmp_eq_t K X22 d42_31 (by decide) (pc' := 47) (by decide) q6 ?_
 refine o_iloadN K X22 d42_47 rfl rfl ?_
 refine o_iconst K X22 d42_48 rfl (z := 1) rfl ?_
 refine o_iadd K X22 d42_49 rfl (z := 7) (by decide) ?_
 refine o_aloadN K X22 d42_50 rfl rfl rfl ?_
 refine o_virtual K X22   (w53 hw) (w54 hw) (oNF (w56 hw)) (w56 hw) (w55 hw) (w4 hw) (w57 hw) (by decide) m15 (rm_strlen l Z a0 hw a va k c0 c1 c2 c3 c4 c5 c6 cs h14 m15 m17 m18 m20 q12 q13) all0 (by decide) rfl (argsL := []) rfl (lenOf pd10 rfl) (W := 1) rfl (by decide) (by decide) (by decide) d42_51 rfl ?_
 intro v23 T23 h23 FX23 U23
 obtain ⟨rfl, rfl⟩ := U23
 have X23 := FX23 [] (Or.inl rfl) all0
 show oGoes pp ee bb ss Z T23 (mkF mm 54 _ [.int 7, .int 7]) _ _ _ _
 refine o_icmp_ge_t K X23 d42_54 (by decide) (pc' := 82) (by decide) (by decide) ?_
 refine tl_rd1 l Z a0 hw a 3 b1 6 c6 7 r_2 k_2 (nar .byte (34 : Int32)) cs h14 u14_1 u14_2 u14_3 u14_4 u14_5 q12 q13 (by decide) (fun v24 h24 U24 => ?_) K (X23.mono (by decide) (by decide) (by decide) all0)
 obtain ⟨r_24, qt_24, s_24, sv_24, ks_24, rfl, u24_0, u24_1, u24_2, u24_3, u24_4, u24_5, u24_6, u24_7, u24_8, u24_9, u24_10, u24_11⟩ := U24
 have G24_r : Z.heap.size ≤ r_24 := Nat.le_trans X23.ext0.1 u24_1
 have G24_s : Z.heap.size ≤ s_24 := Nat.le_trans X23.ext0.1 u24_7
 have y0_3 := Nat.le_trans (Nat.le_trans E1.1 u2_0.1) u14_0.1
 exact ⟨r_24, qt_24, s_24, sv_24, ks_24, rfl, (((((Keep.refl h0 []).ext E1).trans u2_0 (allS (Or.inr (oLe g1)) all0)).trans u14_0 (allS (Or.inr (oLe g1)) (allS (Or.inr (Nat.le_trans E1.1 u2_1)) all0))).trans u24_0 all0), (Nat.le_trans y0_3 u24_1), u24_2, u24_3, u24_4, u24_5, u24_6, (Nat.le_trans y0_3 u24_7), u24_8, u24_9, u24_10, u24_11⟩
def Q_read_q_2 (Z : State) (a va : Addr) (k : ClassId) (c0 c1 c2 c3 c4 c5 c6 : Int32) (fm : Value) (cs : Int32) (em : Addr) (h0 : Heap) (v : Option Value) (h : Heap) : Prop := ∃ r qt s sv : Addr, ∃ ks : ClassId, v = some (.ref r) ∧ Keep h0 h [] ∧ h0.size ≤ r ∧ Exa Z h r z3 ∧ Fld Z h r z3 "value" z11 (.ref qt) ∧ Exa Z h qt z2 ∧ Fld Z h qt z2 "value" z13 (.ref s) ∧ Fld Z h qt z2 "end" "I" (.int 6) ∧ h0.size ≤ s ∧ Exa Z h s z0 ∧ Fld Z h s z0 "value" "[B" (.ref sv) ∧ Fld Z h s z0 "coder" "B" (.int 0) ∧ oArr Z h sv ks .byte [(.int (nar .byte (34 : Int32)))]
theorem rm_read_q_2 (l : Launch) (Z : State) (a0 : Array Value) (hw : oHw Z a0) (a va : Addr) (k : ClassId) (c0 c1 c2 c3 c4 c5 c6 : Int32) (fm : Value) (cs : Int32) (em : Addr) (h0 : Heap) (q0 : Exa Z h0 a z0) (q1 : Fld Z h0 a z0 "value" "[B" (.ref va)) (q2 : Fld Z h0 a z0 "coder" "B" (.int 0)) (q3 : oArr Z h0 va k .byte [(.int (nar .byte c0)), (.int (nar .byte c1)), (.int (nar .byte c2)), (.int (nar .byte c3)), (.int (nar .byte c4)), (.int (nar .byte c5)), (.int (nar .byte c6))]) (q4 : c3 = (34 : Int32)) (q5 : c4 = (34 : Int32)) (q6 : c5 = (34 : Int32)) (q7 : ¬ (c6 = (34 : Int32))) (q8 : oCh c3) (q9 : oCh c4) (q10 : oCh c5) (q11 : oCh c6) (q12 : ¬ ((255 : Int32) < c6)) (q13 : Sta Z Z.heap z6 z7 z8 fm) (q14 : fm.isRef = true) (q15 : Sta Z Z.heap z0 z5 "Z" (.int cs)) (q16 : ¬ (cs = (0 : Int32))) (q17 : Sta Z Z.heap z3 "EMPTY" z14 (.ref em)) : oMet l Z (⟨z2, "read", z12⟩ : MethodName) prog_30_method_2_code 5 (some (.object z3)) r_read [] #[.ref a, .int 2] h0 (Q_read_q_2 Z a va k c0 c1 c2 c3 c4 c5 c6 fm cs em h0) [] false := by
 refine oEnter (oEW hw) (plainFor_of_name (by first | (simp [plainName, overriddenIn]; done) | decide +kernel)) (own := z2) (nm := "read") rfl rfl (L := #[.val (.ref a), .val (.int 2), .unset, .unset, .unset]) (fun m => by first | (simp [entryFrame, mkF, argsToLocals, Value.category, oCatRef q14]; done) | rfl) ?_
 intro pp ee ss mm bb mtd cc T0 K X0
 have E0 := X0.ext0
 refine o_new K X0 (w35 hw) (w36 hw) (w37 hw) d42_0 rfl (by decide) (by decide) ?_
 intro T1 h1 b1 X1 g1 E1 A1 D1 G1
 have F1_value : Fld Z h1 b1 z1 "value" "[B" .null := (D1 (Or.inl (w50 hw)) (ty := (.array .byte)) (by decide))
 have F1_coder : Fld Z h1 b1 z1 "coder" "B" (.int 0) := (D1 (Or.inl (w52 hw)) (ty := .byte) (by decide))
 have F1_count : Fld Z h1 b1 z1 "count" "I" (.int 0) := (D1 (Or.inl (w108 hw)) (ty := .int) (by decide))
 refine o_dup K X1 d42_3 rfl rfl ?_
 refine o_special K X1 (y := (⟨z4, "<init>", "()V"⟩ : MethodName)) rfl (w38 hw) (w39 hw) (w37 hw) (w40 hw) (by decide) (rm_sbinit l Z a0 hw b1 cs h1 A1 F1_value F1_coder F1_count G1 q15 q16) (allS me0 all0) (by decide) rfl (argsL := []) rfl (lenOf pd17 rfl) (W := 1) rfl (by decide) (by decide) (by decide) d42_4 rfl ?_
 intro v2 T2 h2 FX2 U2
 obtain ⟨r_2, k_2, rfl, u2_0, u2_1, u2_2, u2_3, u2_4, u2_5, u2_6⟩ := U2
 have G2_r : Z.heap.size ≤ r_2 := Nat.le_trans X1.ext0.1 u2_1
 have X2 := FX2 [r_2] (Or.inl rfl) (allS ⟨u2_1, u2_6.lt⟩ all0)
 show oGoes pp ee bb ss Z T2 (mkF mm 7 _ [.ref b1]) _ _ _ _
 refine o_astoreN K X2 d42_7 rfl rfl (L' := #[vR a, vI 2, vR b1, uS, uS]) rfl ?_
 refine o_iloadN K X2 d42_8 rfl rfl ?_
 refine o_iconst K X2 d42_9 rfl (z := 1) rfl ?_
 refine o_iadd K X2 d42_10 rfl (z := 3) (by decide) ?_
 refine o_istoreN K X2 d42_11 rfl (L' := #[vR a, vI 2, vR b1, vI 3, uS]) rfl ?_
 refine o_iloadN K X2 d42_12 rfl rfl ?_
 refine o_aloadN K X2 d42_13 rfl rfl rfl ?_
 have m3 := ((q0.ext E1).keep u2_0)
 have n4 := oLz q0.lt (oLe g1)
 have m5 := ((q1.ext E1).keep u2_0 (ninS n4 nin0))
 have m6 := ((q2.ext E1).keep u2_0 (ninS n4 nin0))
 have n7 := oLz q3.lt (oLe g1)
 have m8 := ((q3.ext E1).keep u2_0 (ninS n7 nin0))
 refine o_virtual K X2   (w53 hw) (w54 hw) (oNF (w56 hw)) (w56 hw) (w55 hw) (w4 hw) (w57 hw) (by decide) m3 (rm_strlen l Z a0 hw a va k c0 c1 c2 c3 c4 c5 c6 cs h2 m3 m5 m6 m8 q15 q16) all0 (by decide) rfl (argsL := []) rfl (lenOf pd10 rfl) (W := 1) rfl (by decide) (by decide) (by decide) d42_14 rfl ?_
 intro v9 T9 h9 FX9 U9
 obtain ⟨rfl, rfl⟩ := U9
 have X9 := FX9 [] (Or.inl rfl) all0
 show oGoes pp ee bb ss Z T9 (mkF mm 17 _ [.int 7, .int 3]) _ _ _ _
 refine o_icmp_ge_f K X9 d42_17 rfl (by decide) ?_
 refine o_aloadN K X9 d42_20 rfl rfl rfl ?_
 refine o_iloadN K X9 d42_21 rfl rfl ?_
 refine o_virtual K X9   (w75 hw) (w76 hw) (oNF (w78 hw)) (w78 hw) (w77 hw) (w4 hw) (w79 hw) (by decide) m3 (rm_char3 l Z a0 hw a va k c0 c1 c2 c3 c4 c5 c6 fm cs h2 m3 m5 m6 m8 q8 q13 q14 q15 q16) all0 (by decide) rfl (argsL := [.int 3]) rfl (lenOf pd27 rfl) (W := 0) rfl (by decide) (by decide) (by decide) d42_22 rfl ?_
 intro v10 T10 h10 FX10 U10
 obtain ⟨rfl, rfl, u10_1⟩ := U10
 have X10 := FX10 [] (Or.inl rfl) all0
 show oGoes pp ee bb ss Z T10 (mkF mm 25 _ [.int c3]) _ _ _ _
 refine o_istore K X10 d42_25 rfl (L' := #[vR a, vI 2, vR b1, vI 3, vI c3]) rfl ?_
 refine o_iload K X10 d42_27 rfl rfl ?_
 refine o_bipush K X10 d42_29 rfl (z := 34) rfl ?_
 refine o_icmp_eq_t K X10 d42_31 (by decide) (pc' := 47) (by decide) q4 ?_
 refine o_iloadN K X10 d42_47 rfl rfl ?_
 refine o_iconst K X10 d42_48 rfl (z := 1) rfl ?_
 refine o_iadd K X10 d42_49 rfl (z := 4) (by decide) ?_
 refine o_aloadN K X10 d42_50 rfl rfl rfl ?_
 refine o_virtual K X10   (w53 hw) (w54 hw) (oNF (w56 hw)) (w56 hw) (w55 hw) (w4 hw) (w57 hw) (by decide) m3 (rm_strlen l Z a0 hw a va k c0 c1 c2 c3 c4 c5 c6 cs h2 m3 m5 m6 m8 q15 q16) all0 (by decide) rfl (argsL := []) rfl (lenOf pd10 rfl) (W := 1) rfl (by decide) (by decide) (by decide) d42_51 rfl ?_
 intro v11 T11 h11 FX11 U11
 obtain ⟨rfl, rfl⟩ := U11
 have X11 := FX11 [] (Or.inl rfl) all0
 show oGoes pp ee bb ss Z T11 (mkF mm 54 _ [.int 7, .int 4]) _ _ _ _
 refine o_icmp_ge_f K X11 d42_54 rfl (by decide) ?_
 refine o_aloadN K X11 d42_57 rfl rfl rfl ?_
 refine o_iloadN K X11 d42_58 rfl rfl ?_
 refine o_iconst K X11 d42_59 rfl (z := 1) rfl ?_
 refine o_iadd K X11 d42_60 rfl (z := 4) (by decide) ?_
 refine o_virtual K X11   (w75 hw) (w76 hw) (oNF (w78 hw)) (w78 hw) (w77 hw) (w4 hw) (w79 hw) (by decide) m3 (rm_char4 l Z a0 hw a va k c0 c1 c2 c3 c4 c5 c6 fm cs h2 m3 m5 m6 m8 q9 q13 q14 q15 q16) all0 (by decide) rfl (argsL := [.int 4]) rfl (lenOf pd27 rfl) (W := 0) rfl (by decide) (by decide) (by decide) d42_61 rfl ?_
 intro v12 T12 h12 FX12 U12
 obtain ⟨rfl, rfl, u12_1⟩ := U12
 have X12 := FX12 [] (Or.inl rfl) all0
 show oGoes pp ee bb ss Z T12 (mkF mm 64 _ [.int c4]) _ _ _ _
 refine o_bipush K X12 d42_64 rfl (z := 34) rfl ?_
 refine o_icmp_ne_f K X12 d42_66 rfl q5 ?_
 refine o_aloadN K X12 d42_69 rfl rfl rfl ?_
 refine o_bipush K X12 d42_70 rfl (z := 34) rfl ?_
 have n13 := oLsz A1.lt u2_1
 refine o_virtual K X12   (w97 hw) (w98 hw) (oNF (w100 hw)) (w100 hw) (w99 hw) (w37 hw) (w101 hw) (by decide) u2_2 (rm_sbapp0 l Z a0 hw b1 r_2 k_2 34 cs h2 u2_2 u2_3 u2_4 u2_5 u2_6 G1 G2_r n13 (by decide) q15 q16) (allS me1 (allS me0 all0)) (by decide) rfl (argsL := [.int 34]) rfl (lenOf pd28 rfl) (W := 0) rfl (by decide) (by decide) (by decide) d42_72 rfl ?_
 intro v14 T14 h14 FX14 U14
 obtain ⟨rfl, u14_0, u14_1, u14_2, u14_3, u14_4, u14_5⟩ := U14
 have X14 := FX14 [] (Or.inl rfl) all0
 show oGoes pp ee bb ss Z T14 (mkF mm 75 _ [.ref b1]) _ _ _ _
 refine o_pop K X14 d42_75 rfl rfl ?_
 refine o_iinc K X14 d42_76 rfl rfl (L' := #[vR a, vI 2, vR b1, vI 5, vI c3]) (by rw [show (3 : Int32) + Int32.ofInt 2 = (5 : Int32) from (by decide)]; rfl) ?_
 refine o_goto K X14 d42_79 (by decide) (pc' := 100) (by decide) ?_
 refine o_goto K X14 d42_100 (by decide) (pc' := 12) (by decide) ?_
 refine o_iloadN K X14 d42_12 rfl rfl ?_
 refine o_aloadN K X14 d42_13 rfl rfl rfl ?_
 have m15 := (m3.keep u14_0)
 have n16 := oLn q0.lt E1.1 u2_1
 have m17 := (m5.keep u14_0 (ninS n4 (ninS n16 nin0)))
 have m18 := (m6.keep u14_0 (ninS n4 (ninS n16 nin0)))
 have n19 := oLn q3.lt E1.1 u2_1
 have m20 := (m8.keep u14_0 (ninS n7 (ninS n19 nin0)))
 refine o_virtual K X14   (w53 hw) (w54 hw) (oNF (w56 hw)) (w56 hw) (w55 hw) (w4 hw) (w57 hw) (by decide) m15 (rm_strlen l Z a0 hw a va k c0 c1 c2 c3 c4 c5 c6 cs h14 m15 m17 m18 m20 q15 q16) all0 (by decide) rfl (argsL := []) rfl (lenOf pd10 rfl) (W := 1) rfl (by decide) (by decide) (by decide) d42_14 rfl ?_
 intro v21 T21 h21 FX21 U21
 obtain ⟨rfl, rfl⟩ := U21
 have X21 := FX21 [] (Or.inl rfl) all0
 show oGoes pp ee bb ss Z T21 (mkF mm 17 _ [.int 7, .int 5]) _ _ _ _
 refine o_icmp_ge_f K X21 d42_17 rfl (by decide) ?_
 refine o_aloadN K X21 d42_20 rfl rfl rfl ?_
 refine o_iloadN K X21 d42_21 rfl rfl ?_
 refine o_virtual K X21   (w75 hw) (w76 hw) (oNF (w78 hw)) (w78 hw) (w77 hw) (w4 hw) (w79 hw) (by decide) m15 (rm_char5 l Z a0 hw a va k c0 c1 c2 c3 c4 c5 c6 fm cs h14 m15 m17 m18 m20 q10 q13 q14 q15 q16) all0 (by decide) rfl (argsL := [.int 5]) rfl (lenOf pd27 rfl) (W := 0) rfl (by decide) (by decide) (by decide) d42_22 rfl ?_
 intro v22 T22 h22 FX22 U22
 obtain ⟨rfl, rfl, u22_1⟩ := U22
 have X22 := FX22 [] (Or.inl rfl) all0
 show oGoes pp ee bb ss Z T22 (mkF mm 25 _ [.int c5]) _ _ _ _
 refine o_istore K X22 d42_25 rfl (L' := #[vR a, vI 2, vR b1, vI 5, vI c5]) rfl ?_
 refine o_iload K X22 d42_27 rfl rfl ?_
 refine o_bipush K X22 d42_29 rfl (z := 34) rfl ?_
 refine o_icmp_eq_t K X22 d42_31 (by decide) (pc' := 47) (by decide) q6 ?_
 refine o_iloadN K X22 d42_47 rfl rfl ?_
 refine o_iconst K X22 d42_48 rfl (z := 1) rfl ?_
 refine o_iadd K X22 d42_49 rfl (z := 6) (by decide) ?_
 refine o_aloadN K X22 d42_50 rfl rfl rfl ?_
 refine o_virtual K X22   (w53 hw) (w54 hw) (oNF (w56 hw)) (w56 hw) (w55 hw) (w4 hw) (w57 hw) (by decide) m15 (rm_strlen l Z a0 hw a va k c0 c1 c2 c3 c4 c5 c6 cs h14 m15 m17 m18 m20 q15 q16) all0 (by decide) rfl (argsL := []) rfl (lenOf pd10 rfl) (W := 1) rfl (by decide) (by decide) (by decide) d42_51 rfl ?_
 intro v23 T23 h23 FX23 U23
 obtain ⟨rfl, rfl⟩ := U23
 have X23 := FX23 [] (Or.inl rfl) all0
 show oGoes pp ee bb ss Z T23 (mkF mm 54 _ [.int 7, .int 6]) _ _ _ _
 refine o_icmp_ge_f K X23 d42_54 rfl (by decide) ?_
 refine o_aloadN K X23 d42_57 rfl rfl rfl ?_
 refine o_iloadN K X23 d42_58 rfl rfl ?_
 refine o_iconst K X23 d42_59 rfl (z := 1) rfl ?_
 refine o_iadd K X23 d42_60 rfl (z := 6) (by decide) ?_
 refine o_virtual K X23   (w75 hw) (w76 hw) (oNF (w78 hw)) (w78 hw) (w77 hw) (w4 hw) (w79 hw) (by decide) m15 (rm_char6 l Z a0 hw a va k c0 c1 c2 c3 c4 c5 c6 fm cs h14 m15 m17 m18 m20 q11 q13 q14 q15 q16) all0 (by decide) rfl (argsL := [.int 6]) rfl (lenOf pd27 rfl) (W := 0) rfl (by decide) (by decide) (by decide) d42_61 rfl ?_
 intro v24 T24 h24 FX24 U24
 obtain ⟨rfl, rfl, u24_1⟩ := U24
 have X24 := FX24 [] (Or.inl rfl) all0
 show oGoes pp ee bb ss Z T24 (mkF mm 64 _ [.int c6]) _ _ _ _
 refine o_bipush K X24 d42_64 rfl (z := 34) rfl ?_
 refine o_icmp_ne_t K X24 d42_66 (by decide) (pc' := 82) (by decide) q7 ?_
 refine tl_rd1 l Z a0 hw a 2 b1 5 c5 6 r_2 k_2 (nar .byte (34 : Int32)) cs h14 u14_1 u14_2 u14_3 u14_4 u14_5 q15 q16 (by decide) (fun v25 h25 U25 => ?_) K (X24.mono (by decide) (by decide) (by decide) all0)
 obtain ⟨r_25, qt_25, s_25, sv_25, ks_25, rfl, u25_0, u25_1, u25_2, u25_3, u25_4, u25_5, u25_6, u25_7, u25_8, u25_9, u25_10, u25_11⟩ := U25
 have G25_r : Z.heap.size ≤ r_25 := Nat.le_trans X24.ext0.1 u25_1
 have G25_s : Z.heap.size ≤ s_25 := Nat.le_trans X24.ext0.1 u25_7
 have y0_3 := Nat.le_trans (Nat.le_trans E1.1 u2_0.1) u14_0.1
 exact ⟨r_25, qt_25, s_25, sv_25, ks_25, rfl, (((((Keep.refl h0 []).ext E1).trans u2_0 (allS (Or.inr (oLe g1)) all0)).trans u14_0 (allS (Or.inr (oLe g1)) (allS (Or.inr (Nat.le_trans E1.1 u2_1)) all0))).trans u25_0 all0), (Nat.le_trans y0_3 u25_1), u25_2, u25_3, u25_4, u25_5, u25_6, (Nat.le_trans y0_3 u25_7), u25_8, u25_9, u25_10, u25_11⟩
def Q_read_nn_0 (Z : State) (a va : Addr) (k : ClassId) (c0 c1 c2 c3 c4 c5 c6 : Int32) (fm : Value) (cs : Int32) (em : Addr) (h0 : Heap) (v : Option Value) (h : Heap) : Prop := v = some (.ref em) ∧ Keep h0 h []
theorem rm_read_nn_0 (l : Launch) (Z : State) (a0 : Array Value) (hw : oHw Z a0) (a va : Addr) (k : ClassId) (c0 c1 c2 c3 c4 c5 c6 : Int32) (fm : Value) (cs : Int32) (em : Addr) (h0 : Heap) (q0 : Exa Z h0 a z0) (q1 : Fld Z h0 a z0 "value" "[B" (.ref va)) (q2 : Fld Z h0 a z0 "coder" "B" (.int 0)) (q3 : oArr Z h0 va k .byte [(.int (nar .byte c0)), (.int (nar .byte c1)), (.int (nar .byte c2)), (.int (nar .byte c3)), (.int (nar .byte c4)), (.int (nar .byte c5)), (.int (nar .byte c6))]) (q4 : ¬ (c5 = (34 : Int32))) (q5 : ¬ (c6 = (34 : Int32))) (q6 : oCh c5) (q7 : oCh c6) (q8 : ¬ ((255 : Int32) < c5)) (q9 : ¬ ((255 : Int32) < c6)) (q10 : Sta Z Z.heap z6 z7 z8 fm) (q11 : fm.isRef = true) (q12 : Sta Z Z.heap z0 z5 "Z" (.int cs)) (q13 : ¬ (cs = (0 : Int32))) (q14 : Sta Z Z.heap z3 "EMPTY" z14 (.ref em)) : oMet l Z (⟨z2, "read", z12⟩ : MethodName) prog_30_method_2_code 5 (some (.object z3)) r_read [] #[.ref a, .int 4] h0 (Q_read_nn_0 Z a va k c0 c1 c2 c3 c4 c5 c6 fm cs em h0) [] false := by
 refine oEnter (oEW hw) (plainFor_of_name (by first | (simp [plainName, overriddenIn]; done) | decide +kernel)) (own := z2) (nm := "read") rfl rfl (L := #[.val (.ref a), .val (.int 4), .unset, .unset, .unset]) (fun m => by first | (simp [entryFrame, mkF, argsToLocals, Value.category, oCatRef q11]; done) | rfl) ?_
 intro pp ee ss mm bb mtd cc T0 K X0
 have E0 := X0.ext0
 refine o_new K X0 (w35 hw) (w36 hw) (w37 hw) d42_0 rfl (by decide) (by decide) ?_
 intro T1 h1 b1 X1 g1 E1 A1 D1 G1
 have F1_value : Fld Z h1 b1 z1 "value" "[B" .null := (D1 (Or.inl (w50 hw)) (ty := (.array .byte)) (by decide))
 have F1_coder : Fld Z h1 b1 z1 "coder" "B" (.int 0) := (D1 (Or.inl (w52 hw)) (ty := .byte) (by decide))
 have F1_count : Fld Z h1 b1 z1 "count" "I" (.int 0) := (D1 (Or.inl (w108 hw)) (ty := .int) (by decide))
 refine o_dup K X1 d42_3 rfl rfl ?_
 refine o_special K X1 (y := (⟨z4, "<init>", "()V"⟩ : MethodName)) rfl (w38 hw) (w39 hw) (w37 hw) (w40 hw) (by decide) (rm_sbinit l Z a0 hw b1 cs h1 A1 F1_value F1_coder F1_count G1 q12 q13) (allS me0 all0) (by decide) rfl (argsL := []) rfl (lenOf pd17 rfl) (W := 1) rfl (by decide) (by decide) (by decide) d42_4 rfl ?_
 intro v2 T2 h2 FX2 U2
 obtain ⟨r_2, k_2, rfl, u2_0, u2_1, u2_2, u2_3, u2_4, u2_5, u2_6⟩ := U2
 have G2_r : Z.heap.size ≤ r_2 := Nat.le_trans X1.ext0.1 u2_1
 have X2 := FX2 [r_2] (Or.inl rfl) (allS ⟨u2_1, u2_6.lt⟩ all0)
 show oGoes pp ee bb ss Z T2 (mkF mm 7 _ [.ref b1]) _ _ _ _
 refine o_astoreN K X2 d42_7 rfl rfl (L' := #[vR a, vI 4, vR b1, uS, uS]) rfl ?_
 refine o_iloadN K X2 d42_8 rfl rfl ?_
 refine o_iconst K X2 d42_9 rfl (z := 1) rfl ?_
 refine o_iadd K X2 d42_10 rfl (z := 5) (by decide) ?_
 refine o_istoreN K X2 d42_11 rfl (L' := #[vR a, vI 4, vR b1, vI 5, uS]) rfl ?_
 refine o_iloadN K X2 d42_12 rfl rfl ?_
 refine o_aloadN K X2 d42_13 rfl rfl rfl ?_
 have m3 := ((q0.ext E1).keep u2_0)
 have n4 := oLz q0.lt (oLe g1)
 have m5 := ((q1.ext E1).keep u2_0 (ninS n4 nin0))
 have m6 := ((q2.ext E1).keep u2_0 (ninS n4 nin0))
 have n7 := oLz q3.lt (oLe g1)
 have m8 := ((q3.ext E1).keep u2_0 (ninS n7 nin0))
 refine o_virtual K X2   (w53 hw) (w54 hw) (oNF (w56 hw)) (w56 hw) (w55 hw) (w4 hw) (w57 hw) (by decide) m3 (rm_strlen l Z a0 hw a va k c0 c1 c2 c3 c4 c5 c6 cs h2 m3 m5 m6 m8 q12 q13) all0 (by decide) rfl (argsL := []) rfl (lenOf pd10 rfl) (W := 1) rfl (by decide) (by decide) (by decide) d42_14 rfl ?_
 intro v9 T9 h9 FX9 U9
 obtain ⟨rfl, rfl⟩ := U9
 have X9 := FX9 [] (Or.inl rfl) all0
 show oGoes pp ee bb ss Z T9 (mkF mm 17 _ [.int 7, .int 5]) _ _ _ _
 refine o_icmp_ge_f K X9 d42_17 rfl (by decide) ?_
 refine o_aloadN K X9 d42_20 rfl rfl rfl ?_
 refine o_iloadN K X9 d42_21 rfl rfl ?_
 refine o_virtual K X9   (w75 hw) (w76 hw) (oNF (w78 hw)) (w78 hw) (w77 hw) (w4 hw) (w79 hw) (by decide) m3 (rm_char5 l Z a0 hw a va k c0 c1 c2 c3 c4 c5 c6 fm cs h2 m3 m5 m6 m8 q6 q10 q11 q12 q13) all0 (by decide) rfl (argsL := [.int 5]) rfl (lenOf pd27 rfl) (W := 0) rfl (by decide) (by decide) (by decide) d42_22 rfl ?_
 intro v10 T10 h10 FX10 U10
 obtain ⟨rfl, rfl, u10_1⟩ := U10
 have X10 := FX10 [] (Or.inl rfl) all0
 show oGoes pp ee bb ss Z T10 (mkF mm 25 _ [.int c5]) _ _ _ _
 refine o_istore K X10 d42_25 rfl (L' := #[vR a, vI 4, vR b1, vI 5, vI c5]) rfl ?_
 refine o_iload K X10 d42_27 rfl rfl ?_
 refine o_bipush K X10 d42_29 rfl (z := 34) rfl ?_
 refine o_icmp_eq_f K X10 d42_31 rfl q4 ?_
 refine o_aloadN K X10 d42_34 rfl rfl rfl ?_
 refine o_iload K X10 d42_35 rfl rfl ?_
 have n11 := oLsz A1.lt u2_1
 refine o_virtual K X10   (w97 hw) (w98 hw) (oNF (w100 hw)) (w100 hw) (w99 hw) (w37 hw) (w101 hw) (by decide) u2_2 (rm_sbapp0 l Z a0 hw b1 r_2 k_2 c5 cs h2 u2_2 u2_3 u2_4 u2_5 u2_6 G1 G2_r n11 q8 q12 q13) (allS me1 (allS me0 all0)) (by decide) rfl (argsL := [.int c5]) rfl (lenOf pd28 rfl) (W := 0) rfl (by decide) (by decide) (by decide) d42_37 rfl ?_
 intro v12 T12 h12 FX12 U12
 obtain ⟨rfl, u12_0, u12_1, u12_2, u12_3, u12_4, u12_5⟩ := U12
 have X12 := FX12 [] (Or.inl rfl) all0
 show oGoes pp ee bb ss Z T12 (mkF mm 40 _ [.ref b1]) _ _ _ _
 refine o_pop K X12 d42_40 rfl rfl ?_
 refine o_iinc K X12 d42_41 rfl rfl (L' := #[vR a, vI 4, vR b1, vI 6, vI c5]) (by rw [show (5 : Int32) + Int32.ofInt 1 = (6 : Int32) from (by decide)]; rfl) ?_
 refine o_goto K X12 d42_44 (by decide) (pc' := 100) (by decide) ?_
 refine o_goto K X12 d42_100 (by decide) (pc' := 12) (by decide) ?_
 refine o_iloadN K X12 d42_12 rfl rfl ?_
 refine o_aloadN K X12 d42_13 rfl rfl rfl ?_
 have m13 := (m3.keep u12_0)
 have n14 := oLn q0.lt E1.1 u2_1
 have m15 := (m5.keep u12_0 (ninS n4 (ninS n14 nin0)))
 have m16 := (m6.keep u12_0 (ninS n4 (ninS n14 nin0)))
 have n17 := oLn q3.lt E1.1 u2_1
 have m18 := (m8.keep u12_0 (ninS n7 (ninS n17 nin0)))
 refine o_virtual K X12   (w53 hw) (w54 hw) (oNF (w56 hw)) (w56 hw) (w55 hw) (w4 hw) (w57 hw) (by decide) m13 (rm_strlen l Z a0 hw a va k c0 c1 c2 c3 c4 c5 c6 cs h12 m13 m15 m16 m18 q12 q13) all0 (by decide) rfl (argsL := []) rfl (lenOf pd10 rfl) (W := 1) rfl (by decide) (by decide) (by decide) d42_14 rfl ?_
 intro v19 T19 h19 FX19 U19
 obtain ⟨rfl, rfl⟩ := U19
 have X19 := FX19 [] (Or.inl rfl) all0
 show oGoes pp ee bb ss Z T19 (mkF mm 17 _ [.int 7, .int 6]) _ _ _ _
 refine o_icmp_ge_f K X19 d42_17 rfl (by decide) ?_
 refine o_aloadN K X19 d42_20 rfl rfl rfl ?_
 refine o_iloadN K X19 d42_21 rfl rfl ?_
 refine o_virtual K X19   (w75 hw) (w76 hw) (oNF (w78 hw)) (w78 hw) (w77 hw) (w4 hw) (w79 hw) (by decide) m13 (rm_char6 l Z a0 hw a va k c0 c1 c2 c3 c4 c5 c6 fm cs h12 m13 m15 m16 m18 q7 q10 q11 q12 q13) all0 (by decide) rfl (argsL := [.int 6]) rfl (lenOf pd27 rfl) (W := 0) rfl (by decide) (by decide) (by decide) d42_22 rfl ?_
 intro v20 T20 h20 FX20 U20
 obtain ⟨rfl, rfl, u20_1⟩ := U20
 have X20 := FX20 [] (Or.inl rfl) all0
 show oGoes pp ee bb ss Z T20 (mkF mm 25 _ [.int c6]) _ _ _ _
 refine o_istore K X20 d42_25 rfl (L' := #[vR a, vI 4, vR b1, vI 6, vI c6]) rfl ?_
 refine o_iload K X20 d42_27 rfl rfl ?_
 refine o_bipush K X20 d42_29 rfl (z := 34) rfl ?_
 refine o_icmp_eq_f K X20 d42_31 rfl q5 ?_
 refine o_aloadN K X20 d42_34 rfl rfl rfl ?_
 refine o_iload K X20 d42_35 rfl rfl ?_
 refine o_virtual K X20   (w97 hw) (w98 hw) (oNF (w100 hw)) (w100 hw) (w99 hw) (w37 hw) (w101 hw) (by decide) u12_1 (rm_sbapp1 l Z a0 hw b1 r_2 k_2 c6 (nar .byte c5) cs h12 u12_1 u12_2 u12_3 u12_4 u12_5 G1 G2_r n11 q9 q12 q13) (allS me1 (allS me0 all0)) (by decide) rfl (argsL := [.int c6]) rfl (lenOf pd28 rfl) (W := 0) rfl (by decide) (by decide) (by decide) d42_37 rfl ?_
 intro v21 T21 h21 FX21 U21
 obtain ⟨rfl, u21_0, u21_1, u21_2, u21_3, u21_4, u21_5⟩ := U21
 have X21 := FX21 [] (Or.inl rfl) all0
 show oGoes pp ee bb ss Z T21 (mkF mm 40 _ [.ref b1]) _ _ _ _
 refine o_pop K X21 d42_40 rfl rfl ?_
 refine o_iinc K X21 d42_41 rfl rfl (L' := #[vR a, vI 4, vR b1, vI 7, vI c6]) (by rw [show (6 : Int32) + Int32.ofInt 1 = (7 : Int32) from (by decide)]; rfl) ?_
 refine o_goto K X21 d42_44 (by decide) (pc' := 100) (by decide) ?_
 refine o_goto K X21 d42_100 (by decide) (pc' := 12) (by decide) ?_
 refine o_iloadN K X21 d42_12 rfl rfl ?_
 refine o_aloadN K X21 d42_13 rfl rfl rfl ?_
 have m22 := (m13.keep u21_0)
 have m23 := (m15.keep u21_0 (ninS n4 (ninS n14 nin0)))
 have m24 := (m16.keep u21_0 (ninS n4 (ninS n14 nin0)))
 have m25 := (m18.keep u21_0 (ninS n7 (ninS n17 nin0)))
 refine o_virtual K X21   (w53 hw) (w54 hw) (oNF (w56 hw)) (w56 hw) (w55 hw) (w4 hw) (w57 hw) (by decide) m22 (rm_strlen l Z a0 hw a va k c0 c1 c2 c3 c4 c5 c6 cs h21 m22 m23 m24 m25 q12 q13) all0 (by decide) rfl (argsL := []) rfl (lenOf pd10 rfl) (W := 1) rfl (by decide) (by decide) (by decide) d42_14 rfl ?_
 intro v26 T26 h26 FX26 U26
 obtain ⟨rfl, rfl⟩ := U26
 have X26 := FX26 [] (Or.inl rfl) all0
 show oGoes pp ee bb ss Z T26 (mkF mm 17 _ [.int 7, .int 7]) _ _ _ _
 refine o_icmp_ge_t K X26 d42_17 (by decide) (pc' := 103) (by decide) (by decide) ?_
 refine o_static K X26  (w63 hw) (w64 hw) (w65 hw) (w66 hw) (by decide) (rm_optempty l Z a0 hw em h21 q14) all0 (by decide) rfl (argsL := []) rfl (lenOf pd26 rfl) (W := 0) rfl (by decide) (by decide) (by decide) d42_103 rfl ?_
 intro v27 T27 h27 FX27 U27
 obtain ⟨rfl, rfl⟩ := U27
 have X27 := FX27 [] (Or.inl rfl) all0
 show oGoes pp ee bb ss Z T27 (mkF mm 106 _ [.ref em]) _ _ _ _
 refine o_areturn K X27 (t := (.object z3)) d42_106 rfl rfl rfl ?_ (by decide) (by decide) (by decide)
 exact ⟨rfl, (((((Keep.refl h0 []).ext E1).trans u2_0 (allS (Or.inr (oLe g1)) all0)).trans u12_0 (allS (Or.inr (oLe g1)) (allS (Or.inr (Nat.le_trans E1.1 u2_1)) all0))).trans u21_0 (allS (Or.inr (oLe g1)) (allS (Or.inr (Nat.le_trans E1.1 u2_1)) all0)))⟩
def Q_read_nn_1 (Z : State) (a va : Addr) (k : ClassId) (c0 c1 c2 c3 c4 c5 c6 : Int32) (fm : Value) (cs : Int32) (em : Addr) (h0 : Heap) (v : Option Value) (h : Heap) : Prop := ∃ r qt s sv : Addr, ∃ ks : ClassId, v = some (.ref r) ∧ Keep h0 h [] ∧ h0.size ≤ r ∧ Exa Z h r z3 ∧ Fld Z h r z3 "value" z11 (.ref qt) ∧ Exa Z h qt z2 ∧ Fld Z h qt z2 "value" z13 (.ref s) ∧ Fld Z h qt z2 "end" "I" (.int 7) ∧ h0.size ≤ s ∧ Exa Z h s z0 ∧ Fld Z h s z0 "value" "[B" (.ref sv) ∧ Fld Z h s z0 "coder" "B" (.int 0) ∧ oArr Z h sv ks .byte [(.int (nar .byte c4)), (.int (nar .byte c5))]
theorem rm_read_nn_1 (l : Launch) (Z : State) (a0 : Array Value) (hw : oHw Z a0) (a va : Addr) (k : ClassId) (c0 c1 c2 c3 c4 c5 c6 : Int32) (fm : Value) (cs : Int32) (em : Addr) (h0 : Heap) (q0 : Exa Z h0 a z0) (q1 : Fld Z h0 a z0 "value" "[B" (.ref va)) (q2 : Fld Z h0 a z0 "coder" "B" (.int 0)) (q3 : oArr Z h0 va k .byte [(.int (nar .byte c0)), (.int (nar .byte c1)), (.int (nar .byte c2)), (.int (nar .byte c3)), (.int (nar .byte c4)), (.int (nar .byte c5)), (.int (nar .byte c6))]) (q4 : c6 = (34 : Int32)) (q5 : ¬ (c4 = (34 : Int32))) (q6 : ¬ (c5 = (34 : Int32))) (q7 : oCh c4) (q8 : oCh c5) (q9 : oCh c6) (q10 : ¬ ((255 : Int32) < c4)) (q11 : ¬ ((255 : Int32) < c5)) (q12 : Sta Z Z.heap z6 z7 z8 fm) (q13 : fm.isRef = true) (q14 : Sta Z Z.heap z0 z5 "Z" (.int cs)) (q15 : ¬ (cs = (0 : Int32))) (q16 : Sta Z Z.heap z3 "EMPTY" z14 (.ref em)) : oMet l Z (⟨z2, "read", z12⟩ : MethodName) prog_30_method_2_code 5 (some (.object z3)) r_read [] #[.ref a, .int 3] h0 (Q_read_nn_1 Z a va k c0 c1 c2 c3 c4 c5 c6 fm cs em h0) [] false := by
 refine oEnter (oEW hw) (plainFor_of_name (by first | (simp [plainName, overriddenIn]; done) | decide +kernel)) (own := z2) (nm := "read") rfl rfl (L := #[.val (.ref a), .val (.int 3), .unset, .unset, .unset]) (fun m => by first | (simp [entryFrame, mkF, argsToLocals, Value.category, oCatRef q13]; done) | rfl) ?_
 intro pp ee ss mm bb mtd cc T0 K X0
 have E0 := X0.ext0
 refine o_new K X0 (w35 hw) (w36 hw) (w37 hw) d42_0 rfl (by decide) (by decide) ?_
 intro T1 h1 b1 X1 g1 E1 A1 D1 G1
 have F1_value : Fld Z h1 b1 z1 "value" "[B" .null := (D1 (Or.inl (w50 hw)) (ty := (.array .byte)) (by decide))
 have F1_coder : Fld Z h1 b1 z1 "coder" "B" (.int 0) := (D1 (Or.inl (w52 hw)) (ty := .byte) (by decide))
 have F1_count : Fld Z h1 b1 z1 "count" "I" (.int 0) := (D1 (Or.inl (w108 hw)) (ty := .int) (by decide))
 refine o_dup K X1 d42_3 rfl rfl ?_
 refine o_special K X1 (y := (⟨z4, "<init>", "()V"⟩ : MethodName)) rfl (w38 hw) (w39 hw) (w37 hw) (w40 hw) (by decide) (rm_sbinit l Z a0 hw b1 cs h1 A1 F1_value F1_coder F1_count G1 q14 q15) (allS me0 all0) (by decide) rfl (argsL := []) rfl (lenOf pd17 rfl) (W := 1) rfl (by decide) (by decide) (by decide) d42_4 rfl ?_
 intro v2 T2 h2 FX2 U2
 obtain ⟨r_2, k_2, rfl, u2_0, u2_1, u2_2, u2_3, u2_4, u2_5, u2_6⟩ := U2
 have G2_r : Z.heap.size ≤ r_2 := Nat.le_trans X1.ext0.1 u2_1
 have X2 := FX2 [r_2] (Or.inl rfl) (allS ⟨u2_1, u2_6.lt⟩ all0)
 show oGoes pp ee bb ss Z T2 (mkF mm 7 _ [.ref b1]) _ _ _ _
 refine o_astoreN K X2 d42_7 rfl rfl (L' := #[vR a, vI 3, vR b1, uS, uS]) rfl ?_
 refine o_iloadN K X2 d42_8 rfl rfl ?_
 refine o_iconst K X2 d42_9 rfl (z := 1) rfl ?_
 refine o_iadd K X2 d42_10 rfl (z := 4) (by decide) ?_
 refine o_istoreN K X2 d42_11 rfl (L' := #[vR a, vI 3, vR b1, vI 4, uS]) rfl ?_
 refine o_iloadN K X2 d42_12 rfl rfl ?_
 refine o_aloadN K X2 d42_13 rfl rfl rfl ?_
 have m3 := ((q0.ext E1).keep u2_0)
 have n4 := oLz q0.lt (oLe g1)
 have m5 := ((q1.ext E1).keep u2_0 (ninS n4 nin0))
 have m6 := ((q2.ext E1).keep u2_0 (ninS n4 nin0))
 have n7 := oLz q3.lt (oLe g1)
 have m8 := ((q3.ext E1).keep u2_0 (ninS n7 nin0))
 refine o_virtual K X2   (w53 hw) (w54 hw) (oNF (w56 hw)) (w56 hw) (w55 hw) (w4 hw) (w57 hw) (by decide) m3 (rm_strlen l Z a0 hw a va k c0 c1 c2 c3 c4 c5 c6 cs h2 m3 m5 m6 m8 q14 q15) all0 (by decide) rfl (argsL := []) rfl (lenOf pd10 rfl) (W := 1) rfl (by decide) (by decide) (by decide) d42_14 rfl ?_
 intro v9 T9 h9 FX9 U9
 obtain ⟨rfl, rfl⟩ := U9
 have X9 := FX9 [] (Or.inl rfl) all0
 show oGoes pp ee bb ss Z T9 (mkF mm 17 _ [.int 7, .int 4]) _ _ _ _
 refine o_icmp_ge_f K X9 d42_17 rfl (by decide) ?_
 refine o_aloadN K X9 d42_20 rfl rfl rfl ?_
 refine o_iloadN K X9 d42_21 rfl rfl ?_
 refine o_virtual K X9   (w75 hw) (w76 hw) (oNF (w78 hw)) (w78 hw) (w77 hw) (w4 hw) (w79 hw) (by decide) m3 (rm_char4 l Z a0 hw a va k c0 c1 c2 c3 c4 c5 c6 fm cs h2 m3 m5 m6 m8 q7 q12 q13 q14 q15) all0 (by decide) rfl (argsL := [.int 4]) rfl (lenOf pd27 rfl) (W := 0) rfl (by decide) (by decide) (by decide) d42_22 rfl ?_
 intro v10 T10 h10 FX10 U10
 obtain ⟨rfl, rfl, u10_1⟩ := U10
 have X10 := FX10 [] (Or.inl rfl) all0
 show oGoes pp ee bb ss Z T10 (mkF mm 25 _ [.int c4]) _ _ _ _
 refine o_istore K X10 d42_25 rfl (L' := #[vR a, vI 3, vR b1, vI 4, vI c4]) rfl ?_
 refine o_iload K X10 d42_27 rfl rfl ?_
 refine o_bipush K X10 d42_29 rfl (z := 34) rfl ?_
 refine o_icmp_eq_f K X10 d42_31 rfl q5 ?_
 refine o_aloadN K X10 d42_34 rfl rfl rfl ?_
 refine o_iload K X10 d42_35 rfl rfl ?_
 have n11 := oLsz A1.lt u2_1
 refine o_virtual K X10   (w97 hw) (w98 hw) (oNF (w100 hw)) (w100 hw) (w99 hw) (w37 hw) (w101 hw) (by decide) u2_2 (rm_sbapp0 l Z a0 hw b1 r_2 k_2 c4 cs h2 u2_2 u2_3 u2_4 u2_5 u2_6 G1 G2_r n11 q10 q14 q15) (allS me1 (allS me0 all0)) (by decide) rfl (argsL := [.int c4]) rfl (lenOf pd28 rfl) (W := 0) rfl (by decide) (by decide) (by decide) d42_37 rfl ?_
 intro v12 T12 h12 FX12 U12
 obtain ⟨rfl, u12_0, u12_1, u12_2, u12_3, u12_4, u12_5⟩ := U12
 have X12 := FX12 [] (Or.inl rfl) all0
 show oGoes pp ee bb ss Z T12 (mkF mm 40 _ [.ref b1]) _ _ _ _
 refine o_pop K X12 d42_40 rfl rfl ?_
 refine o_iinc K X12 d42_41 rfl rfl (L' := #[vR a, vI 3, vR b1, vI 5, vI c4]) (by rw [show (4 : Int32) + Int32.ofInt 1 = (5 : Int32) from (by decide)]; rfl) ?_
 refine o_goto K X12 d42_44 (by decide) (pc' := 100) (by decide) ?_
 refine o_goto K X12 d42_100 (by decide) (pc' := 12) (by decide) ?_
 refine o_iloadN K X12 d42_12 rfl rfl ?_
 refine o_aloadN K X12 d42_13 rfl rfl rfl ?_
 have m13 := (m3.keep u12_0)
 have n14 := oLn q0.lt E1.1 u2_1
 have m15 := (m5.keep u12_0 (ninS n4 (ninS n14 nin0)))
 have m16 := (m6.keep u12_0 (ninS n4 (ninS n14 nin0)))
 have n17 := oLn q3.lt E1.1 u2_1
 have m18 := (m8.keep u12_0 (ninS n7 (ninS n17 nin0)))
 refine o_virtual K X12   (w53 hw) (w54 hw) (oNF (w56 hw)) (w56 hw) (w55 hw) (w4 hw) (w57 hw) (by decide) m13 (rm_strlen l Z a0 hw a va k c0 c1 c2 c3 c4 c5 c6 cs h12 m13 m15 m16 m18 q14 q15) all0 (by decide) rfl (argsL := []) rfl (lenOf pd10 rfl) (W := 1) rfl (by decide) (by decide) (by decide) d42_14 rfl ?_
 intro v19 T19 h19 FX19 U19
 obtain ⟨rfl, rfl⟩ := U19
 have X19 := FX19 [] (Or.inl rfl) all0
 show oGoes pp ee bb ss Z T19 (mkF mm 17 _ [.int 7, .int 5]) _ _ _ _
 refine o_icmp_ge_f K X19 d42_17 rfl (by decide) ?_
 refine o_aloadN K X19 d42_20 rfl rfl rfl ?_
 refine o_iloadN K X19 d42_21 rfl rfl ?_
 refine o_virtual K X19   (w75 hw) (w76 hw) (oNF (w78 hw)) (w78 hw) (w77 hw) (w4 hw) (w79 hw) (by decide) m13 (rm_char5 l Z a0 hw a va k c0 c1 c2 c3 c4 c5 c6 fm cs h12 m13 m15 m16 m18 q8 q12 q13 q14 q15) all0 (by decide) rfl (argsL := [.int 5]) rfl (lenOf pd27 rfl) (W := 0) rfl (by decide) (by decide) (by decide) d42_22 rfl ?_
 intro v20 T20 h20 FX20 U20
 obtain ⟨rfl, rfl, u20_1⟩ := U20
 have X20 := FX20 [] (Or.inl rfl) all0
 show oGoes pp ee bb ss Z T20 (mkF mm 25 _ [.int c5]) _ _ _ _
 refine o_istore K X20 d42_25 rfl (L' := #[vR a, vI 3, vR b1, vI 5, vI c5]) rfl ?_
 refine o_iload K X20 d42_27 rfl rfl ?_
 refine o_bipush K X20 d42_29 rfl (z := 34) rfl ?_
 refine o_icmp_eq_f K X20 d42_31 rfl q6 ?_
 refine o_aloadN K X20 d42_34 rfl rfl rfl ?_
 refine o_iload K X20 d42_35 rfl rfl ?_
 refine o_virtual K X20   (w97 hw) (w98 hw) (oNF (w100 hw)) (w100 hw) (w99 hw) (w37 hw) (w101 hw) (by decide) u12_1 (rm_sbapp1 l Z a0 hw b1 r_2 k_2 c5 (nar .byte c4) cs h12 u12_1 u12_2 u12_3 u12_4 u12_5 G1 G2_r n11 q11 q14 q15) (allS me1 (allS me0 all0)) (by decide) rfl (argsL := [.int c5]) rfl (lenOf pd28 rfl) (W := 0) rfl (by decide) (by decide) (by decide) d42_37 rfl ?_
 intro v21 T21 h21 FX21 U21
 obtain ⟨rfl, u21_0, u21_1, u21_2, u21_3, u21_4, u21_5⟩ := U21
 have X21 := FX21 [] (Or.inl rfl) all0
 show oGoes pp ee bb ss Z T21 (mkF mm 40 _ [.ref b1]) _ _ _ _
 refine o_pop K X21 d42_40 rfl rfl ?_
 refine o_iinc K X21 d42_41 rfl rfl (L' := #[vR a, vI 3, vR b1, vI 6, vI c5]) (by rw [show (5 : Int32) + Int32.ofInt 1 = (6 : Int32) from (by decide)]; rfl) ?_
 refine o_goto K X21 d42_44 (by decide) (pc' := 100) (by decide) ?_
 refine o_goto K X21 d42_100 (by decide) (pc' := 12) (by decide) ?_
 refine o_iloadN K X21 d42_12 rfl rfl ?_
 refine o_aloadN K X21 d42_13 rfl rfl rfl ?_
 have m22 := (m13.keep u21_0)
 have m23 := (m15.keep u21_0 (ninS n4 (ninS n14 nin0)))
 have m24 := (m16.keep u21_0 (ninS n4 (ninS n14 nin0)))
 have m25 := (m18.keep u21_0 (ninS n7 (ninS n17 nin0)))
 refine o_virtual K X21   (w53 hw) (w54 hw) (oNF (w56 hw)) (w56 hw) (w55 hw) (w4 hw) (w57 hw) (by decide) m22 (rm_strlen l Z a0 hw a va k c0 c1 c2 c3 c4 c5 c6 cs h21 m22 m23 m24 m25 q14 q15) all0 (by decide) rfl (argsL := []) rfl (lenOf pd10 rfl) (W := 1) rfl (by decide) (by decide) (by decide) d42_14 rfl ?_
 intro v26 T26 h26 FX26 U26
 obtain ⟨rfl, rfl⟩ := U26
 have X26 := FX26 [] (Or.inl rfl) all0
 show oGoes pp ee bb ss Z T26 (mkF mm 17 _ [.int 7, .int 6]) _ _ _ _
 refine o_icmp_ge_f K X26 d42_17 rfl (by decide) ?_
 refine o_aloadN K X26 d42_20 rfl rfl rfl ?_
 refine o_iloadN K X26 d42_21 rfl rfl ?_
 refine o_virtual K X26   (w75 hw) (w76 hw) (oNF (w78 hw)) (w78 hw) (w77 hw) (w4 hw) (w79 hw) (by decide) m22 (rm_char6 l Z a0 hw a va k c0 c1 c2 c3 c4 c5 c6 fm cs h21 m22 m23 m24 m25 q9 q12 q13 q14 q15) all0 (by decide) rfl (argsL := [.int 6]) rfl (lenOf pd27 rfl) (W := 0) rfl (by decide) (by decide) (by decide) d42_22 rfl ?_
 intro v27 T27 h27 FX27 U27
 obtain ⟨rfl, rfl, u27_1⟩ := U27
 have X27 := FX27 [] (Or.inl rfl) all0
 show oGoes pp ee bb ss Z T27 (mkF mm 25 _ [.int c6]) _ _ _ _
 refine o_istore K X27 d42_25 rfl (L' := #[vR a, vI 3, vR b1, vI 6, vI c6]) rfl ?_
 refine o_iload K X27 d42_27 rfl rfl ?_
 refine o_bipush K X27 d42_29 rfl (z := 34) rfl ?_
 refine o_icmp_eq_t K X27 d42_31 (by decide) (pc' := 47) (by decide) q4 ?_
 refine o_iloadN K X27 d42_47 rfl rfl ?_
 refine o_iconst K X27 d42_48 rfl (z := 1) rfl ?_
 refine o_iadd K X27 d42_49 rfl (z := 7) (by decide) ?_
 refine o_aloadN K X27 d42_50 rfl rfl rfl ?_
 refine o_virtual K X27   (w53 hw) (w54 hw) (oNF (w56 hw)) (w56 hw) (w55 hw) (w4 hw) (w57 hw) (by decide) m22 (rm_strlen l Z a0 hw a va k c0 c1 c2 c3 c4 c5 c6 cs h21 m22 m23 m24 m25 q14 q15) all0 (by decide) rfl (argsL := []) rfl (lenOf pd10 rfl) (W := 1) rfl (by decide) (by decide) (by decide) d42_51 rfl ?_
 intro v28 T28 h28 FX28 U28
 obtain ⟨rfl, rfl⟩ := U28
 have X28 := FX28 [] (Or.inl rfl) all0
 show oGoes pp ee bb ss Z T28 (mkF mm 54 _ [.int 7, .int 7]) _ _ _ _
 refine o_icmp_ge_t K X28 d42_54 (by decide) (pc' := 82) (by decide) (by decide) ?_
 refine tl_rd2 l Z a0 hw a 3 b1 6 c6 7 r_2 k_2 (nar .byte c4) (nar .byte c5) cs h21 u21_1 u21_2 u21_3 u21_4 u21_5 q14 q15 (by decide) (fun v29 h29 U29 => ?_) K (X28.mono (by decide) (by decide) (by decide) all0)
 obtain ⟨r_29, qt_29, s_29, sv_29, ks_29, rfl, u29_0, u29_1, u29_2, u29_3, u29_4, u29_5, u29_6, u29_7, u29_8, u29_9, u29_10, u29_11⟩ := U29
 have G29_r : Z.heap.size ≤ r_29 := Nat.le_trans X28.ext0.1 u29_1
 have G29_s : Z.heap.size ≤ s_29 := Nat.le_trans X28.ext0.1 u29_7
 have y0_4 := Nat.le_trans (Nat.le_trans (Nat.le_trans E1.1 u2_0.1) u12_0.1) u21_0.1
 exact ⟨r_29, qt_29, s_29, sv_29, ks_29, rfl, ((((((Keep.refl h0 []).ext E1).trans u2_0 (allS (Or.inr (oLe g1)) all0)).trans u12_0 (allS (Or.inr (oLe g1)) (allS (Or.inr (Nat.le_trans E1.1 u2_1)) all0))).trans u21_0 (allS (Or.inr (oLe g1)) (allS (Or.inr (Nat.le_trans E1.1 u2_1)) all0))).trans u29_0 all0), (Nat.le_trans y0_4 u29_1), u29_2, u29_3, u29_4, u29_5, u29_6, (Nat.le_trans y0_4 u29_7), u29_8, u29_9, u29_10, u29_11⟩
def Q_read_nn_2 (Z : State) (a va : Addr) (k : ClassId) (c0 c1 c2 c3 c4 c5 c6 : Int32) (fm : Value) (cs : Int32) (em : Addr) (h0 : Heap) (v : Option Value) (h : Heap) : Prop := ∃ r qt s sv : Addr, ∃ ks : ClassId, v = some (.ref r) ∧ Keep h0 h [] ∧ h0.size ≤ r ∧ Exa Z h r z3 ∧ Fld Z h r z3 "value" z11 (.ref qt) ∧ Exa Z h qt z2 ∧ Fld Z h qt z2 "value" z13 (.ref s) ∧ Fld Z h qt z2 "end" "I" (.int 6) ∧ h0.size ≤ s ∧ Exa Z h s z0 ∧ Fld Z h s z0 "value" "[B" (.ref sv) ∧ Fld Z h s z0 "coder" "B" (.int 0) ∧ oArr Z h sv ks .byte [(.int (nar .byte c3)), (.int (nar .byte c4))]
theorem rm_read_nn_2 (l : Launch) (Z : State) (a0 : Array Value) (hw : oHw Z a0) (a va : Addr) (k : ClassId) (c0 c1 c2 c3 c4 c5 c6 : Int32) (fm : Value) (cs : Int32) (em : Addr) (h0 : Heap) (q0 : Exa Z h0 a z0) (q1 : Fld Z h0 a z0 "value" "[B" (.ref va)) (q2 : Fld Z h0 a z0 "coder" "B" (.int 0)) (q3 : oArr Z h0 va k .byte [(.int (nar .byte c0)), (.int (nar .byte c1)), (.int (nar .byte c2)), (.int (nar .byte c3)), (.int (nar .byte c4)), (.int (nar .byte c5)), (.int (nar .byte c6))]) (q4 : c5 = (34 : Int32)) (q5 : ¬ (c3 = (34 : Int32))) (q6 : ¬ (c4 = (34 : Int32))) (q7 : ¬ (c6 = (34 : Int32))) (q8 : oCh c3) (q9 : oCh c4) (q10 : oCh c5) (q11 : oCh c6) (q12 : ¬ ((255 : Int32) < c3)) (q13 : ¬ ((255 : Int32) < c4)) (q14 : ¬ ((255 : Int32) < c6)) (q15 : Sta Z Z.heap z6 z7 z8 fm) (q16 : fm.isRef = true) (q17 : Sta Z Z.heap z0 z5 "Z" (.int cs)) (q18 : ¬ (cs = (0 : Int32))) (q19 : Sta Z Z.heap z3 "EMPTY" z14 (.ref em)) : oMet l Z (⟨z2, "read", z12⟩ : MethodName) prog_30_method_2_code 5 (some (.object z3)) r_read [] #[.ref a, .int 2] h0 (Q_read_nn_2 Z a va k c0 c1 c2 c3 c4 c5 c6 fm cs em h0) [] false := by
 refine oEnter (oEW hw) (plainFor_of_name (by first | (simp [plainName, overriddenIn]; done) | decide +kernel)) (own := z2) (nm := "read") rfl rfl (L := #[.val (.ref a), .val (.int 2), .unset, .unset, .unset]) (fun m => by first | (simp [entryFrame, mkF, argsToLocals, Value.category, oCatRef q16]; done) | rfl) ?_
 intro pp ee ss mm bb mtd cc T0 K X0
 have E0 := X0.ext0
 refine o_new K X0 (w35 hw) (w36 hw) (w37 hw) d42_0 rfl (by decide) (by decide) ?_
 intro T1 h1 b1 X1 g1 E1 A1 D1 G1
 have F1_value : Fld Z h1 b1 z1 "value" "[B" .null := (D1 (Or.inl (w50 hw)) (ty := (.array .byte)) (by decide))
 have F1_coder : Fld Z h1 b1 z1 "coder" "B" (.int 0) := (D1 (Or.inl (w52 hw)) (ty := .byte) (by decide))
 have F1_count : Fld Z h1 b1 z1 "count" "I" (.int 0) := (D1 (Or.inl (w108 hw)) (ty := .int) (by decide))
 refine o_dup K X1 d42_3 rfl rfl ?_
 refine o_special K X1 (y := (⟨z4, "<init>", "()V"⟩ : MethodName)) rfl (w38 hw) (w39 hw) (w37 hw) (w40 hw) (by decide) (rm_sbinit l Z a0 hw b1 cs h1 A1 F1_value F1_coder F1_count G1 q17 q18) (allS me0 all0) (by decide) rfl (argsL := []) rfl (lenOf pd17 rfl) (W := 1) rfl (by decide) (by decide) (by decide) d42_4 rfl ?_
 intro v2 T2 h2 FX2 U2
 obtain ⟨r_2, k_2, rfl, u2_0, u2_1, u2_2, u2_3, u2_4, u2_5, u2_6⟩ := U2
 have G2_r : Z.heap.size ≤ r_2 := Nat.le_trans X1.ext0.1 u2_1
 have X2 := FX2 [r_2] (Or.inl rfl) (allS ⟨u2_1, u2_6.lt⟩ all0)
 show oGoes pp ee bb ss Z T2 (mkF mm 7 _ [.ref b1]) _ _ _ _
 refine o_astoreN K X2 d42_7 rfl rfl (L' := #[vR a, vI 2, vR b1, uS, uS]) rfl ?_
 refine o_iloadN K X2 d42_8 rfl rfl ?_
 refine o_iconst K X2 d42_9 rfl (z := 1) rfl ?_
 refine o_iadd K X2 d42_10 rfl (z := 3) (by decide) ?_
 refine o_istoreN K X2 d42_11 rfl (L' := #[vR a, vI 2, vR b1, vI 3, uS]) rfl ?_
 refine o_iloadN K X2 d42_12 rfl rfl ?_
 refine o_aloadN K X2 d42_13 rfl rfl rfl ?_
 have m3 := ((q0.ext E1).keep u2_0)
 have n4 := oLz q0.lt (oLe g1)
 have m5 := ((q1.ext E1).keep u2_0 (ninS n4 nin0))
 have m6 := ((q2.ext E1).keep u2_0 (ninS n4 nin0))
 have n7 := oLz q3.lt (oLe g1)
 have m8 := ((q3.ext E1).keep u2_0 (ninS n7 nin0))
 refine o_virtual K X2   (w53 hw) (w54 hw) (oNF (w56 hw)) (w56 hw) (w55 hw) (w4 hw) (w57 hw) (by decide) m3 (rm_strlen l Z a0 hw a va k c0 c1 c2 c3 c4 c5 c6 cs h2 m3 m5 m6 m8 q17 q18) all0 (by decide) rfl (argsL := []) rfl (lenOf pd10 rfl) (W := 1) rfl (by decide) (by decide) (by decide) d42_14 rfl ?_
 intro v9 T9 h9 FX9 U9
 obtain ⟨rfl, rfl⟩ := U9
 have X9 := FX9 [] (Or.inl rfl) all0
 show oGoes pp ee bb ss Z T9 (mkF mm 17 _ [.int 7, .int 3]) _ _ _ _
 refine o_icmp_ge_f K X9 d42_17 rfl (by decide) ?_
 refine o_aloadN K X9 d42_20 rfl rfl rfl ?_
 refine o_iloadN K X9 d42_21 rfl rfl ?_
 refine o_virtual K X9   (w75 hw) (w76 hw) (oNF (w78 hw)) (w78 hw) (w77 hw) (w4 hw) (w79 hw) (by decide) m3 (rm_char3 l Z a0 hw a va k c0 c1 c2 c3 c4 c5 c6 fm cs h2 m3 m5 m6 m8 q8 q15 q16 q17 q18) all0 (by decide) rfl (argsL := [.int 3]) rfl (lenOf pd27 rfl) (W := 0) rfl (by decide) (by decide) (by decide) d42_22 rfl ?_
 intro v10 T10 h10 FX10 U10
 obtain ⟨rfl, rfl, u10_1⟩ := U10
 have X10 := FX10 [] (Or.inl rfl) all0
 show oGoes pp ee bb ss Z T10 (mkF mm 25 _ [.int c3]) _ _ _ _
 refine o_istore K X10 d42_25 rfl (L' := #[vR a, vI 2, vR b1, vI 3, vI c3]) rfl ?_
 refine o_iload K X10 d42_27 rfl rfl ?_
 refine o_bipush K X10 d42_29 rfl (z := 34) rfl ?_
 refine o_icmp_eq_f K X10 d42_31 rfl q5 ?_
 refine o_aloadN K X10 d42_34 rfl rfl rfl ?_
 refine o_iload K X10 d42_35 rfl rfl ?_
 have n11 := oLsz A1.lt u2_1
 refine o_virtual K X10   (w97 hw) (w98 hw) (oNF (w100 hw)) (w100 hw) (w99 hw) (w37 hw) (w101 hw) (by decide) u2_2 (rm_sbapp0 l Z a0 hw b1 r_2 k_2 c3 cs h2 u2_2 u2_3 u2_4 u2_5 u2_6 G1 G2_r n11 q12 q17 q18) (allS me1 (allS me0 all0)) (by decide) rfl (argsL := [.int c3]) rfl (lenOf pd28 rfl) (W := 0) rfl (by decide) (by decide) (by decide) d42_37 rfl ?_
 intro v12 T12 h12 FX12 U12
 obtain ⟨rfl, u12_0, u12_1, u12_2, u12_3, u12_4, u12_5⟩ := U12
 have X12 := FX12 [] (Or.inl rfl) all0
 show oGoes pp ee bb ss Z T12 (mkF mm 40 _ [.ref b1]) _ _ _ _
 refine o_pop K X12 d42_40 rfl rfl ?_
 refine o_iinc K X12 d42_41 rfl rfl (L' := #[vR a, vI 2, vR b1, vI 4, vI c3]) (by rw [show (3 : Int32) + Int32.ofInt 1 = (4 : Int32) from (by decide)]; rfl) ?_
 refine o_goto K X12 d42_44 (by decide) (pc' := 100) (by decide) ?_
 refine o_goto K X12 d42_100 (by decide) (pc' := 12) (by decide) ?_
 refine o_iloadN K X12 d42_12 rfl rfl ?_
 refine o_aloadN K X12 d42_13 rfl rfl rfl ?_
 have m13 := (m3.keep u12_0)
 have n14 := oLn q0.lt E1.1 u2_1
 have m15 := (m5.keep u12_0 (ninS n4 (ninS n14 nin0)))
 have m16 := (m6.keep u12_0 (ninS n4 (ninS n14 nin0)))
 have n17 := oLn q3.lt E1.1 u2_1
 have m18 := (m8.keep u12_0 (ninS n7 (ninS n17 nin0)))
 refine o_virtual K X12   (w53 hw) (w54 hw) (oNF (w56 hw)) (w56 hw) (w55 hw) (w4 hw) (w57 hw) (by decide) m13 (rm_strlen l Z a0 hw a va k c0 c1 c2 c3 c4 c5 c6 cs h12 m13 m15 m16 m18 q17 q18) all0 (by decide) rfl (argsL := []) rfl (lenOf pd10 rfl) (W := 1) rfl (by decide) (by decide) (by decide) d42_14 rfl ?_
 intro v19 T19 h19 FX19 U19
 obtain ⟨rfl, rfl⟩ := U19
 have X19 := FX19 [] (Or.inl rfl) all0
 show oGoes pp ee bb ss Z T19 (mkF mm 17 _ [.int 7, .int 4]) _ _ _ _
 refine o_icmp_ge_f K X19 d42_17 rfl (by decide) ?_
 refine o_aloadN K X19 d42_20 rfl rfl rfl ?_
 refine o_iloadN K X19 d42_21 rfl rfl ?_
 refine o_virtual K X19   (w75 hw) (w76 hw) (oNF (w78 hw)) (w78 hw) (w77 hw) (w4 hw) (w79 hw) (by decide) m13 (rm_char4 l Z a0 hw a va k c0 c1 c2 c3 c4 c5 c6 fm cs h12 m13 m15 m16 m18 q9 q15 q16 q17 q18) all0 (by decide) rfl (argsL := [.int 4]) rfl (lenOf pd27 rfl) (W := 0) rfl (by decide) (by decide) (by decide) d42_22 rfl ?_
 intro v20 T20 h20 FX20 U20
 obtain ⟨rfl, rfl, u20_1⟩ := U20
 have X20 := FX20 [] (Or.inl rfl) all0
 show oGoes pp ee bb ss Z T20 (mkF mm 25 _ [.int c4]) _ _ _ _
 refine o_istore K X20 d42_25 rfl (L' := #[vR a, vI 2, vR b1, vI 4, vI c4]) rfl ?_
 refine o_iload K X20 d42_27 rfl rfl ?_
 refine o_bipush K X20 d42_29 rfl (z := 34) rfl ?_
 refine o_icmp_eq_f K X20 d42_31 rfl q6 ?_
 refine o_aloadN K X20 d42_34 rfl rfl rfl ?_
 refine o_iload K X20 d42_35 rfl rfl ?_
 refine o_virtual K X20   (w97 hw) (w98 hw) (oNF (w100 hw)) (w100 hw) (w99 hw) (w37 hw) (w101 hw) (by decide) u12_1 (rm_sbapp1 l Z a0 hw b1 r_2 k_2 c4 (nar .byte c3) cs h12 u12_1 u12_2 u12_3 u12_4 u12_5 G1 G2_r n11 q13 q17 q18) (allS me1 (allS me0 all0)) (by decide) rfl (argsL := [.int c4]) rfl (lenOf pd28 rfl) (W := 0) rfl (by decide) (by decide) (by decide) d42_37 rfl ?_
 intro v21 T21 h21 FX21 U21
 obtain ⟨rfl, u21_0, u21_1, u21_2, u21_3, u21_4, u21_5⟩ := U21
 have X21 := FX21 [] (Or.inl rfl) all0
 show oGoes pp ee bb ss Z T21 (mkF mm 40 _ [.ref b1]) _ _ _ _
 refine o_pop K X21 d42_40 rfl rfl ?_
 refine o_iinc K X21 d42_41 rfl rfl (L' := #[vR a, vI 2, vR b1, vI 5, vI c4]) (by rw [show (4 : Int32) + Int32.ofInt 1 = (5 : Int32) from (by decide)]; rfl) ?_
 refine o_goto K X21 d42_44 (by decide) (pc' := 100) (by decide) ?_
 refine o_goto K X21 d42_100 (by decide) (pc' := 12) (by decide) ?_
 refine o_iloadN K X21 d42_12 rfl rfl ?_
 refine o_aloadN K X21 d42_13 rfl rfl rfl ?_
 have m22 := (m13.keep u21_0)
 have m23 := (m15.keep u21_0 (ninS n4 (ninS n14 nin0)))
 have m24 := (m16.keep u21_0 (ninS n4 (ninS n14 nin0)))
 have m25 := (m18.keep u21_0 (ninS n7 (ninS n17 nin0)))
 refine o_virtual K X21   (w53 hw) (w54 hw) (oNF (w56 hw)) (w56 hw) (w55 hw) (w4 hw) (w57 hw) (by decide) m22 (rm_strlen l Z a0 hw a va k c0 c1 c2 c3 c4 c5 c6 cs h21 m22 m23 m24 m25 q17 q18) all0 (by decide) rfl (argsL := []) rfl (lenOf pd10 rfl) (W := 1) rfl (by decide) (by decide) (by decide) d42_14 rfl ?_
 intro v26 T26 h26 FX26 U26
 obtain ⟨rfl, rfl⟩ := U26
 have X26 := FX26 [] (Or.inl rfl) all0
 show oGoes pp ee bb ss Z T26 (mkF mm 17 _ [.int 7, .int 5]) _ _ _ _
 refine o_icmp_ge_f K X26 d42_17 rfl (by decide) ?_
 refine o_aloadN K X26 d42_20 rfl rfl rfl ?_
 refine o_iloadN K X26 d42_21 rfl rfl ?_
 refine o_virtual K X26   (w75 hw) (w76 hw) (oNF (w78 hw)) (w78 hw) (w77 hw) (w4 hw) (w79 hw) (by decide) m22 (rm_char5 l Z a0 hw a va k c0 c1 c2 c3 c4 c5 c6 fm cs h21 m22 m23 m24 m25 q10 q15 q16 q17 q18) all0 (by decide) rfl (argsL := [.int 5]) rfl (lenOf pd27 rfl) (W := 0) rfl (by decide) (by decide) (by decide) d42_22 rfl ?_
 intro v27 T27 h27 FX27 U27
 obtain ⟨rfl, rfl, u27_1⟩ := U27
 have X27 := FX27 [] (Or.inl rfl) all0
 show oGoes pp ee bb ss Z T27 (mkF mm 25 _ [.int c5]) _ _ _ _
 refine o_istore K X27 d42_25 rfl (L' := #[vR a, vI 2, vR b1, vI 5, vI c5]) rfl ?_
 refine o_iload K X27 d42_27 rfl rfl ?_
 refine o_bipush K X27 d42_29 rfl (z := 34) rfl ?_
 refine o_icmp_eq_t K X27 d42_31 (by decide) (pc' := 47) (by decide) q4 ?_
 refine o_iloadN K X27 d42_47 rfl rfl ?_
 refine o_iconst K X27 d42_48 rfl (z := 1) rfl ?_
 refine o_iadd K X27 d42_49 rfl (z := 6) (by decide) ?_
 refine o_aloadN K X27 d42_50 rfl rfl rfl ?_
 refine o_virtual K X27   (w53 hw) (w54 hw) (oNF (w56 hw)) (w56 hw) (w55 hw) (w4 hw) (w57 hw) (by decide) m22 (rm_strlen l Z a0 hw a va k c0 c1 c2 c3 c4 c5 c6 cs h21 m22 m23 m24 m25 q17 q18) all0 (by decide) rfl (argsL := []) rfl (lenOf pd10 rfl) (W := 1) rfl (by decide) (by decide) (by decide) d42_51 rfl ?_
 intro v28 T28 h28 FX28 U28
 obtain ⟨rfl, rfl⟩ := U28
 have X28 := FX28 [] (Or.inl rfl) all0
 show oGoes pp ee bb ss Z T28 (mkF mm 54 _ [.int 7, .int 6]) _ _ _ _
 refine o_icmp_ge_f K X28 d42_54 rfl (by decide) ?_
 refine o_aloadN K X28 d42_57 rfl rfl rfl ?_
 refine o_iloadN K X28 d42_58 rfl rfl ?_
 refine o_iconst K X28 d42_59 rfl (z := 1) rfl ?_
 refine o_iadd K X28 d42_60 rfl (z := 6) (by decide) ?_
 refine o_virtual K X28   (w75 hw) (w76 hw) (oNF (w78 hw)) (w78 hw) (w77 hw) (w4 hw) (w79 hw) (by decide) m22 (rm_char6 l Z a0 hw a va k c0 c1 c2 c3 c4 c5 c6 fm cs h21 m22 m23 m24 m25 q11 q15 q16 q17 q18) all0 (by decide) rfl (argsL := [.int 6]) rfl (lenOf pd27 rfl) (W := 0) rfl (by decide) (by decide) (by decide) d42_61 rfl ?_
 intro v29 T29 h29 FX29 U29
 obtain ⟨rfl, rfl, u29_1⟩ := U29
 have X29 := FX29 [] (Or.inl rfl) all0
 show oGoes pp ee bb ss Z T29 (mkF mm 64 _ [.int c6]) _ _ _ _
 refine o_bipush K X29 d42_64 rfl (z := 34) rfl ?_
 refine o_icmp_ne_t K X29 d42_66 (by decide) (pc' := 82) (by decide) q7 ?_
 refine tl_rd2 l Z a0 hw a 2 b1 5 c5 6 r_2 k_2 (nar .byte c3) (nar .byte c4) cs h21 u21_1 u21_2 u21_3 u21_4 u21_5 q17 q18 (by decide) (fun v30 h30 U30 => ?_) K (X29.mono (by decide) (by decide) (by decide) all0)
 obtain ⟨r_30, qt_30, s_30, sv_30, ks_30, rfl, u30_0, u30_1, u30_2, u30_3, u30_4, u30_5, u30_6, u30_7, u30_8, u30_9, u30_10, u30_11⟩ := U30
 have G30_r : Z.heap.size ≤ r_30 := Nat.le_trans X29.ext0.1 u30_1
 have G30_s : Z.heap.size ≤ s_30 := Nat.le_trans X29.ext0.1 u30_7
 have y0_4 := Nat.le_trans (Nat.le_trans (Nat.le_trans E1.1 u2_0.1) u12_0.1) u21_0.1
 exact ⟨r_30, qt_30, s_30, sv_30, ks_30, rfl, ((((((Keep.refl h0 []).ext E1).trans u2_0 (allS (Or.inr (oLe g1)) all0)).trans u12_0 (allS (Or.inr (oLe g1)) (allS (Or.inr (Nat.le_trans E1.1 u2_1)) all0))).trans u21_0 (allS (Or.inr (oLe g1)) (allS (Or.inr (Nat.le_trans E1.1 u2_1)) all0))).trans u30_0 all0), (Nat.le_trans y0_4 u30_1), u30_2, u30_3, u30_4, u30_5, u30_6, (Nat.le_trans y0_4 u30_7), u30_8, u30_9, u30_10, u30_11⟩
def Q_read_nq_0 (Z : State) (a va : Addr) (k : ClassId) (c0 c1 c2 c3 c4 c5 c6 : Int32) (fm : Value) (cs : Int32) (em : Addr) (h0 : Heap) (v : Option Value) (h : Heap) : Prop := v = some (.ref em) ∧ Keep h0 h []
theorem rm_read_nq_0 (l : Launch) (Z : State) (a0 : Array Value) (hw : oHw Z a0) (a va : Addr) (k : ClassId) (c0 c1 c2 c3 c4 c5 c6 : Int32) (fm : Value) (cs : Int32) (em : Addr) (h0 : Heap) (q0 : Exa Z h0 a z0) (q1 : Fld Z h0 a z0 "value" "[B" (.ref va)) (q2 : Fld Z h0 a z0 "coder" "B" (.int 0)) (q3 : oArr Z h0 va k .byte [(.int (nar .byte c0)), (.int (nar .byte c1)), (.int (nar .byte c2)), (.int (nar .byte c3)), (.int (nar .byte c4)), (.int (nar .byte c5)), (.int (nar .byte c6))]) (q4 : c5 = (34 : Int32)) (q5 : c6 = (34 : Int32)) (q6 : ¬ (c4 = (34 : Int32))) (q7 : oCh c4) (q8 : oCh c5) (q9 : oCh c6) (q10 : ¬ ((255 : Int32) < c4)) (q11 : Sta Z Z.heap z6 z7 z8 fm) (q12 : fm.isRef = true) (q13 : Sta Z Z.heap z0 z5 "Z" (.int cs)) (q14 : ¬ (cs = (0 : Int32))) (q15 : Sta Z Z.heap z3 "EMPTY" z14 (.ref em)) : oMet l Z (⟨z2, "read", z12⟩ : MethodName) prog_30_method_2_code 5 (some (.object z3)) r_read [] #[.ref a, .int 3] h0 (Q_read_nq_0 Z a va k c0 c1 c2 c3 c4 c5 c6 fm cs em h0) [] false := by
 refine oEnter (oEW hw) (plainFor_of_name (by first | (simp [plainName, overriddenIn]; done) | decide +kernel)) (own := z2) (nm := "read") rfl rfl (L := #[.val (.ref a), .val (.int 3), .unset, .unset, .unset]) (fun m => by first | (simp [entryFrame, mkF, argsToLocals, Value.category, oCatRef q12]; done) | rfl) ?_
 intro pp ee ss mm bb mtd cc T0 K X0
 have E0 := X0.ext0
 refine o_new K X0 (w35 hw) (w36 hw) (w37 hw) d42_0 rfl (by decide) (by decide) ?_
 intro T1 h1 b1 X1 g1 E1 A1 D1 G1
 have F1_value : Fld Z h1 b1 z1 "value" "[B" .null := (D1 (Or.inl (w50 hw)) (ty := (.array .byte)) (by decide))
 have F1_coder : Fld Z h1 b1 z1 "coder" "B" (.int 0) := (D1 (Or.inl (w52 hw)) (ty := .byte) (by decide))
 have F1_count : Fld Z h1 b1 z1 "count" "I" (.int 0) := (D1 (Or.inl (w108 hw)) (ty := .int) (by decide))
 refine o_dup K X1 d42_3 rfl rfl ?_
 refine o_special K X1 (y := (⟨z4, "<init>", "()V"⟩ : MethodName)) rfl (w38 hw) (w39 hw) (w37 hw) (w40 hw) (by decide) (rm_sbinit l Z a0 hw b1 cs h1 A1 F1_value F1_coder F1_count G1 q13 q14) (allS me0 all0) (by decide) rfl (argsL := []) rfl (lenOf pd17 rfl) (W := 1) rfl (by decide) (by decide) (by decide) d42_4 rfl ?_
 intro v2 T2 h2 FX2 U2
 obtain ⟨r_2, k_2, rfl, u2_0, u2_1, u2_2, u2_3, u2_4, u2_5, u2_6⟩ := U2
 have G2_r : Z.heap.size ≤ r_2 := Nat.le_trans X1.ext0.1 u2_1
 have X2 := FX2 [r_2] (Or.inl rfl) (allS ⟨u2_1, u2_6.lt⟩ all0)
 show oGoes pp ee bb ss Z T2 (mkF mm 7 _ [.ref b1]) _ _ _ _
 refine o_astoreN K X2 d42_7 rfl rfl (L' := #[vR a, vI 3, vR b1, uS, uS]) rfl ?_
 refine o_iloadN K X2 d42_8 rfl rfl ?_
 refine o_iconst K X2 d42_9 rfl (z := 1) rfl ?_
 refine o_iadd K X2 d42_10 rfl (z := 4) (by decide) ?_
 refine o_istoreN K X2 d42_11 rfl (L' := #[vR a, vI 3, vR b1, vI 4, uS]) rfl ?_
 refine o_iloadN K X2 d42_12 rfl rfl ?_
 refine o_aloadN K X2 d42_13 rfl rfl rfl ?_
 have m3 := ((q0.ext E1).keep u2_0)
 have n4 := oLz q0.lt (oLe g1)
 have m5 := ((q1.ext E1).keep u2_0 (ninS n4 nin0))
 have m6 := ((q2.ext E1).keep u2_0 (ninS n4 nin0))
 have n7 := oLz q3.lt (oLe g1)
 have m8 := ((q3.ext E1).keep u2_0 (ninS n7 nin0))
 refine o_virtual K X2   (w53 hw) (w54 hw) (oNF (w56 hw)) (w56 hw) (w55 hw) (w4 hw) (w57 hw) (by decide) m3 (rm_strlen l Z a0 hw a va k c0 c1 c2 c3 c4 c5 c6 cs h2 m3 m5 m6 m8 q13 q14) all0 (by decide) rfl (argsL := []) rfl (lenOf pd10 rfl) (W := 1) rfl (by decide) (by decide) (by decide) d42_14 rfl ?_
 intro v9 T9 h9 FX9 U9
 obtain ⟨rfl, rfl⟩ := U9
 have X9 := FX9 [] (Or.inl rfl) all0
 show oGoes pp ee bb ss Z T9 (mkF mm 17 _ [.int 7, .int 4]) _ _ _ _
 refine o_icmp_ge_f K X9 d42_17 rfl (by decide) ?_
 refine o_aloadN K X9 d42_20 rfl rfl rfl ?_
 refine o_iloadN K X9 d42_21 rfl rfl ?_
 refine o_virtual K X9   (w75 hw) (w76 hw) (oNF (w78 hw)) (w78 hw) (w77 hw) (w4 hw) (w79 hw) (by decide) m3 (rm_char4 l Z a0 hw a va k c0 c1 c2 c3 c4 c5 c6 fm cs h2 m3 m5 m6 m8 q7 q11 q12 q13 q14) all0 (by decide) rfl (argsL := [.int 4]) rfl (lenOf pd27 rfl) (W := 0) rfl (by decide) (by decide) (by decide) d42_22 rfl ?_
 intro v10 T10 h10 FX10 U10
 obtain ⟨rfl, rfl, u10_1⟩ := U10
 have X10 := FX10 [] (Or.inl rfl) all0
 show oGoes pp ee bb ss Z T10 (mkF mm 25 _ [.int c4]) _ _ _ _
 refine o_istore K X10 d42_25 rfl (L' := #[vR a, vI 3, vR b1, vI 4, vI c4]) rfl ?_
 refine o_iload K X10 d42_27 rfl rfl ?_
 refine o_bipush K X10 d42_29 rfl (z := 34) rfl ?_
 refine o_icmp_eq_f K X10 d42_31 rfl q6 ?_
 refine o_aloadN K X10 d42_34 rfl rfl rfl ?_
 refine o_iload K X10 d42_35 rfl rfl ?_
 have n11 := oLsz A1.lt u2_1
 refine o_virtual K X10   (w97 hw) (w98 hw) (oNF (w100 hw)) (w100 hw) (w99 hw) (w37 hw) (w101 hw) (by decide) u2_2 (rm_sbapp0 l Z a0 hw b1 r_2 k_2 c4 cs h2 u2_2 u2_3 u2_4 u2_5 u2_6 G1 G2_r n11 q10 q13 q14) (allS me1 (allS me0 all0)) (by decide) rfl (argsL := [.int c4]) rfl (lenOf pd28 rfl) (W := 0) rfl (by decide) (by decide) (by decide) d42_37 rfl ?_
 intro v12 T12 h12 FX12 U12
 obtain ⟨rfl, u12_0, u12_1, u12_2, u12_3, u12_4, u12_5⟩ := U12
 have X12 := FX12 [] (Or.inl rfl) all0
 show oGoes pp ee bb ss Z T12 (mkF mm 40 _ [.ref b1]) _ _ _ _
 refine o_pop K X12 d42_40 rfl rfl ?_
 refine o_iinc K X12 d42_41 rfl rfl (L' := #[vR a, vI 3, vR b1, vI 5, vI c4]) (by rw [show (4 : Int32) + Int32.ofInt 1 = (5 : Int32) from (by decide)]; rfl) ?_
 refine o_goto K X12 d42_44 (by decide) (pc' := 100) (by decide) ?_
 refine o_goto K X12 d42_100 (by decide) (pc' := 12) (by decide) ?_
 refine o_iloadN K X12 d42_12 rfl rfl ?_
 refine o_aloadN K X12 d42_13 rfl rfl rfl ?_
 have m13 := (m3.keep u12_0)
 have n14 := oLn q0.lt E1.1 u2_1
 have m15 := (m5.keep u12_0 (ninS n4 (ninS n14 nin0)))
 have m16 := (m6.keep u12_0 (ninS n4 (ninS n14 nin0)))
 have n17 := oLn q3.lt E1.1 u2_1
 have m18 := (m8.keep u12_0 (ninS n7 (ninS n17 nin0)))
 refine o_virtual K X12   (w53 hw) (w54 hw) (oNF (w56 hw)) (w56 hw) (w55 hw) (w4 hw) (w57 hw) (by decide) m13 (rm_strlen l Z a0 hw a va k c0 c1 c2 c3 c4 c5 c6 cs h12 m13 m15 m16 m18 q13 q14) all0 (by decide) rfl (argsL := []) rfl (lenOf pd10 rfl) (W := 1) rfl (by decide) (by decide) (by decide) d42_14 rfl ?_
 intro v19 T19 h19 FX19 U19
 obtain ⟨rfl, rfl⟩ := U19
 have X19 := FX19 [] (Or.inl rfl) all0
 show oGoes pp ee bb ss Z T19 (mkF mm 17 _ [.int 7, .int 5]) _ _ _ _
 refine o_icmp_ge_f K X19 d42_17 rfl (by decide) ?_
 refine o_aloadN K X19 d42_20 rfl rfl rfl ?_
 refine o_iloadN K X19 d42_21 rfl rfl ?_
 refine o_virtual K X19   (w75 hw) (w76 hw) (oNF (w78 hw)) (w78 hw) (w77 hw) (w4 hw) (w79 hw) (by decide) m13 (rm_char5 l Z a0 hw a va k c0 c1 c2 c3 c4 c5 c6 fm cs h12 m13 m15 m16 m18 q8 q11 q12 q13 q14) all0 (by decide) rfl (argsL := [.int 5]) rfl (lenOf pd27 rfl) (W := 0) rfl (by decide) (by decide) (by decide) d42_22 rfl ?_
 intro v20 T20 h20 FX20 U20
 obtain ⟨rfl, rfl, u20_1⟩ := U20
 have X20 := FX20 [] (Or.inl rfl) all0
 show oGoes pp ee bb ss Z T20 (mkF mm 25 _ [.int c5]) _ _ _ _
 refine o_istore K X20 d42_25 rfl (L' := #[vR a, vI 3, vR b1, vI 5, vI c5]) rfl ?_
 refine o_iload K X20 d42_27 rfl rfl ?_
 refine o_bipush K X20 d42_29 rfl (z := 34) rfl ?_
 refine o_icmp_eq_t K X20 d42_31 (by decide) (pc' := 47) (by decide) q4 ?_
 refine o_iloadN K X20 d42_47 rfl rfl ?_
 refine o_iconst K X20 d42_48 rfl (z := 1) rfl ?_
 refine o_iadd K X20 d42_49 rfl (z := 6) (by decide) ?_
 refine o_aloadN K X20 d42_50 rfl rfl rfl ?_
 refine o_virtual K X20   (w53 hw) (w54 hw) (oNF (w56 hw)) (w56 hw) (w55 hw) (w4 hw) (w57 hw) (by decide) m13 (rm_strlen l Z a0 hw a va k c0 c1 c2 c3 c4 c5 c6 cs h12 m13 m15 m16 m18 q13 q14) all0 (by decide) rfl (argsL := []) rfl (lenOf pd10 rfl) (W := 1) rfl (by decide) (by decide) (by decide) d42_51 rfl ?_
 intro v21 T21 h21 FX21 U21
 obtain ⟨rfl, rfl⟩ := U21
 have X21 := FX21 [] (Or.inl rfl) all0
 show oGoes pp ee bb ss Z T21 (mkF mm 54 _ [.int 7, .int 6]) _ _ _ _
 refine o_icmp_ge_f K X21 d42_54 rfl (by decide) ?_
 refine o_aloadN K X21 d42_57 rfl rfl rfl ?_
 refine o_iloadN K X21 d42_58 rfl rfl ?_
 refine o_iconst K X21 d42_59 rfl (z := 1) rfl ?_
 refine o_iadd K X21 d42_60 rfl (z := 6) (by decide) ?_
 refine o_virtual K X21   (w75 hw) (w76 hw) (oNF (w78 hw)) (w78 hw) (w77 hw) (w4 hw) (w79 hw) (by decide) m13 (rm_char6 l Z a0 hw a va k c0 c1 c2 c3 c4 c5 c6 fm cs h12 m13 m15 m16 m18 q9 q11 q12 q13 q14) all0 (by decide) rfl (argsL := [.int 6]) rfl (lenOf pd27 rfl) (W := 0) rfl (by decide) (by decide) (by decide) d42_61 rfl ?_
 intro v22 T22 h22 FX22 U22
 obtain ⟨rfl, rfl, u22_1⟩ := U22
 have X22 := FX22 [] (Or.inl rfl) all0
 show oGoes pp ee bb ss Z T22 (mkF mm 64 _ [.int c6]) _ _ _ _
 refine o_bipush K X22 d42_64 rfl (z := 34) rfl ?_
 refine o_icmp_ne_f K X22 d42_66 rfl q5 ?_
 refine o_aloadN K X22 d42_69 rfl rfl rfl ?_
 refine o_bipush K X22 d42_70 rfl (z := 34) rfl ?_
 refine o_virtual K X22   (w97 hw) (w98 hw) (oNF (w100 hw)) (w100 hw) (w99 hw) (w37 hw) (w101 hw) (by decide) u12_1 (rm_sbapp1 l Z a0 hw b1 r_2 k_2 34 (nar .byte c4) cs h12 u12_1 u12_2 u12_3 u12_4 u12_5 G1 G2_r n11 (by decide) q13 q14) (allS me1 (allS me0 all0)) (by decide) rfl (argsL := [.int 34]) rfl (lenOf pd28 rfl) (W := 0) rfl (by decide) (by decide) (by decide) d42_72 rfl ?_
 intro v23 T23 h23 FX23 U23
 obtain ⟨rfl, u23_0, u23_1, u23_2, u23_3, u23_4, u23_5⟩ := U23
 have X23 := FX23 [] (Or.inl rfl) all0
 show oGoes pp ee bb ss Z T23 (mkF mm 75 _ [.ref b1]) _ _ _ _
 refine o_pop K X23 d42_75 rfl rfl ?_
 refine o_iinc K X23 d42_76 rfl rfl (L' := #[vR a, vI 3, vR b1, vI 7, vI c5]) (by rw [show (5 : Int32) + Int32.ofInt 2 = (7 : Int32) from (by decide)]; rfl) ?_
 refine o_goto K X23 d42_79 (by decide) (pc' := 100) (by decide) ?_
 refine o_goto K X23 d42_100 (by decide) (pc' := 12) (by decide) ?_
 refine o_iloadN K X23 d42_12 rfl rfl ?_
 refine o_aloadN K X23 d42_13 rfl rfl rfl ?_
 have m24 := (m13.keep u23_0)
 have m25 := (m15.keep u23_0 (ninS n4 (ninS n14 nin0)))
 have m26 := (m16.keep u23_0 (ninS n4 (ninS n14 nin0)))
 have m27 := (m18.keep u23_0 (ninS n7 (ninS n17 nin0)))
 refine o_virtual K X23   (w53 hw) (w54 hw) (oNF (w56 hw)) (w56 hw) (w55 hw) (w4 hw) (w57 hw) (by decide) m24 (rm_strlen l Z a0 hw a va k c0 c1 c2 c3 c4 c5 c6 cs h23 m24 m25 m26 m27 q13 q14) all0 (by decide) rfl (argsL := []) rfl (lenOf pd10 rfl) (W := 1) rfl (by decide) (by decide) (by decide) d42_14 rfl ?_
 intro v28 T28 h28 FX28 U28
 obtain ⟨rfl, rfl⟩ := U28
 have X28 := FX28 [] (Or.inl rfl) all0
 show oGoes pp ee bb ss Z T28 (mkF mm 17 _ [.int 7, .int 7]) _ _ _ _
 refine o_icmp_ge_t K X28 d42_17 (by decide) (pc' := 103) (by decide) (by decide) ?_
 refine o_static K X28  (w63 hw) (w64 hw) (w65 hw) (w66 hw) (by decide) (rm_optempty l Z a0 hw em h23 q15) all0 (by decide) rfl (argsL := []) rfl (lenOf pd26 rfl) (W := 0) rfl (by decide) (by decide) (by decide) d42_103 rfl ?_
 intro v29 T29 h29 FX29 U29
 obtain ⟨rfl, rfl⟩ := U29
 have X29 := FX29 [] (Or.inl rfl) all0
 show oGoes pp ee bb ss Z T29 (mkF mm 106 _ [.ref em]) _ _ _ _
 refine o_areturn K X29 (t := (.object z3)) d42_106 rfl rfl rfl ?_ (by decide) (by decide) (by decide)
 exact ⟨rfl, (((((Keep.refl h0 []).ext E1).trans u2_0 (allS (Or.inr (oLe g1)) all0)).trans u12_0 (allS (Or.inr (oLe g1)) (allS (Or.inr (Nat.le_trans E1.1 u2_1)) all0))).trans u23_0 (allS (Or.inr (oLe g1)) (allS (Or.inr (Nat.le_trans E1.1 u2_1)) all0)))⟩
def Q_read_nq_1 (Z : State) (a va : Addr) (k : ClassId) (c0 c1 c2 c3 c4 c5 c6 : Int32) (fm : Value) (cs : Int32) (em : Addr) (h0 : Heap) (v : Option Value) (h : Heap) : Prop := ∃ r qt s sv : Addr, ∃ ks : ClassId, v = some (.ref r) ∧ Keep h0 h [] ∧ h0.size ≤ r ∧ Exa Z h r z3 ∧ Fld Z h r z3 "value" z11 (.ref qt) ∧ Exa Z h qt z2 ∧ Fld Z h qt z2 "value" z13 (.ref s) ∧ Fld Z h qt z2 "end" "I" (.int 7) ∧ h0.size ≤ s ∧ Exa Z h s z0 ∧ Fld Z h s z0 "value" "[B" (.ref sv) ∧ Fld Z h s z0 "coder" "B" (.int 0) ∧ oArr Z h sv ks .byte [(.int (nar .byte c3)), (.int (nar .byte (34 : Int32)))]
theorem rm_read_nq_1 (l : Launch) (Z : State) (a0 : Array Value) (hw : oHw Z a0) (a va : Addr) (k : ClassId) (c0 c1 c2 c3 c4 c5 c6 : Int32) (fm : Value) (cs : Int32) (em : Addr) (h0 : Heap) (q0 : Exa Z h0 a z0) (q1 : Fld Z h0 a z0 "value" "[B" (.ref va)) (q2 : Fld Z h0 a z0 "coder" "B" (.int 0)) (q3 : oArr Z h0 va k .byte [(.int (nar .byte c0)), (.int (nar .byte c1)), (.int (nar .byte c2)), (.int (nar .byte c3)), (.int (nar .byte c4)), (.int (nar .byte c5)), (.int (nar .byte c6))]) (q4 : c4 = (34 : Int32)) (q5 : c5 = (34 : Int32)) (q6 : c6 = (34 : Int32)) (q7 : ¬ (c3 = (34 : Int32))) (q8 : oCh c3) (q9 : oCh c4) (q10 : oCh c5) (q11 : oCh c6) (q12 : ¬ ((255 : Int32) < c3)) (q13 : Sta Z Z.heap z6 z7 z8 fm) (q14 : fm.isRef = true) (q15 : Sta Z Z.heap z0 z5 "Z" (.int cs)) (q16 : ¬ (cs = (0 : Int32))) (q17 : Sta Z Z.heap z3 "EMPTY" z14 (.ref em)) : oMet l Z (⟨z2, "read", z12⟩ : MethodName) prog_30_method_2_code 5 (some (.object z3)) r_read [] #[.ref a, .int 2] h0 (Q_read_nq_1 Z a va k c0 c1 c2 c3 c4 c5 c6 fm cs em h0) [] false := by
 refine oEnter (oEW hw) (plainFor_of_name (by first | (simp [plainName, overriddenIn]; done) | decide +kernel)) (own := z2) (nm := "read") rfl rfl (L := #[.val (.ref a), .val (.int 2), .unset, .unset, .unset]) (fun m => by first | (simp [entryFrame, mkF, argsToLocals, Value.category, oCatRef q14]; done) | rfl) ?_
 intro pp ee ss mm bb mtd cc T0 K X0
 have E0 := X0.ext0
 refine o_new K X0 (w35 hw) (w36 hw) (w37 hw) d42_0 rfl (by decide) (by decide) ?_
 intro T1 h1 b1 X1 g1 E1 A1 D1 G1
 have F1_value : Fld Z h1 b1 z1 "value" "[B" .null := (D1 (Or.inl (w50 hw)) (ty := (.array .byte)) (by decide))
 have F1_coder : Fld Z h1 b1 z1 "coder" "B" (.int 0) := (D1 (Or.inl (w52 hw)) (ty := .byte) (by decide))
 have F1_count : Fld Z h1 b1 z1 "count" "I" (.int 0) := (D1 (Or.inl (w108 hw)) (ty := .int) (by decide))
 refine o_dup K X1 d42_3 rfl rfl ?_
 refine o_special K X1 (y := (⟨z4, "<init>", "()V"⟩ : MethodName)) rfl (w38 hw) (w39 hw) (w37 hw) (w40 hw) (by decide) (rm_sbinit l Z a0 hw b1 cs h1 A1 F1_value F1_coder F1_count G1 q15 q16) (allS me0 all0) (by decide) rfl (argsL := []) rfl (lenOf pd17 rfl) (W := 1) rfl (by decide) (by decide) (by decide) d42_4 rfl ?_
 intro v2 T2 h2 FX2 U2
 obtain ⟨r_2, k_2, rfl, u2_0, u2_1, u2_2, u2_3, u2_4, u2_5, u2_6⟩ := U2
 have G2_r : Z.heap.size ≤ r_2 := Nat.le_trans X1.ext0.1 u2_1
 have X2 := FX2 [r_2] (Or.inl rfl) (allS ⟨u2_1, u2_6.lt⟩ all0)
 show oGoes pp ee bb ss Z T2 (mkF mm 7 _ [.ref b1]) _ _ _ _
 refine o_astoreN K X2 d42_7 rfl rfl (L' := #[vR a, vI 2, vR b1, uS, uS]) rfl ?_
 refine o_iloadN K X2 d42_8 rfl rfl ?_
 refine o_iconst K X2 d42_9 rfl (z := 1) rfl ?_
 refine o_iadd K X2 d42_10 rfl (z := 3) (by decide) ?_
 refine o_istoreN K X2 d42_11 rfl (L' := #[vR a, vI 2, vR b1, vI 3, uS]) rfl ?_
 refine o_iloadN K X2 d42_12 rfl rfl ?_
 refine o_aloadN K X2 d42_13 rfl rfl rfl ?_
 have m3 := ((q0.ext E1).keep u2_0)
 have n4 := oLz q0.lt (oLe g1)
 have m5 := ((q1.ext E1).keep u2_0 (ninS n4 nin0))
 have m6 := ((q2.ext E1).keep u2_0 (ninS n4 nin0))
 have n7 := oLz q3.lt (oLe g1)
 have m8 := ((q3.ext E1).keep u2_0 (ninS n7 nin0))
 refine o_virtual K X2   (w53 hw) (w54 hw) (oNF (w56 hw)) (w56 hw) (w55 hw) (w4 hw) (w57 hw) (by decide) m3 (rm_strlen l Z a0 hw a va k c0 c1 c2 c3 c4 c5 c6 cs h2 m3 m5 m6 m8 q15 q16) all0 (by decide) rfl (argsL := []) rfl (lenOf pd10 rfl) (W := 1) rfl (by decide) (by decide) (by decide) d42_14 rfl ?_
 intro v9 T9 h9 FX9 U9
 obtain ⟨rfl, rfl⟩ := U9
 have X9 := FX9 [] (Or.inl rfl) all0
 show oGoes pp ee bb ss Z T9 (mkF mm 17 _ [.int 7, .int 3]) _ _ _ _
 refine o_icmp_ge_f K X9 d42_17 rfl (by decide) ?_
 refine o_aloadN K X9 d42_20 rfl rfl rfl ?_
 refine o_iloadN K X9 d42_21 rfl rfl ?_
 refine o_virtual K X9   (w75 hw) (w76 hw) (oNF (w78 hw)) (w78 hw) (w77 hw) (w4 hw) (w79 hw) (by decide) m3 (rm_char3 l Z a0 hw a va k c0 c1 c2 c3 c4 c5 c6 fm cs h2 m3 m5 m6 m8 q8 q13 q14 q15 q16) all0 (by decide) rfl (argsL := [.int 3]) rfl (lenOf pd27 rfl) (W := 0) rfl (by decide) (by decide) (by decide) d42_22 rfl ?_
 intro v10 T10 h10 FX10 U10
 obtain ⟨rfl, rfl, u10_1⟩ := U10
 have X10 := FX10 [] (Or.inl rfl) all0
 show oGoes pp ee bb ss Z T10 (mkF mm 25 _ [.int c3]) _ _ _ _
 refine o_istore K X10 d42_25 rfl (L' := #[vR a, vI 2, vR b1, vI 3, vI c3]) rfl ?_
 refine o_iload K X10 d42_27 rfl rfl ?_
 refine o_bipush K X10 d42_29 rfl (z := 34) rfl ?_
 refine o_icmp_eq_f K X10 d42_31 rfl q7 ?_
 refine o_aloadN K X10 d42_34 rfl rfl rfl ?_
 refine o_iload K X10 d42_35 rfl rfl ?_
 have n11 := oLsz A1.lt u2_1
 refine o_virtual K X10   (w97 hw) (w98 hw) (oNF (w100 hw)) (w100 hw) (w99 hw) (w37 hw) (w101 hw) (by decide) u2_2 (rm_sbapp0 l Z a0 hw b1 r_2 k_2 c3 cs h2 u2_2 u2_3 u2_4 u2_5 u2_6 G1 G2_r n11 q12 q15 q16) (allS me1 (allS me0 all0)) (by decide) rfl (argsL := [.int c3]) rfl (lenOf pd28 rfl) (W := 0) rfl (by decide) (by decide) (by decide) d42_37 rfl ?_
 intro v12 T12 h12 FX12 U12
 obtain ⟨rfl, u12_0, u12_1, u12_2, u12_3, u12_4, u12_5⟩ := U12
 have X12 := FX12 [] (Or.inl rfl) all0
 show oGoes pp ee bb ss Z T12 (mkF mm 40 _ [.ref b1]) _ _ _ _
 refine o_pop K X12 d42_40 rfl rfl ?_
 refine o_iinc K X12 d42_41 rfl rfl (L' := #[vR a, vI 2, vR b1, vI 4, vI c3]) (by rw [show (3 : Int32) + Int32.ofInt 1 = (4 : Int32) from (by decide)]; rfl) ?_
 refine o_goto K X12 d42_44 (by decide) (pc' := 100) (by decide) ?_
 refine o_goto K X12 d42_100 (by decide) (pc' := 12) (by decide) ?_
 refine o_iloadN K X12 d42_12 rfl rfl ?_
 refine o_aloadN K X12 d42_13 rfl rfl rfl ?_
 have m13 := (m3.keep u12_0)
 have n14 := oLn q0.lt E1.1 u2_1
 have m15 := (m5.keep u12_0 (ninS n4 (ninS n14 nin0)))
 have m16 := (m6.keep u12_0 (ninS n4 (ninS n14 nin0)))
 have n17 := oLn q3.lt E1.1 u2_1
 have m18 := (m8.keep u12_0 (ninS n7 (ninS n17 nin0)))
 refine o_virtual K X12   (w53 hw) (w54 hw) (oNF (w56 hw)) (w56 hw) (w55 hw) (w4 hw) (w57 hw) (by decide) m13 (rm_strlen l Z a0 hw a va k c0 c1 c2 c3 c4 c5 c6 cs h12 m13 m15 m16 m18 q15 q16) all0 (by decide) rfl (argsL := []) rfl (lenOf pd10 rfl) (W := 1) rfl (by decide) (by decide) (by decide) d42_14 rfl ?_
 intro v19 T19 h19 FX19 U19
 obtain ⟨rfl, rfl⟩ := U19
 have X19 := FX19 [] (Or.inl rfl) all0
 show oGoes pp ee bb ss Z T19 (mkF mm 17 _ [.int 7, .int 4]) _ _ _ _
 refine o_icmp_ge_f K X19 d42_17 rfl (by decide) ?_
 refine o_aloadN K X19 d42_20 rfl rfl rfl ?_
 refine o_iloadN K X19 d42_21 rfl rfl ?_
 refine o_virtual K X19   (w75 hw) (w76 hw) (oNF (w78 hw)) (w78 hw) (w77 hw) (w4 hw) (w79 hw) (by decide) m13 (rm_char4 l Z a0 hw a va k c0 c1 c2 c3 c4 c5 c6 fm cs h12 m13 m15 m16 m18 q9 q13 q14 q15 q16) all0 (by decide) rfl (argsL := [.int 4]) rfl (lenOf pd27 rfl) (W := 0) rfl (by decide) (by decide) (by decide) d42_22 rfl ?_
 intro v20 T20 h20 FX20 U20
 obtain ⟨rfl, rfl, u20_1⟩ := U20
 have X20 := FX20 [] (Or.inl rfl) all0
 show oGoes pp ee bb ss Z T20 (mkF mm 25 _ [.int c4]) _ _ _ _
 refine o_istore K X20 d42_25 rfl (L' := #[vR a, vI 2, vR b1, vI 4, vI c4]) rfl ?_
 refine o_iload K X20 d42_27 rfl rfl ?_
 refine o_bipush K X20 d42_29 rfl (z := 34) rfl ?_
 refine o_icmp_eq_t K X20 d42_31 (by decide) (pc' := 47) (by decide) q4 ?_
 refine o_iloadN K X20 d42_47 rfl rfl ?_
 refine o_iconst K X20 d42_48 rfl (z := 1) rfl ?_
 refine o_iadd K X20 d42_49 rfl (z := 5) (by decide) ?_
 refine o_aloadN K X20 d42_50 rfl rfl rfl ?_
 refine o_virtual K X20   (w53 hw) (w54 hw) (oNF (w56 hw)) (w56 hw) (w55 hw) (w4 hw) (w57 hw) (by decide) m13 (rm_strlen l Z a0 hw a va k c0 c1 c2 c3 c4 c5 c6 cs h12 m13 m15 m16 m18 q15 q16) all0 (by decide) rfl (argsL := []) rfl (lenOf pd10 rfl) (W := 1) rfl (by decide) (by decide) (by decide) d42_51 rfl ?_
 intro v21 T21 h21 FX21 U21
 obtain ⟨rfl, rfl⟩ := U21
 have X21 := FX21 [] (Or.inl rfl) all0
 show oGoes pp ee bb ss Z T21 (mkF mm 54 _ [.int 7, .int 5]) _ _ _ _
 refine o_icmp_ge_f K X21 d42_54 rfl (by decide) ?_
 refine o_aloadN K X21 d42_57 rfl rfl rfl ?_
 refine o_iloadN K X21 d42_58 rfl rfl ?_
 refine o_iconst K X21 d42_59 rfl (z := 1) rfl ?_
 refine o_iadd K X21 d42_60 rfl (z := 5) (by decide) ?_
 refine o_virtual K X21   (w75 hw) (w76 hw) (oNF (w78 hw)) (w78 hw) (w77 hw) (w4 hw) (w79 hw) (by decide) m13 (rm_char5 l Z a0 hw a va k c0 c1 c2 c3 c4 c5 c6 fm cs h12 m13 m15 m16 m18 q10 q13 q14 q15 q16) all0 (by decide) rfl (argsL := [.int 5]) rfl (lenOf pd27 rfl) (W := 0) rfl (by decide) (by decide) (by decide) d42_61 rfl ?_
 intro v22 T22 h22 FX22 U22
 obtain ⟨rfl, rfl, u22_1⟩ := U22
 have X22 := FX22 [] (Or.inl rfl) all0
 show oGoes pp ee bb ss Z T22 (mkF mm 64 _ [.int c5]) _ _ _ _
 refine o_bipush K X22 d42_64 rfl (z := 34) rfl ?_
 refine o_icmp_ne_f K X22 d42_66 rfl q5 ?_
 refine o_aloadN K X22 d42_69 rfl rfl rfl ?_
 refine o_bipush K X22 d42_70 rfl (z := 34) rfl ?_
 refine o_virtual K X22   (w97 hw) (w98 hw) (oNF (w100 hw)) (w100 hw) (w99 hw) (w37 hw) (w101 hw) (by decide) u12_1 (rm_sbapp1 l Z a0 hw b1 r_2 k_2 34 (nar .byte c3) cs h12 u12_1 u12_2 u12_3 u12_4 u12_5 G1 G2_r n11 (by decide) q15 q16) (allS me1 (allS me0 all0)) (by decide) rfl (argsL := [.int 34]) rfl (lenOf pd28 rfl) (W := 0) rfl (by decide) (by decide) (by decide) d42_72 rfl ?_
 intro v23 T23 h23 FX23 U23
 obtain ⟨rfl, u23_0, u23_1, u23_2, u23_3, u23_4, u23_5⟩ := U23
 have X23 := FX23 [] (Or.inl rfl) all0
 show oGoes pp ee bb ss Z T23 (mkF mm 75 _ [.ref b1]) _ _ _ _
 refine o_pop K X23 d42_75 rfl rfl ?_
 refine o_iinc K X23 d42_76 rfl rfl (L' := #[vR a, vI 2, vR b1, vI 6, vI c4]) (by rw [show (4 : Int32) + Int32.ofInt 2 = (6 : Int32) from (by decide)]; rfl) ?_
 refine o_goto K X23 d42_79 (by decide) (pc' := 100) (by decide) ?_
 refine o_goto K X23 d42_100 (by decide) (pc' := 12) (by decide) ?_
 refine o_iloadN K X23 d42_12 rfl rfl ?_
 refine o_aloadN K X23 d42_13 rfl rfl rfl ?_
 have m24 := (m13.keep u23_0)
 have m25 := (m15.keep u23_0 (ninS n4 (ninS n14 nin0)))
 have m26 := (m16.keep u23_0 (ninS n4 (ninS n14 nin0)))
 have m27 := (m18.keep u23_0 (ninS n7 (ninS n17 nin0)))
 refine o_virtual K X23   (w53 hw) (w54 hw) (oNF (w56 hw)) (w56 hw) (w55 hw) (w4 hw) (w57 hw) (by decide) m24 (rm_strlen l Z a0 hw a va k c0 c1 c2 c3 c4 c5 c6 cs h23 m24 m25 m26 m27 q15 q16) all0 (by decide) rfl (argsL := []) rfl (lenOf pd10 rfl) (W := 1) rfl (by decide) (by decide) (by decide) d42_14 rfl ?_
 intro v28 T28 h28 FX28 U28
 obtain ⟨rfl, rfl⟩ := U28
 have X28 := FX28 [] (Or.inl rfl) all0
 show oGoes pp ee bb ss Z T28 (mkF mm 17 _ [.int 7, .int 6]) _ _ _ _
 refine o_icmp_ge_f K X28 d42_17 rfl (by decide) ?_
 refine o_aloadN K X28 d42_20 rfl rfl rfl ?_
 refine o_iloadN K X28 d42_21 rfl rfl ?_
 refine o_virtual K X28   (w75 hw) (w76 hw) (oNF (w78 hw)) (w78 hw) (w77 hw) (w4 hw) (w79 hw) (by decide) m24 (rm_char6 l Z a0 hw a va k c0 c1 c2 c3 c4 c5 c6 fm cs h23 m24 m25 m26 m27 q11 q13 q14 q15 q16) all0 (by decide) rfl (argsL := [.int 6]) rfl (lenOf pd27 rfl) (W := 0) rfl (by decide) (by decide) (by decide) d42_22 rfl ?_
 intro v29 T29 h29 FX29 U29
 obtain ⟨rfl, rfl, u29_1⟩ := U29
 have X29 := FX29 [] (Or.inl rfl) all0
 show oGoes pp ee bb ss Z T29 (mkF mm 25 _ [.int c6]) _ _ _ _
 refine o_istore K X29 d42_25 rfl (L' := #[vR a, vI 2, vR b1, vI 6, vI c6]) rfl ?_
 refine o_iload K X29 d42_27 rfl rfl ?_
 refine o_bipush K X29 d42_29 rfl (z := 34) rfl ?_
 refine o_icmp_eq_t K X29 d42_31 (by decide) (pc' := 47) (by decide) q6 ?_
 refine o_iloadN K X29 d42_47 rfl rfl ?_
 refine o_iconst K X29 d42_48 rfl (z := 1) rfl ?_
 refine o_iadd K X29 d42_49 rfl (z := 7) (by decide) ?_
 refine o_aloadN K X29 d42_50 rfl rfl rfl ?_
 refine o_virtual K X29   (w53 hw) (w54 hw) (oNF (w56 hw)) (w56 hw) (w55 hw) (w4 hw) (w57 hw) (by decide) m24 (rm_strlen l Z a0 hw a va k c0 c1 c2 c3 c4 c5 c6 cs h23 m24 m25 m26 m27 q15 q16) all0 (by decide) rfl (argsL := []) rfl (lenOf pd10 rfl) (W := 1) rfl (by decide) (by decide) (by decide) d42_51 rfl ?_
 intro v30 T30 h30 FX30 U30
 obtain ⟨rfl, rfl⟩ := U30
 have X30 := FX30 [] (Or.inl rfl) all0
 show oGoes pp ee bb ss Z T30 (mkF mm 54 _ [.int 7, .int 7]) _ _ _ _
 refine o_icmp_ge_t K X30 d42_54 (by decide) (pc' := 82) (by decide) (by decide) ?_
 refine tl_rd2 l Z a0 hw a 2 b1 6 c6 7 r_2 k_2 (nar .byte c3) (nar .byte (34 : Int32)) cs h23 u23_1 u23_2 u23_3 u23_4 u23_5 q15 q16 (by decide) (fun v31 h31 U31 => ?_) K (X30.mono (by decide) (by decide) (by decide) all0)
 obtain ⟨r_31, qt_31, s_31, sv_31, ks_31, rfl, u31_0, u31_1, u31_2, u31_3, u31_4, u31_5, u31_6, u31_7, u31_8, u31_9, u31_10, u31_11⟩ := U31
 have G31_r : Z.heap.size ≤ r_31 := Nat.le_trans X30.ext0.1 u31_1
 have G31_s : Z.heap.size ≤ s_31 := Nat.le_trans X30.ext0.1 u31_7
 have y0_4 := Nat.le_trans (Nat.le_trans (Nat.le_trans E1.1 u2_0.1) u12_0.1) u23_0.1
 exact ⟨r_31, qt_31, s_31, sv_31, ks_31, rfl, ((((((Keep.refl h0 []).ext E1).trans u2_0 (allS (Or.inr (oLe g1)) all0)).trans u12_0 (allS (Or.inr (oLe g1)) (allS (Or.inr (Nat.le_trans E1.1 u2_1)) all0))).trans u23_0 (allS (Or.inr (oLe g1)) (allS (Or.inr (Nat.le_trans E1.1 u2_1)) all0))).trans u31_0 all0), (Nat.le_trans y0_4 u31_1), u31_2, u31_3, u31_4, u31_5, u31_6, (Nat.le_trans y0_4 u31_7), u31_8, u31_9, u31_10, u31_11⟩
def Q_read_nq_2 (Z : State) (a va : Addr) (k : ClassId) (c0 c1 c2 c3 c4 c5 c6 : Int32) (fm : Value) (cs : Int32) (em : Addr) (h0 : Heap) (v : Option Value) (h : Heap) : Prop := ∃ r qt s sv : Addr, ∃ ks : ClassId, v = some (.ref r) ∧ Keep h0 h [] ∧ h0.size ≤ r ∧ Exa Z h r z3 ∧ Fld Z h r z3 "value" z11 (.ref qt) ∧ Exa Z h qt z2 ∧ Fld Z h qt z2 "value" z13 (.ref s) ∧ Fld Z h qt z2 "end" "I" (.int 6) ∧ h0.size ≤ s ∧ Exa Z h s z0 ∧ Fld Z h s z0 "value" "[B" (.ref sv) ∧ Fld Z h s z0 "coder" "B" (.int 0) ∧ oArr Z h sv ks .byte [(.int (nar .byte c2)), (.int (nar .byte (34 : Int32)))]
theorem rm_read_nq_2 (l : Launch) (Z : State) (a0 : Array Value) (hw : oHw Z a0) (a va : Addr) (k : ClassId) (c0 c1 c2 c3 c4 c5 c6 : Int32) (fm : Value) (cs : Int32) (em : Addr) (h0 : Heap) (q0 : Exa Z h0 a z0) (q1 : Fld Z h0 a z0 "value" "[B" (.ref va)) (q2 : Fld Z h0 a z0 "coder" "B" (.int 0)) (q3 : oArr Z h0 va k .byte [(.int (nar .byte c0)), (.int (nar .byte c1)), (.int (nar .byte c2)), (.int (nar .byte c3)), (.int (nar .byte c4)), (.int (nar .byte c5)), (.int (nar .byte c6))]) (q4 : c3 = (34 : Int32)) (q5 : c4 = (34 : Int32)) (q6 : c5 = (34 : Int32)) (q7 : ¬ (c2 = (34 : Int32))) (q8 : ¬ (c6 = (34 : Int32))) (q9 : oCh c2) (q10 : oCh c3) (q11 : oCh c4) (q12 : oCh c5) (q13 : oCh c6) (q14 : ¬ ((255 : Int32) < c2)) (q15 : ¬ ((255 : Int32) < c6)) (q16 : Sta Z Z.heap z6 z7 z8 fm) (q17 : fm.isRef = true) (q18 : Sta Z Z.heap z0 z5 "Z" (.int cs)) (q19 : ¬ (cs = (0 : Int32))) (q20 : Sta Z Z.heap z3 "EMPTY" z14 (.ref em)) : oMet l Z (⟨z2, "read", z12⟩ : MethodName) prog_30_method_2_code 5 (some (.object z3)) r_read [] #[.ref a, .int 1] h0 (Q_read_nq_2 Z a va k c0 c1 c2 c3 c4 c5 c6 fm cs em h0) [] false := by
 refine oEnter (oEW hw) (plainFor_of_name (by first | (simp [plainName, overriddenIn]; done) | decide +kernel)) (own := z2) (nm := "read") rfl rfl (L := #[.val (.ref a), .val (.int 1), .unset, .unset, .unset]) (fun m => by first | (simp [entryFrame, mkF, argsToLocals, Value.category, oCatRef q17]; done) | rfl) ?_
 intro pp ee ss mm bb mtd cc T0 K X0
 have E0 := X0.ext0
 refine o_new K X0 (w35 hw) (w36 hw) (w37 hw) d42_0 rfl (by decide) (by decide) ?_
 intro T1 h1 b1 X1 g1 E1 A1 D1 G1
 have F1_value : Fld Z h1 b1 z1 "value" "[B" .null := (D1 (Or.inl (w50 hw)) (ty := (.array .byte)) (by decide))
 have F1_coder : Fld Z h1 b1 z1 "coder" "B" (.int 0) := (D1 (Or.inl (w52 hw)) (ty := .byte) (by decide))
 have F1_count : Fld Z h1 b1 z1 "count" "I" (.int 0) := (D1 (Or.inl (w108 hw)) (ty := .int) (by decide))
 refine o_dup K X1 d42_3 rfl rfl ?_
 refine o_special K X1 (y := (⟨z4, "<init>", "()V"⟩ : MethodName)) rfl (w38 hw) (w39 hw) (w37 hw) (w40 hw) (by decide) (rm_sbinit l Z a0 hw b1 cs h1 A1 F1_value F1_coder F1_count G1 q18 q19) (allS me0 all0) (by decide) rfl (argsL := []) rfl (lenOf pd17 rfl) (W := 1) rfl (by decide) (by decide) (by decide) d42_4 rfl ?_
 intro v2 T2 h2 FX2 U2
 obtain ⟨r_2, k_2, rfl, u2_0, u2_1, u2_2, u2_3, u2_4, u2_5, u2_6⟩ := U2
 have G2_r : Z.heap.size ≤ r_2 := Nat.le_trans X1.ext0.1 u2_1
 have X2 := FX2 [r_2] (Or.inl rfl) (allS ⟨u2_1, u2_6.lt⟩ all0)
 show oGoes pp ee bb ss Z T2 (mkF mm 7 _ [.ref b1]) _ _ _ _
 refine o_astoreN K X2 d42_7 rfl rfl (L' := #[vR a, vI 1, vR b1, uS, uS]) rfl ?_
 refine o_iloadN K X2 d42_8 rfl rfl ?_
 refine o_iconst K X2 d42_9 rfl (z := 1) rfl ?_
 refine o_iadd K X2 d42_10 rfl (z := 2) (by decide) ?_
 refine o_istoreN K X2 d42_11 rfl (L' := #[vR a, vI 1, vR b1, vI 2, uS]) rfl ?_
 refine o_iloadN K X2 d42_12 rfl rfl ?_
 refine o_aloadN K X2 d42_13 rfl rfl rfl ?_
 have m3 := ((q0.ext E1).keep u2_0)
 have n4 := oLz q0.lt (oLe g1)
 have m5 := ((q1.ext E1).keep u2_0 (ninS n4 nin0))
 have m6 := ((q2.ext E1).keep u2_0 (ninS n4 nin0))
 have n7 := oLz q3.lt (oLe g1)
 have m8 := ((q3.ext E1).keep u2_0 (ninS n7 nin0))
 refine o_virtual K X2   (w53 hw) (w54 hw) (oNF (w56 hw)) (w56 hw) (w55 hw) (w4 hw) (w57 hw) (by decide) m3 (rm_strlen l Z a0 hw a va k c0 c1 c2 c3 c4 c5 c6 cs h2 m3 m5 m6 m8 q18 q19) all0 (by decide) rfl (argsL := []) rfl (lenOf pd10 rfl) (W := 1) rfl (by decide) (by decide) (by decide) d42_14 rfl ?_
 intro v9 T9 h9 FX9 U9
 obtain ⟨rfl, rfl⟩ := U9
 have X9 := FX9 [] (Or.inl rfl) all0
 show oGoes pp ee bb ss Z T9 (mkF mm 17 _ [.int 7, .int 2]) _ _ _ _
 refine o_icmp_ge_f K X9 d42_17 rfl (by decide) ?_
 refine o_aloadN K X9 d42_20 rfl rfl rfl ?_
 refine o_iloadN K X9 d42_21 rfl rfl ?_
 refine o_virtual K X9   (w75 hw) (w76 hw) (oNF (w78 hw)) (w78 hw) (w77 hw) (w4 hw) (w79 hw) (by decide) m3 (rm_char2 l Z a0 hw a va k c0 c1 c2 c3 c4 c5 c6 fm cs h2 m3 m5 m6 m8 q9 q16 q17 q18 q19) all0 (by decide) rfl (argsL := [.int 2]) rfl (lenOf pd27 rfl) (W := 0) rfl (by decide) (by decide) (by decide) d42_22 rfl ?_
 intro v10 T10 h10 FX10 U10
 obtain ⟨rfl, rfl, u10_1⟩ := U10
 have X10 := FX10 [] (Or.inl rfl) all0
 show oGoes pp ee bb ss Z T10 (mkF mm 25 _ [.int c2]) _ _ _ _
 refine o_istore K X10 d42_25 rfl (L' := #[vR a, vI 1, vR b1, vI 2, vI c2]) rfl ?_
 refine o_iload K X10 d42_27 rfl rfl ?_
 refine o_bipush K X10 d42_29 rfl (z := 34) rfl ?_
 refine o_icmp_eq_f K X10 d42_31 rfl q7 ?_
 refine o_aloadN K X10 d42_34 rfl rfl rfl ?_
 refine o_iload K X10 d42_35 rfl rfl ?_
 have n11 := oLsz A1.lt u2_1
 refine o_virtual K X10   (w97 hw) (w98 hw) (oNF (w100 hw)) (w100 hw) (w99 hw) (w37 hw) (w101 hw) (by decide) u2_2 (rm_sbapp0 l Z a0 hw b1 r_2 k_2 c2 cs h2 u2_2 u2_3 u2_4 u2_5 u2_6 G1 G2_r n11 q14 q18 q19) (allS me1 (allS me0 all0)) (by decide) rfl (argsL := [.int c2]) rfl (lenOf pd28 rfl) (W := 0) rfl (by decide) (by decide) (by decide) d42_37 rfl ?_
 intro v12 T12 h12 FX12 U12
 obtain ⟨rfl, u12_0, u12_1, u12_2, u12_3, u12_4, u12_5⟩ := U12
 have X12 := FX12 [] (Or.inl rfl) all0
 show oGoes pp ee bb ss Z T12 (mkF mm 40 _ [.ref b1]) _ _ _ _
 refine o_pop K X12 d42_40 rfl rfl ?_
 refine o_iinc K X12 d42_41 rfl rfl (L' := #[vR a, vI 1, vR b1, vI 3, vI c2]) (by rw [show (2 : Int32) + Int32.ofInt 1 = (3 : Int32) from (by decide)]; rfl) ?_
 refine o_goto K X12 d42_44 (by decide) (pc' := 100) (by decide) ?_
 refine o_goto K X12 d42_100 (by decide) (pc' := 12) (by decide) ?_
 refine o_iloadN K X12 d42_12 rfl rfl ?_
 refine o_aloadN K X12 d42_13 rfl rfl rfl ?_
 have m13 := (m3.keep u12_0)
 have n14 := oLn q0.lt E1.1 u2_1
 have m15 := (m5.keep u12_0 (ninS n4 (ninS n14 nin0)))
 have m16 := (m6.keep u12_0 (ninS n4 (ninS n14 nin0)))
 have n17 := oLn q3.lt E1.1 u2_1
 have m18 := (m8.keep u12_0 (ninS n7 (ninS n17 nin0)))
 refine o_virtual K X12   (w53 hw) (w54 hw) (oNF (w56 hw)) (w56 hw) (w55 hw) (w4 hw) (w57 hw) (by decide) m13 (rm_strlen l Z a0 hw a va k c0 c1 c2 c3 c4 c5 c6 cs h12 m13 m15 m16 m18 q18 q19) all0 (by decide) rfl (argsL := []) rfl (lenOf pd10 rfl) (W := 1) rfl (by decide) (by decide) (by decide) d42_14 rfl ?_
 intro v19 T19 h19 FX19 U19
 obtain ⟨rfl, rfl⟩ := U19
 have X19 := FX19 [] (Or.inl rfl) all0
 show oGoes pp ee bb ss Z T19 (mkF mm 17 _ [.int 7, .int 3]) _ _ _ _
 refine o_icmp_ge_f K X19 d42_17 rfl (by decide) ?_
 refine o_aloadN K X19 d42_20 rfl rfl rfl ?_
 refine o_iloadN K X19 d42_21 rfl rfl ?_
 refine o_virtual K X19   (w75 hw) (w76 hw) (oNF (w78 hw)) (w78 hw) (w77 hw) (w4 hw) (w79 hw) (by decide) m13 (rm_char3 l Z a0 hw a va k c0 c1 c2 c3 c4 c5 c6 fm cs h12 m13 m15 m16 m18 q10 q16 q17 q18 q19) all0 (by decide) rfl (argsL := [.int 3]) rfl (lenOf pd27 rfl) (W := 0) rfl (by decide) (by decide) (by decide) d42_22 rfl ?_
 intro v20 T20 h20 FX20 U20
 obtain ⟨rfl, rfl, u20_1⟩ := U20
 have X20 := FX20 [] (Or.inl rfl) all0
 show oGoes pp ee bb ss Z T20 (mkF mm 25 _ [.int c3]) _ _ _ _
 refine o_istore K X20 d42_25 rfl (L' := #[vR a, vI 1, vR b1, vI 3, vI c3]) rfl ?_
 refine o_iload K X20 d42_27 rfl rfl ?_
 refine o_bipush K X20 d42_29 rfl (z := 34) rfl ?_
 refine o_icmp_eq_t K X20 d42_31 (by decide) (pc' := 47) (by decide) q4 ?_
 refine o_iloadN K X20 d42_47 rfl rfl ?_
 refine o_iconst K X20 d42_48 rfl (z := 1) rfl ?_
 refine o_iadd K X20 d42_49 rfl (z := 4) (by decide) ?_
 refine o_aloadN K X20 d42_50 rfl rfl rfl ?_
 refine o_virtual K X20   (w53 hw) (w54 hw) (oNF (w56 hw)) (w56 hw) (w55 hw) (w4 hw) (w57 hw) (by decide) m13 (rm_strlen l Z a0 hw a va k c0 c1 c2 c3 c4 c5 c6 cs h12 m13 m15 m16 m18 q18 q19) all0 (by decide) rfl (argsL := []) rfl (lenOf pd10 rfl) (W := 1) rfl (by decide) (by decide) (by decide) d42_51 rfl ?_
 intro v21 T21 h21 FX21 U21
 obtain ⟨rfl, rfl⟩ := U21
 have X21 := FX21 [] (Or.inl rfl) all0
 show oGoes pp ee bb ss Z T21 (mkF mm 54 _ [.int 7, .int 4]) _ _ _ _
 refine o_icmp_ge_f K X21 d42_54 rfl (by decide) ?_
 refine o_aloadN K X21 d42_57 rfl rfl rfl ?_
 refine o_iloadN K X21 d42_58 rfl rfl ?_
 refine o_iconst K X21 d42_59 rfl (z := 1) rfl ?_
 refine o_iadd K X21 d42_60 rfl (z := 4) (by decide) ?_
 refine o_virtual K X21   (w75 hw) (w76 hw) (oNF (w78 hw)) (w78 hw) (w77 hw) (w4 hw) (w79 hw) (by decide) m13 (rm_char4 l Z a0 hw a va k c0 c1 c2 c3 c4 c5 c6 fm cs h12 m13 m15 m16 m18 q11 q16 q17 q18 q19) all0 (by decide) rfl (argsL := [.int 4]) rfl (lenOf pd27 rfl) (W := 0) rfl (by decide) (by decide) (by decide) d42_61 rfl ?_
 intro v22 T22 h22 FX22 U22
 obtain ⟨rfl, rfl, u22_1⟩ := U22
 have X22 := FX22 [] (Or.inl rfl) all0
 show oGoes pp ee bb ss Z T22 (mkF mm 64 _ [.int c4]) _ _ _ _
 refine o_bipush K X22 d42_64 rfl (z := 34) rfl ?_
 refine o_icmp_ne_f K X22 d42_66 rfl q5 ?_
 refine o_aloadN K X22 d42_69 rfl rfl rfl ?_
 refine o_bipush K X22 d42_70 rfl (z := 34) rfl ?_
 refine o_virtual K X22   (w97 hw) (w98 hw) (oNF (w100 hw)) (w100 hw) (w99 hw) (w37 hw) (w101 hw) (by decide) u12_1 (rm_sbapp1 l Z a0 hw b1 r_2 k_2 34 (nar .byte c2) cs h12 u12_1 u12_2 u12_3 u12_4 u12_5 G1 G2_r n11 (by decide) q18 q19) (allS me1 (allS me0 all0)) (by decide) rfl (argsL := [.int 34]) rfl (lenOf pd28 rfl) (W := 0) rfl (by decide) (by decide) (by decide) d42_72 rfl ?_
 intro v23 T23 h23 FX23 U23
 obtain ⟨rfl, u23_0, u23_1, u23_2, u23_3, u23_4, u23_5⟩ := U23
 have X23 := FX23 [] (Or.inl rfl) all0
 show oGoes pp ee bb ss Z T23 (mkF mm 75 _ [.ref b1]) _ _ _ _
 refine o_pop K X23 d42_75 rfl rfl ?_
 refine o_iinc K X23 d42_76 rfl rfl (L' := #[vR a, vI 1, vR b1, vI 5, vI c3]) (by rw [show (3 : Int32) + Int32.ofInt 2 = (5 : Int32) from (by decide)]; rfl) ?_
 refine o_goto K X23 d42_79 (by decide) (pc' := 100) (by decide) ?_
 refine o_goto K X23 d42_100 (by decide) (pc' := 12) (by decide) ?_
 refine o_iloadN K X23 d42_12 rfl rfl ?_
 refine o_aloadN K X23 d42_13 rfl rfl rfl ?_
 have m24 := (m13.keep u23_0)
 have m25 := (m15.keep u23_0 (ninS n4 (ninS n14 nin0)))
 have m26 := (m16.keep u23_0 (ninS n4 (ninS n14 nin0)))
 have m27 := (m18.keep u23_0 (ninS n7 (ninS n17 nin0)))
 refine o_virtual K X23   (w53 hw) (w54 hw) (oNF (w56 hw)) (w56 hw) (w55 hw) (w4 hw) (w57 hw) (by decide) m24 (rm_strlen l Z a0 hw a va k c0 c1 c2 c3 c4 c5 c6 cs h23 m24 m25 m26 m27 q18 q19) all0 (by decide) rfl (argsL := []) rfl (lenOf pd10 rfl) (W := 1) rfl (by decide) (by decide) (by decide) d42_14 rfl ?_
 intro v28 T28 h28 FX28 U28
 obtain ⟨rfl, rfl⟩ := U28
 have X28 := FX28 [] (Or.inl rfl) all0
 show oGoes pp ee bb ss Z T28 (mkF mm 17 _ [.int 7, .int 5]) _ _ _ _
 refine o_icmp_ge_f K X28 d42_17 rfl (by decide) ?_
 refine o_aloadN K X28 d42_20 rfl rfl rfl ?_
 refine o_iloadN K X28 d42_21 rfl rfl ?_
 refine o_virtual K X28   (w75 hw) (w76 hw) (oNF (w78 hw)) (w78 hw) (w77 hw) (w4 hw) (w79 hw) (by decide) m24 (rm_char5 l Z a0 hw a va k c0 c1 c2 c3 c4 c5 c6 fm cs h23 m24 m25 m26 m27 q12 q16 q17 q18 q19) all0 (by decide) rfl (argsL := [.int 5]) rfl (lenOf pd27 rfl) (W := 0) rfl (by decide) (by decide) (by decide) d42_22 rfl ?_
 intro v29 T29 h29 FX29 U29
 obtain ⟨rfl, rfl, u29_1⟩ := U29
 have X29 := FX29 [] (Or.inl rfl) all0
 show oGoes pp ee bb ss Z T29 (mkF mm 25 _ [.int c5]) _ _ _ _
 refine o_istore K X29 d42_25 rfl (L' := #[vR a, vI 1, vR b1, vI 5, vI c5]) rfl ?_
 refine o_iload K X29 d42_27 rfl rfl ?_
 refine o_bipush K X29 d42_29 rfl (z := 34) rfl ?_
 refine o_icmp_eq_t K X29 d42_31 (by decide) (pc' := 47) (by decide) q6 ?_
 refine o_iloadN K X29 d42_47 rfl rfl ?_
 refine o_iconst K X29 d42_48 rfl (z := 1) rfl ?_
 refine o_iadd K X29 d42_49 rfl (z := 6) (by decide) ?_
 refine o_aloadN K X29 d42_50 rfl rfl rfl ?_
 refine o_virtual K X29   (w53 hw) (w54 hw) (oNF (w56 hw)) (w56 hw) (w55 hw) (w4 hw) (w57 hw) (by decide) m24 (rm_strlen l Z a0 hw a va k c0 c1 c2 c3 c4 c5 c6 cs h23 m24 m25 m26 m27 q18 q19) all0 (by decide) rfl (argsL := []) rfl (lenOf pd10 rfl) (W := 1) rfl (by decide) (by decide) (by decide) d42_51 rfl ?_
 intro v30 T30 h30 FX30 U30
 obtain ⟨rfl, rfl⟩ := U30
 have X30 := FX30 [] (Or.inl rfl) all0
 show oGoes pp ee bb ss Z T30 (mkF mm 54 _ [.int 7, .int 6]) _ _ _ _
 refine o_icmp_ge_f K X30 d42_54 rfl (by decide) ?_
 refine o_aloadN K X30 d42_57 rfl rfl rfl ?_
 refine o_iloadN K X30 d42_58 rfl rfl ?_
 refine o_iconst K X30 d42_59 rfl (z := 1) rfl ?_
 refine o_iadd K X30 d42_60 rfl (z := 6) (by decide) ?_
 refine o_virtual K X30   (w75 hw) (w76 hw) (oNF (w78 hw)) (w78 hw) (w77 hw) (w4 hw) (w79 hw) (by decide) m24 (rm_char6 l Z a0 hw a va k c0 c1 c2 c3 c4 c5 c6 fm cs h23 m24 m25 m26 m27 q13 q16 q17 q18 q19) all0 (by decide) rfl (argsL := [.int 6]) rfl (lenOf pd27 rfl) (W := 0) rfl (by decide) (by decide) (by decide) d42_61 rfl ?_
 intro v31 T31 h31 FX31 U31
 obtain ⟨rfl, rfl, u31_1⟩ := U31
 have X31 := FX31 [] (Or.inl rfl) all0
 show oGoes pp ee bb ss Z T31 (mkF mm 64 _ [.int c6]) _ _ _ _
 refine o_bipush K X31 d42_64 rfl (z := 34) rfl ?_
 refine o_icmp_ne_t K X31 d42_66 (by decide) (pc' := 82) (by decide) q8 ?_
 refine tl_rd2 l Z a0 hw a 1 b1 5 c5 6 r_2 k_2 (nar .byte c2) (nar .byte (34 : Int32)) cs h23 u23_1 u23_2 u23_3 u23_4 u23_5 q18 q19 (by decide) (fun v32 h32 U32 => ?_) K (X31.mono (by decide) (by decide) (by decide) all0)
 obtain ⟨r_32, qt_32, s_32, sv_32, ks_32, rfl, u32_0, u32_1, u32_2, u32_3, u32_4, u32_5, u32_6, u32_7, u32_8, u32_9, u32_10, u32_11⟩ := U32
 have G32_r : Z.heap.size ≤ r_32 := Nat.le_trans X31.ext0.1 u32_1
 have G32_s : Z.heap.size ≤ s_32 := Nat.le_trans X31.ext0.1 u32_7
 have y0_4 := Nat.le_trans (Nat.le_trans (Nat.le_trans E1.1 u2_0.1) u12_0.1) u23_0.1
 exact ⟨r_32, qt_32, s_32, sv_32, ks_32, rfl, ((((((Keep.refl h0 []).ext E1).trans u2_0 (allS (Or.inr (oLe g1)) all0)).trans u12_0 (allS (Or.inr (oLe g1)) (allS (Or.inr (Nat.le_trans E1.1 u2_1)) all0))).trans u23_0 (allS (Or.inr (oLe g1)) (allS (Or.inr (Nat.le_trans E1.1 u2_1)) all0))).trans u32_0 all0), (Nat.le_trans y0_4 u32_1), u32_2, u32_3, u32_4, u32_5, u32_6, (Nat.le_trans y0_4 u32_7), u32_8, u32_9, u32_10, u32_11⟩
def Q_read_qn_0 (Z : State) (a va : Addr) (k : ClassId) (c0 c1 c2 c3 c4 c5 c6 : Int32) (fm : Value) (cs : Int32) (em : Addr) (h0 : Heap) (v : Option Value) (h : Heap) : Prop := v = some (.ref em) ∧ Keep h0 h []
theorem rm_read_qn_0 (l : Launch) (Z : State) (a0 : Array Value) (hw : oHw Z a0) (a va : Addr) (k : ClassId) (c0 c1 c2 c3 c4 c5 c6 : Int32) (fm : Value) (cs : Int32) (em : Addr) (h0 : Heap) (q0 : Exa Z h0 a z0) (q1 : Fld Z h0 a z0 "value" "[B" (.ref va)) (q2 : Fld Z h0 a z0 "coder" "B" (.int 0)) (q3 : oArr Z h0 va k .byte [(.int (nar .byte c0)), (.int (nar .byte c1)), (.int (nar .byte c2)), (.int (nar .byte c3)), (.int (nar .byte c4)), (.int (nar .byte c5)), (.int (nar .byte c6))]) (q4 : c4 = (34 : Int32)) (q5 : c5 = (34 : Int32)) (q6 : ¬ (c6 = (34 : Int32))) (q7 : oCh c4) (q8 : oCh c5) (q9 : oCh c6) (q10 : ¬ ((255 : Int32) < c6)) (q11 : Sta Z Z.heap z6 z7 z8 fm) (q12 : fm.isRef = true) (q13 : Sta Z Z.heap z0 z5 "Z" (.int cs)) (q14 : ¬ (cs = (0 : Int32))) (q15 : Sta Z Z.heap z3 "EMPTY" z14 (.ref em)) : oMet l Z (⟨z2, "read", z12⟩ : MethodName) prog_30_method_2_code 5 (some (.object z3)) r_read [] #[.ref a, .int 3] h0 (Q_read_qn_0 Z a va k c0 c1 c2 c3 c4 c5 c6 fm cs em h0) [] false := by
 refine oEnter (oEW hw) (plainFor_of_name (by first | (simp [plainName, overriddenIn]; done) | decide +kernel)) (own := z2) (nm := "read") rfl rfl (L := #[.val (.ref a), .val (.int 3), .unset, .unset, .unset]) (fun m => by first | (simp [entryFrame, mkF, argsToLocals, Value.category, oCatRef q12]; done) | rfl) ?_
 intro pp ee ss mm bb mtd cc T0 K X0
 have E0 := X0.ext0
 refine o_new K X0 (w35 hw) (w36 hw) (w37 hw) d42_0 rfl (by decide) (by decide) ?_
 intro T1 h1 b1 X1 g1 E1 A1 D1 G1
 have F1_value : Fld Z h1 b1 z1 "value" "[B" .null := (D1 (Or.inl (w50 hw)) (ty := (.array .byte)) (by decide))
 have F1_coder : Fld Z h1 b1 z1 "coder" "B" (.int 0) := (D1 (Or.inl (w52 hw)) (ty := .byte) (by decide))
 have F1_count : Fld Z h1 b1 z1 "count" "I" (.int 0) := (D1 (Or.inl (w108 hw)) (ty := .int) (by decide))
 refine o_dup K X1 d42_3 rfl rfl ?_
 refine o_special K X1 (y := (⟨z4, "<init>", "()V"⟩ : MethodName)) rfl (w38 hw) (w39 hw) (w37 hw) (w40 hw) (by decide) (rm_sbinit l Z a0 hw b1 cs h1 A1 F1_value F1_coder F1_count G1 q13 q14) (allS me0 all0) (by decide) rfl (argsL := []) rfl (lenOf pd17 rfl) (W := 1) rfl (by decide) (by decide) (by decide) d42_4 rfl ?_
 intro v2 T2 h2 FX2 U2
 obtain ⟨r_2, k_2, rfl, u2_0, u2_1, u2_2, u2_3, u2_4, u2_5, u2_6⟩ := U2
 have G2_r : Z.heap.size ≤ r_2 := Nat.le_trans X1.ext0.1 u2_1
 have X2 := FX2 [r_2] (Or.inl rfl) (allS ⟨u2_1, u2_6.lt⟩ all0)
 show oGoes pp ee bb ss Z T2 (mkF mm 7 _ [.ref b1]) _ _ _ _
 refine o_astoreN K X2 d42_7 rfl rfl (L' := #[vR a, vI 3, vR b1, uS, uS]) rfl ?_
 refine o_iloadN K X2 d42_8 rfl rfl ?_
 refine o_iconst K X2 d42_9 rfl (z := 1) rfl ?_
 refine o_iadd K X2 d42_10 rfl (z := 4) (by decide) ?_
 refine o_istoreN K X2 d42_11 rfl (L' := #[vR a, vI 3, vR b1, vI 4, uS]) rfl ?_
 refine o_iloadN K X2 d42_12 rfl rfl ?_
 refine o_aloadN K X2 d42_13 rfl rfl rfl ?_
 have m3 := ((q0.ext E1).keep u2_0)
 have n4 := oLz q0.lt (oLe g1)
 have m5 := ((q1.ext E1).keep u2_0 (ninS n4 nin0))
 have m6 := ((q2.ext E1).keep u2_0 (ninS n4 nin0))
 have n7 := oLz q3.lt (oLe g1)
 have m8 := ((q3.ext E1).keep u2_0 (ninS n7 nin0))
 refine o_virtual K X2   (w53 hw) (w54 hw) (oNF (w56 hw)) (w56 hw) (w55 hw) (w4 hw) (w57 hw) (by decide) m3 (rm_strlen l Z a0 hw a va k c0 c1 c2 c3 c4 c5 c6 cs h2 m3 m5 m6 m8 q13 q14) all0 (by decide) rfl (argsL := []) rfl (lenOf pd10 rfl) (W := 1) rfl (by decide) (by decide) (by decide) d42_14 rfl ?_
 intro v9 T9 h9 FX9 U9
 obtain ⟨rfl, rfl⟩ := U9
 have X9 := FX9 [] (Or.inl rfl) all0
 show oGoes pp ee bb ss Z T9 (mkF mm 17 _ [.int 7, .int 4]) _ _ _ _
 refine o_icmp_ge_f K X9 d42_17 rfl (by decide) ?_
 refine o_aloadN K X9 d42_20 rfl rfl rfl ?_
 refine o_iloadN K X9 d42_21 rfl rfl ?_
 refine o_virtual K X9   (w75 hw) (w76 hw) (oNF (w78 hw)) (w78 hw) (w77 hw) (w4 hw) (w79 hw) (by decide) m3 (rm_char4 l Z a0 hw a va k c0 c1 c2 c3 c4 c5 c6 fm cs h2 m3 m5 m6 m8 q7 q11 q12 q13 q14) all0 (by decide) rfl (argsL := [.int 4]) rfl (lenOf pd27 rfl) (W := 0) rfl (by decide) (by decide) (by decide) d42_22 rfl ?_
 intro v10 T10 h10 FX10 U10
 obtain ⟨rfl, rfl, u10_1⟩ := U10
 have X10 := FX10 [] (Or.inl rfl) all0
 show oGoes pp ee bb ss Z T10 (mkF mm 25 _ [.int c4]) _ _ _ _
 refine o_istore K X10 d42_25 rfl (L' := #[vR a, vI 3, vR b1, vI 4, vI c4]) rfl ?_
 refine o_iload K X10 d42_27 rfl rfl ?_
 refine o_bipush K X10 d42_29 rfl (z := 34) rfl ?_
 refine o_icmp_eq_t K X10 d42_31 (by decide) (pc' := 47) (by decide) q4 ?_
 refine o_iloadN K X10 d42_47 rfl rfl ?_
 refine o_iconst K X10 d42_48 rfl (z := 1) rfl ?_
 refine o_iadd K X10 d42_49 rfl (z := 5) (by decide) ?_
 refine o_aloadN K X10 d42_50 rfl rfl rfl ?_
 refine o_virtual K X10   (w53 hw) (w54 hw) (oNF (w56 hw)) (w56 hw) (w55 hw) (w4 hw) (w57 hw) (by decide) m3 (rm_strlen l Z a0 hw a va k c0 c1 c2 c3 c4 c5 c6 cs h2 m3 m5 m6 m8 q13 q14) all0 (by decide) rfl (argsL := []) rfl (lenOf pd10 rfl) (W := 1) rfl (by decide) (by decide) (by decide) d42_51 rfl ?_
 intro v11 T11 h11 FX11 U11
 obtain ⟨rfl, rfl⟩ := U11
 have X11 := FX11 [] (Or.inl rfl) all0
 show oGoes pp ee bb ss Z T11 (mkF mm 54 _ [.int 7, .int 5]) _ _ _ _
 refine o_icmp_ge_f K X11 d42_54 rfl (by decide) ?_
 refine o_aloadN K X11 d42_57 rfl rfl rfl ?_
 refine o_iloadN K X11 d42_58 rfl rfl ?_
 refine o_iconst K X11 d42_59 rfl (z := 1) rfl ?_
 refine o_iadd K X11 d42_60 rfl (z := 5) (by decide) ?_
 refine o_virtual K X11   (w75 hw) (w76 hw) (oNF (w78 hw)) (w78 hw) (w77 hw) (w4 hw) (w79 hw) (by decide) m3 (rm_char5 l Z a0 hw a va k c0 c1 c2 c3 c4 c5 c6 fm cs h2 m3 m5 m6 m8 q8 q11 q12 q13 q14) all0 (by decide) rfl (argsL := [.int 5]) rfl (lenOf pd27 rfl) (W := 0) rfl (by decide) (by decide) (by decide) d42_61 rfl ?_
 intro v12 T12 h12 FX12 U12
 obtain ⟨rfl, rfl, u12_1⟩ := U12
 have X12 := FX12 [] (Or.inl rfl) all0
 show oGoes pp ee bb ss Z T12 (mkF mm 64 _ [.int c5]) _ _ _ _
 refine o_bipush K X12 d42_64 rfl (z := 34) rfl ?_
 refine o_icmp_ne_f K X12 d42_66 rfl q5 ?_
 refine o_aloadN K X12 d42_69 rfl rfl rfl ?_
 refine o_bipush K X12 d42_70 rfl (z := 34) rfl ?_
 have n13 := oLsz A1.lt u2_1
 refine o_virtual K X12   (w97 hw) (w98 hw) (oNF (w100 hw)) (w100 hw) (w99 hw) (w37 hw) (w101 hw) (by decide) u2_2 (rm_sbapp0 l Z a0 hw b1 r_2 k_2 34 cs h2 u2_2 u2_3 u2_4 u2_5 u2_6 G1 G2_r n13 (by decide) q13 q14) (allS me1 (allS me0 all0)) (by decide) rfl (argsL := [.int 34]) rfl (lenOf pd28 rfl) (W := 0) rfl (by decide) (by decide) (by decide) d42_72 rfl ?_
 intro v14 T14 h14 FX14 U14
 obtain ⟨rfl, u14_0, u14_1, u14_2, u14_3, u14_4, u14_5⟩ := U14
 have X14 := FX14 [] (Or.inl rfl) all0
 show oGoes pp ee bb ss Z T14 (mkF mm 75 _ [.ref b1]) _ _ _ _
 refine o_pop K X14 d42_75 rfl rfl ?_
 refine o_iinc K X14 d42_76 rfl rfl (L' := #[vR a, vI 3, vR b1, vI 6, vI c4]) (by rw [show (4 : Int32) + Int32.ofInt 2 = (6 : Int32) from (by decide)]; rfl) ?_
 refine o_goto K X14 d42_79 (by decide) (pc' := 100) (by decide) ?_
 refine o_goto K X14 d42_100 (by decide) (pc' := 12) (by decide) ?_
 refine o_iloadN K X14 d42_12 rfl rfl ?_
 refine o_aloadN K X14 d42_13 rfl rfl rfl ?_
 have m15 := (m3.keep u14_0)
 have n16 := oLn q0.lt E1.1 u2_1
 have m17 := (m5.keep u14_0 (ninS n4 (ninS n16 nin0)))
 have m18 := (m6.keep u14_0 (ninS n4 (ninS n16 nin0)))
 have n19 := oLn q3.lt E1.1 u2_1
 have m20 := (m8.keep u14_0 (ninS n7 (ninS n19 nin0)))
 refine o_virtual K X14   (w53 hw) (w54 hw) (oNF (w56 hw)) (w56 hw) (w55 hw) (w4 hw) (w57 hw) (by decide) m15 (rm_strlen l Z a0 hw a va k c0 c1 c2 c3 c4 c5 c6 cs h14 m15 m17 m18 m20 q13 q14) all0 (by decide) rfl (argsL := []) rfl (lenOf pd10 rfl) (W := 1) rfl (by decide) (by decide) (by decide) d42_14 rfl ?_
 intro v21 T21 h21 FX21 U21
 obtain ⟨rfl, rfl⟩ := U21
 have X21 := FX21 [] (Or.inl rfl) all0
 show oGoes pp ee bb ss Z T21 (mkF mm 17 _ [.int 7, .int 6]) _ _ _ _
 refine o_icmp_ge_f K X21 d42_17 rfl (by decide) ?_
 refine o_aloadN K X21 d42_20 rfl rfl rfl ?_
 refine o_iloadN K X21 d42_21 rfl rfl ?_
 refine o_virtual K X21   (w75 hw) (w76 hw) (oNF (w78 hw)) (w78 hw) (w77 hw) (w4 hw) (w79 hw) (by decide) m15 (rm_char6 l Z a0 hw a va k c0 c1 c2 c3 c4 c5 c6 fm cs h14 m15 m17 m18 m20 q9 q11 q12 q13 q14) all0 (by decide) rfl (argsL := [.int 6]) rfl (lenOf pd27 rfl) (W := 0) rfl (by decide) (by decide) (by decide) d42_22 rfl ?_
 intro v22 T22 h22 FX22 U22
 obtain ⟨rfl, rfl, u22_1⟩ := U22
 have X22 := FX22 [] (Or.inl rfl) all0
 show oGoes pp ee bb ss Z T22 (mkF mm 25 _ [.int c6]) _ _ _ _
 refine o_istore K X22 d42_25 rfl (L' := #[vR a, vI 3, vR b1, vI 6, vI c6]) rfl ?_
 refine o_iload K X22 d42_27 rfl rfl ?_
 refine o_bipush K X22 d42_29 rfl (z := 34) rfl ?_
 refine o_icmp_eq_f K X22 d42_31 rfl q6 ?_
 refine o_aloadN K X22 d42_34 rfl rfl rfl ?_
 refine o_iload K X22 d42_35 rfl rfl ?_
 refine o_virtual K X22   (w97 hw) (w98 hw) (oNF (w100 hw)) (w100 hw) (w99 hw) (w37 hw) (w101 hw) (by decide) u14_1 (rm_sbapp1 l Z a0 hw b1 r_2 k_2 c6 (nar .byte (34 : Int32)) cs h14 u14_1 u14_2 u14_3 u14_4 u14_5 G1 G2_r n13 q10 q13 q14) (allS me1 (allS me0 all0)) (by decide) rfl (argsL := [.int c6]) rfl (lenOf pd28 rfl) (W := 0) rfl (by decide) (by decide) (by decide) d42_37 rfl ?_
 intro v23 T23 h23 FX23 U23
 obtain ⟨rfl, u23_0, u23_1, u23_2, u23_3, u23_4, u23_5⟩ := U23
 have X23 := FX23 [] (Or.inl rfl) all0
 show oGoes pp ee bb ss Z T23 (mkF mm 40 _ [.ref b1]) _ _ _ _
 refine o_pop K X23 d42_40 rfl rfl ?_
 refine o_iinc K X23 d42_41 rfl rfl (L' := #[vR a, vI 3, vR b1, vI 7, vI c6]) (by rw [show (6 : Int32) + Int32.ofInt 1 = (7 : Int32) from (by decide)]; rfl) ?_
 refine o_goto K X23 d42_44 (by decide) (pc' := 100) (by decide) ?_
 refine o_goto K X23 d42_100 (by decide) (pc' := 12) (by decide) ?_
 refine o_iloadN K X23 d42_12 rfl rfl ?_
 refine o_aloadN K X23 d42_13 rfl rfl rfl ?_
 have m24 := (m15.keep u23_0)
 have m25 := (m17.keep u23_0 (ninS n4 (ninS n16 nin0)))
 have m26 := (m18.keep u23_0 (ninS n4 (ninS n16 nin0)))
 have m27 := (m20.keep u23_0 (ninS n7 (ninS n19 nin0)))
 refine o_virtual K X23   (w53 hw) (w54 hw) (oNF (w56 hw)) (w56 hw) (w55 hw) (w4 hw) (w57 hw) (by decide) m24 (rm_strlen l Z a0 hw a va k c0 c1 c2 c3 c4 c5 c6 cs h23 m24 m25 m26 m27 q13 q14) all0 (by decide) rfl (argsL := []) rfl (lenOf pd10 rfl) (W := 1) rfl (by decide) (by decide) (by decide) d42_14 rfl ?_
 intro v28 T28 h28 FX28 U28
 obtain ⟨rfl, rfl⟩ := U28
 have X28 := FX28 [] (Or.inl rfl) all0
 show oGoes pp ee bb ss Z T28 (mkF mm 17 _ [.int 7, .int 7]) _ _ _ _
 refine o_icmp_ge_t K X28 d42_17 (by decide) (pc' := 103) (by decide) (by decide) ?_
 refine o_static K X28  (w63 hw) (w64 hw) (w65 hw) (w66 hw) (by decide) (rm_optempty l Z a0 hw em h23 q15) all0 (by decide) rfl (argsL := []) rfl (lenOf pd26 rfl) (W := 0) rfl (by decide) (by decide) (by decide) d42_103 rfl ?_
 intro v29 T29 h29 FX29 U29
 obtain ⟨rfl, rfl⟩ := U29
 have X29 := FX29 [] (Or.inl rfl) all0
 show oGoes pp ee bb ss Z T29 (mkF mm 106 _ [.ref em]) _ _ _ _
 refine o_areturn K X29 (t := (.object z3)) d42_106 rfl rfl rfl ?_ (by decide) (by decide) (by decide)
 exact ⟨rfl, (((((Keep.refl h0 []).ext E1).trans u2_0 (allS (Or.inr (oLe g1)) all0)).trans u14_0 (allS (Or.inr (oLe g1)) (allS (Or.inr (Nat.le_trans E1.1 u2_1)) all0))).trans u23_0 (allS (Or.inr (oLe g1)) (allS (Or.inr (Nat.le_trans E1.1 u2_1)) all0)))⟩
def Q_read_qn_1 (Z : State) (a va : Addr) (k : ClassId) (c0 c1 c2 c3 c4 c5 c6 : Int32) (fm : Value) (cs : Int32) (em : Addr) (h0 : Heap) (v : Option Value) (h : Heap) : Prop := ∃ r qt s sv : Addr, ∃ ks : ClassId, v = some (.ref r) ∧ Keep h0 h [] ∧ h0.size ≤ r ∧ Exa Z h r z3 ∧ Fld Z h r z3 "value" z11 (.ref qt) ∧ Exa Z h qt z2 ∧ Fld Z h qt z2 "value" z13 (.ref s) ∧ Fld Z h qt z2 "end" "I" (.int 7) ∧ h0.size ≤ s ∧ Exa Z h s z0 ∧ Fld Z h s z0 "value" "[B" (.ref sv) ∧ Fld Z h s z0 "coder" "B" (.int 0) ∧ oArr Z h sv ks .byte [(.int (nar .byte (34 : Int32))), (.int (nar .byte c5))]
theorem rm_read_qn_1 (l : Launch) (Z : State) (a0 : Array Value) (hw : oHw Z a0) (a va : Addr) (k : ClassId) (c0 c1 c2 c3 c4 c5 c6 : Int32) (fm : Value) (cs : Int32) (em : Addr) (h0 : Heap) (q0 : Exa Z h0 a z0) (q1 : Fld Z h0 a z0 "value" "[B" (.ref va)) (q2 : Fld Z h0 a z0 "coder" "B" (.int 0)) (q3 : oArr Z h0 va k .byte [(.int (nar .byte c0)), (.int (nar .byte c1)), (.int (nar .byte c2)), (.int (nar .byte c3)), (.int (nar .byte c4)), (.int (nar .byte c5)), (.int (nar .byte c6))]) (q4 : c3 = (34 : Int32)) (q5 : c4 = (34 : Int32)) (q6 : c6 = (34 : Int32)) (q7 : ¬ (c5 = (34 : Int32))) (q8 : oCh c3) (q9 : oCh c4) (q10 : oCh c5) (q11 : oCh c6) (q12 : ¬ ((255 : Int32) < c5)) (q13 : Sta Z Z.heap z6 z7 z8 fm) (q14 : fm.isRef = true) (q15 : Sta Z Z.heap z0 z5 "Z" (.int cs)) (q16 : ¬ (cs = (0 : Int32))) (q17 : Sta Z Z.heap z3 "EMPTY" z14 (.ref em)) : oMet l Z (⟨z2, "read", z12⟩ : MethodName) prog_30_method_2_code 5 (some (.object z3)) r_read [] #[.ref a, .int 2] h0 (Q_read_qn_1 Z a va k c0 c1 c2 c3 c4 c5 c6 fm cs em h0) [] false := by
 refine oEnter (oEW hw) (plainFor_of_name (by first | (simp [plainName, overriddenIn]; done) | decide +kernel)) (own := z2) (nm := "read") rfl rfl (L := #[.val (.ref a), .val (.int 2), .unset, .unset, .unset]) (fun m => by first | (simp [entryFrame, mkF, argsToLocals, Value.category, oCatRef q14]; done) | rfl) ?_
 intro pp ee ss mm bb mtd cc T0 K X0
 have E0 := X0.ext0
 refine o_new K X0 (w35 hw) (w36 hw) (w37 hw) d42_0 rfl (by decide) (by decide) ?_
 intro T1 h1 b1 X1 g1 E1 A1 D1 G1
 have F1_value : Fld Z h1 b1 z1 "value" "[B" .null := (D1 (Or.inl (w50 hw)) (ty := (.array .byte)) (by decide))
 have F1_coder : Fld Z h1 b1 z1 "coder" "B" (.int 0) := (D1 (Or.inl (w52 hw)) (ty := .byte) (by decide))
 have F1_count : Fld Z h1 b1 z1 "count" "I" (.int 0) := (D1 (Or.inl (w108 hw)) (ty := .int) (by decide))
 refine o_dup K X1 d42_3 rfl rfl ?_
 refine o_special K X1 (y := (⟨z4, "<init>", "()V"⟩ : MethodName)) rfl (w38 hw) (w39 hw) (w37 hw) (w40 hw) (by decide) (rm_sbinit l Z a0 hw b1 cs h1 A1 F1_value F1_coder F1_count G1 q15 q16) (allS me0 all0) (by decide) rfl (argsL := []) rfl (lenOf pd17 rfl) (W := 1) rfl (by decide) (by decide) (by decide) d42_4 rfl ?_
 intro v2 T2 h2 FX2 U2
 obtain ⟨r_2, k_2, rfl, u2_0, u2_1, u2_2, u2_3, u2_4, u2_5, u2_6⟩ := U2
 have G2_r : Z.heap.size ≤ r_2 := Nat.le_trans X1.ext0.1 u2_1
 have X2 := FX2 [r_2] (Or.inl rfl) (allS ⟨u2_1, u2_6.lt⟩ all0)
 show oGoes pp ee bb ss Z T2 (mkF mm 7 _ [.ref b1]) _ _ _ _
 refine o_astoreN K X2 d42_7 rfl rfl (L' := #[vR a, vI 2, vR b1, uS, uS]) rfl ?_
 refine o_iloadN K X2 d42_8 rfl rfl ?_
 refine o_iconst K X2 d42_9 rfl (z := 1) rfl ?_
 refine o_iadd K X2 d42_10 rfl (z := 3) (by decide) ?_
 refine o_istoreN K X2 d42_11 rfl (L' := #[vR a, vI 2, vR b1, vI 3, uS]) rfl ?_
 refine o_iloadN K X2 d42_12 rfl rfl ?_
 refine o_aloadN K X2 d42_13 rfl rfl rfl ?_
 have m3 := ((q0.ext E1).keep u2_0)
 have n4 := oLz q0.lt (oLe g1)
 have m5 := ((q1.ext E1).keep u2_0 (ninS n4 nin0))
 have m6 := ((q2.ext E1).keep u2_0 (ninS n4 nin0))
 have n7 := oLz q3.lt (oLe g1)
 have m8 := ((q3.ext E1).keep u2_0 (ninS n7 nin0))
 refine o_virtual K X2   (w53 hw) (w54 hw) (oNF (w56 hw)) (w56 hw) (w55 hw) (w4 hw) (w57 hw) (by decide) m3 (rm_strlen l Z a0 hw a va k c0 c1 c2 c3 c4 c5 c6 cs h2 m3 m5 m6 m8 q15 q16) all0 (by decide) rfl (argsL := []) rfl (lenOf pd10 rfl) (W := 1) rfl (by decide) (by decide) (by decide) d42_14 rfl ?_
 intro v9 T9 h9 FX9 U9
 obtain ⟨rfl, rfl⟩ := U9
 have X9 := FX9 [] (Or.inl rfl) all0
 show oGoes pp ee bb ss Z T9 (mkF mm 17 _ [.int 7, .int 3]) _ _ _ _
 refine o_icmp_ge_f K X9 d42_17 rfl (by decide) ?_
 refine o_aloadN K X9 d42_20 rfl rfl rfl ?_
 refine o_iloadN K X9 d42_21 rfl rfl ?_
 refine o_virtual K X9   (w75 hw) (w76 hw) (oNF (w78 hw)) (w78 hw) (w77 hw) (w4 hw) (w79 hw) (by decide) m3 (rm_char3 l Z a0 hw a va k c0 c1 c2 c3 c4 c5 c6 fm cs h2 m3 m5 m6 m8 q8 q13 q14 q15 q16) all0 (by decide) rfl (argsL := [.int 3]) rfl (lenOf pd27 rfl) (W := 0) rfl (by decide) (by decide) (by decide) d42_22 rfl ?_
 intro v10 T10 h10 FX10 U10
 obtain ⟨rfl, rfl, u10_1⟩ := U10
 have X10 := FX10 [] (Or.inl rfl) all0
 show oGoes pp ee bb ss Z T10 (mkF mm 25 _ [.int c3]) _ _ _ _
 refine o_istore K X10 d42_25 rfl (L' := #[vR a, vI 2, vR b1, vI 3, vI c3]) rfl ?_
 refine o_iload K X10 d42_27 rfl rfl ?_
 refine o_bipush K X10 d42_29 rfl (z := 34) rfl ?_
 refine o_icmp_eq_t K X10 d42_31 (by decide) (pc' := 47) (by decide) q4 ?_
 refine o_iloadN K X10 d42_47 rfl rfl ?_
 refine o_iconst K X10 d42_48 rfl (z := 1) rfl ?_
 refine o_iadd K X10 d42_49 rfl (z := 4) (by decide) ?_
 refine o_aloadN K X10 d42_50 rfl rfl rfl ?_
 refine o_virtual K X10   (w53 hw) (w54 hw) (oNF (w56 hw)) (w56 hw) (w55 hw) (w4 hw) (w57 hw) (by decide) m3 (rm_strlen l Z a0 hw a va k c0 c1 c2 c3 c4 c5 c6 cs h2 m3 m5 m6 m8 q15 q16) all0 (by decide) rfl (argsL := []) rfl (lenOf pd10 rfl) (W := 1) rfl (by decide) (by decide) (by decide) d42_51 rfl ?_
 intro v11 T11 h11 FX11 U11
 obtain ⟨rfl, rfl⟩ := U11
 have X11 := FX11 [] (Or.inl rfl) all0
 show oGoes pp ee bb ss Z T11 (mkF mm 54 _ [.int 7, .int 4]) _ _ _ _
 refine o_icmp_ge_f K X11 d42_54 rfl (by decide) ?_
 refine o_aloadN K X11 d42_57 rfl rfl rfl ?_
 refine o_iloadN K X11 d42_58 rfl rfl ?_
 refine o_iconst K X11 d42_59 rfl (z := 1) rfl ?_
 refine o_iadd K X11 d42_60 rfl (z := 4) (by decide) ?_
 refine o_virtual K X11   (w75 hw) (w76 hw) (oNF (w78 hw)) (w78 hw) (w77 hw) (w4 hw) (w79 hw) (by decide) m3 (rm_char4 l Z a0 hw a va k c0 c1 c2 c3 c4 c5 c6 fm cs h2 m3 m5 m6 m8 q9 q13 q14 q15 q16) all0 (by decide) rfl (argsL := [.int 4]) rfl (lenOf pd27 rfl) (W := 0) rfl (by decide) (by decide) (by decide) d42_61 rfl ?_
 intro v12 T12 h12 FX12 U12
 obtain ⟨rfl, rfl, u12_1⟩ := U12
 have X12 := FX12 [] (Or.inl rfl) all0
 show oGoes pp ee bb ss Z T12 (mkF mm 64 _ [.int c4]) _ _ _ _
 refine o_bipush K X12 d42_64 rfl (z := 34) rfl ?_
 refine o_icmp_ne_f K X12 d42_66 rfl q5 ?_
 refine o_aloadN K X12 d42_69 rfl rfl rfl ?_
 refine o_bipush K X12 d42_70 rfl (z := 34) rfl ?_
 have n13 := oLsz A1.lt u2_1
 refine o_virtual K X12   (w97 hw) (w98 hw) (oNF (w100 hw)) (w100 hw) (w99 hw) (w37 hw) (w101 hw) (by decide) u2_2 (rm_sbapp0 l Z a0 hw b1 r_2 k_2 34 cs h2 u2_2 u2_3 u2_4 u2_5 u2_6 G1 G2_r n13 (by decide) q15 q16) (allS me1 (allS me0 all0)) (by decide) rfl (argsL := [.int 34]) rfl (lenOf pd28 rfl) (W := 0) rfl (by decide) (by decide) (by decide) d42_72 rfl ?_
 intro v14 T14 h14 FX14 U14
 obtain ⟨rfl, u14_0, u14_1, u14_2, u14_3, u14_4, u14_5⟩ := U14
 have X14 := FX14 [] (Or.inl rfl) all0
 show oGoes pp ee bb ss Z T14 (mkF mm 75 _ [.ref b1]) _ _ _ _
 refine o_pop K X14 d42_75 rfl rfl ?_
 refine o_iinc K X14 d42_76 rfl rfl (L' := #[vR a, vI 2, vR b1, vI 5, vI c3]) (by rw [show (3 : Int32) + Int32.ofInt 2 = (5 : Int32) from (by decide)]; rfl) ?_
 refine o_goto K X14 d42_79 (by decide) (pc' := 100) (by decide) ?_
 refine o_goto K X14 d42_100 (by decide) (pc' := 12) (by decide) ?_
 refine o_iloadN K X14 d42_12 rfl rfl ?_
 refine o_aloadN K X14 d42_13 rfl rfl rfl ?_
 have m15 := (m3.keep u14_0)
 have n16 := oLn q0.lt E1.1 u2_1
 have m17 := (m5.keep u14_0 (ninS n4 (ninS n16 nin0)))
 have m18 := (m6.keep u14_0 (ninS n4 (ninS n16 nin0)))
 have n19 := oLn q3.lt E1.1 u2_1
 have m20 := (m8.keep u14_0 (ninS n7 (ninS n19 nin0)))
 refine o_virtual K X14   (w53 hw) (w54 hw) (oNF (w56 hw)) (w56 hw) (w55 hw) (w4 hw) (w57 hw) (by decide) m15 (rm_strlen l Z a0 hw a va k c0 c1 c2 c3 c4 c5 c6 cs h14 m15 m17 m18 m20 q15 q16) all0 (by decide) rfl (argsL := []) rfl (lenOf pd10 rfl) (W := 1) rfl (by decide) (by decide) (by decide) d42_14 rfl ?_
 intro v21 T21 h21 FX21 U21
 obtain ⟨rfl, rfl⟩ := U21
 have X21 := FX21 [] (Or.inl rfl) all0
 show oGoes pp ee bb ss Z T21 (mkF mm 17 _ [.int 7, .int 5]) _ _ _ _
 refine o_icmp_ge_f K X21 d42_17 rfl (by decide) ?_
 refine o_aloadN K X21 d42_20 rfl rfl rfl ?_
 refine o_iloadN K X21 d42_21 rfl rfl ?_
 refine o_virtual K X21   (w75 hw) (w76 hw) (oNF (w78 hw)) (w78 hw) (w77 hw) (w4 hw) (w79 hw) (by decide) m15 (rm_char5 l Z a0 hw a va k c0 c1 c2 c3 c4 c5 c6 fm cs h14 m15 m17 m18 m20 q10 q13 q14 q15 q16) all0 (by decide) rfl (argsL := [.int 5]) rfl (lenOf pd27 rfl) (W := 0) rfl (by decide) (by decide) (by decide) d42_22 rfl ?_
 intro v22 T22 h22 FX22 U22
 obtain ⟨rfl, rfl, u22_1⟩ := U22
 have X22 := FX22 [] (Or.inl rfl) all0
 show oGoes pp ee bb ss Z T22 (mkF mm 25 _ [.int c5]) _ _ _ _
 refine o_istore K X22 d42_25 rfl (L' := #[vR a, vI 2, vR b1, vI 5, vI c5]) rfl ?_
 refine o_iload K X22 d42_27 rfl rfl ?_
 refine o_bipush K X22 d42_29 rfl (z := 34) rfl ?_
 refine o_icmp_eq_f K X22 d42_31 rfl q7 ?_
 refine o_aloadN K X22 d42_34 rfl rfl rfl ?_
 refine o_iload K X22 d42_35 rfl rfl ?_
 refine o_virtual K X22   (w97 hw) (w98 hw) (oNF (w100 hw)) (w100 hw) (w99 hw) (w37 hw) (w101 hw) (by decide) u14_1 (rm_sbapp1 l Z a0 hw b1 r_2 k_2 c5 (nar .byte (34 : Int32)) cs h14 u14_1 u14_2 u14_3 u14_4 u14_5 G1 G2_r n13 q12 q15 q16) (allS me1 (allS me0 all0)) (by decide) rfl (argsL := [.int c5]) rfl (lenOf pd28 rfl) (W := 0) rfl (by decide) (by decide) (by decide) d42_37 rfl ?_
 intro v23 T23 h23 FX23 U23
 obtain ⟨rfl, u23_0, u23_1, u23_2, u23_3, u23_4, u23_5⟩ := U23
 have X23 := FX23 [] (Or.inl rfl) all0
 show oGoes pp ee bb ss Z T23 (mkF mm 40 _ [.ref b1]) _ _ _ _
 refine o_pop K X23 d42_40 rfl rfl ?_
 refine o_iinc K X23 d42_41 rfl rfl (L' := #[vR a, vI 2, vR b1, vI 6, vI c5]) (by rw [show (5 : Int32) + Int32.ofInt 1 = (6 : Int32) from (by decide)]; rfl) ?_
 refine o_goto K X23 d42_44 (by decide) (pc' := 100) (by decide) ?_
 refine o_goto K X23 d42_100 (by decide) (pc' := 12) (by decide) ?_
 refine o_iloadN K X23 d42_12 rfl rfl ?_
 refine o_aloadN K X23 d42_13 rfl rfl rfl ?_
 have m24 := (m15.keep u23_0)
 have m25 := (m17.keep u23_0 (ninS n4 (ninS n16 nin0)))
 have m26 := (m18.keep u23_0 (ninS n4 (ninS n16 nin0)))
 have m27 := (m20.keep u23_0 (ninS n7 (ninS n19 nin0)))
 refine o_virtual K X23   (w53 hw) (w54 hw) (oNF (w56 hw)) (w56 hw) (w55 hw) (w4 hw) (w57 hw) (by decide) m24 (rm_strlen l Z a0 hw a va k c0 c1 c2 c3 c4 c5 c6 cs h23 m24 m25 m26 m27 q15 q16) all0 (by decide) rfl (argsL := []) rfl (lenOf pd10 rfl) (W := 1) rfl (by decide) (by decide) (by decide) d42_14 rfl ?_
 intro v28 T28 h28 FX28 U28
 obtain ⟨rfl, rfl⟩ := U28
 have X28 := FX28 [] (Or.inl rfl) all0
 show oGoes pp ee bb ss Z T28 (mkF mm 17 _ [.int 7, .int 6]) _ _ _ _
 refine o_icmp_ge_f K X28 d42_17 rfl (by decide) ?_
 refine o_aloadN K X28 d42_20 rfl rfl rfl ?_
 refine o_iloadN K X28 d42_21 rfl rfl ?_
 refine o_virtual K X28   (w75 hw) (w76 hw) (oNF (w78 hw)) (w78 hw) (w77 hw) (w4 hw) (w79 hw) (by decide) m24 (rm_char6 l Z a0 hw a va k c0 c1 c2 c3 c4 c5 c6 fm cs h23 m24 m25 m26 m27 q11 q13 q14 q15 q16) all0 (by decide) rfl (argsL := [.int 6]) rfl (lenOf pd27 rfl) (W := 0) rfl (by decide) (by decide) (by decide) d42_22 rfl ?_
 intro v29 T29 h29 FX29 U29
 obtain ⟨rfl, rfl, u29_1⟩ := U29
 have X29 := FX29 [] (Or.inl rfl) all0
 show oGoes pp ee bb ss Z T29 (mkF mm 25 _ [.int c6]) _ _ _ _
 refine o_istore K X29 d42_25 rfl (L' := #[vR a, vI 2, vR b1, vI 6, vI c6]) rfl ?_
 refine o_iload K X29 d42_27 rfl rfl ?_
 refine o_bipush K X29 d42_29 rfl (z := 34) rfl ?_
 refine o_icmp_eq_t K X29 d42_31 (by decide) (pc' := 47) (by decide) q6 ?_
 refine o_iloadN K X29 d42_47 rfl rfl ?_
 refine o_iconst K X29 d42_48 rfl (z := 1) rfl ?_
 refine o_iadd K X29 d42_49 rfl (z := 7) (by decide) ?_
 refine o_aloadN K X29 d42_50 rfl rfl rfl ?_
 refine o_virtual K X29   (w53 hw) (w54 hw) (oNF (w56 hw)) (w56 hw) (w55 hw) (w4 hw) (w57 hw) (by decide) m24 (rm_strlen l Z a0 hw a va k c0 c1 c2 c3 c4 c5 c6 cs h23 m24 m25 m26 m27 q15 q16) all0 (by decide) rfl (argsL := []) rfl (lenOf pd10 rfl) (W := 1) rfl (by decide) (by decide) (by decide) d42_51 rfl ?_
 intro v30 T30 h30 FX30 U30
 obtain ⟨rfl, rfl⟩ := U30
 have X30 := FX30 [] (Or.inl rfl) all0
 show oGoes pp ee bb ss Z T30 (mkF mm 54 _ [.int 7, .int 7]) _ _ _ _
 refine o_icmp_ge_t K X30 d42_54 (by decide) (pc' := 82) (by decide) (by decide) ?_
 refine tl_rd2 l Z a0 hw a 2 b1 6 c6 7 r_2 k_2 (nar .byte (34 : Int32)) (nar .byte c5) cs h23 u23_1 u23_2 u23_3 u23_4 u23_5 q15 q16 (by decide) (fun v31 h31 U31 => ?_) K (X30.mono (by decide) (by decide) (by decide) all0)
 obtain ⟨r_31, qt_31, s_31, sv_31, ks_31, rfl, u31_0, u31_1, u31_2, u31_3, u31_4, u31_5, u31_6, u31_7, u31_8, u31_9, u31_10, u31_11⟩ := U31
 have G31_r : Z.heap.size ≤ r_31 := Nat.le_trans X30.ext0.1 u31_1
 have G31_s : Z.heap.size ≤ s_31 := Nat.le_trans X30.ext0.1 u31_7
 have y0_4 := Nat.le_trans (Nat.le_trans (Nat.le_trans E1.1 u2_0.1) u14_0.1) u23_0.1
 exact ⟨r_31, qt_31, s_31, sv_31, ks_31, rfl, ((((((Keep.refl h0 []).ext E1).trans u2_0 (allS (Or.inr (oLe g1)) all0)).trans u14_0 (allS (Or.inr (oLe g1)) (allS (Or.inr (Nat.le_trans E1.1 u2_1)) all0))).trans u23_0 (allS (Or.inr (oLe g1)) (allS (Or.inr (Nat.le_trans E1.1 u2_1)) all0))).trans u31_0 all0), (Nat.le_trans y0_4 u31_1), u31_2, u31_3, u31_4, u31_5, u31_6, (Nat.le_trans y0_4 u31_7), u31_8, u31_9, u31_10, u31_11⟩
def Q_read_qn_2 (Z : State) (a va : Addr) (k : ClassId) (c0 c1 c2 c3 c4 c5 c6 : Int32) (fm : Value) (cs : Int32) (em : Addr) (h0 : Heap) (v : Option Value) (h : Heap) : Prop := ∃ r qt s sv : Addr, ∃ ks : ClassId, v = some (.ref r) ∧ Keep h0 h [] ∧ h0.size ≤ r ∧ Exa Z h r z3 ∧ Fld Z h r z3 "value" z11 (.ref qt) ∧ Exa Z h qt z2 ∧ Fld Z h qt z2 "value" z13 (.ref s) ∧ Fld Z h qt z2 "end" "I" (.int 6) ∧ h0.size ≤ s ∧ Exa Z h s z0 ∧ Fld Z h s z0 "value" "[B" (.ref sv) ∧ Fld Z h s z0 "coder" "B" (.int 0) ∧ oArr Z h sv ks .byte [(.int (nar .byte (34 : Int32))), (.int (nar .byte c4))]
theorem rm_read_qn_2 (l : Launch) (Z : State) (a0 : Array Value) (hw : oHw Z a0) (a va : Addr) (k : ClassId) (c0 c1 c2 c3 c4 c5 c6 : Int32) (fm : Value) (cs : Int32) (em : Addr) (h0 : Heap) (q0 : Exa Z h0 a z0) (q1 : Fld Z h0 a z0 "value" "[B" (.ref va)) (q2 : Fld Z h0 a z0 "coder" "B" (.int 0)) (q3 : oArr Z h0 va k .byte [(.int (nar .byte c0)), (.int (nar .byte c1)), (.int (nar .byte c2)), (.int (nar .byte c3)), (.int (nar .byte c4)), (.int (nar .byte c5)), (.int (nar .byte c6))]) (q4 : c2 = (34 : Int32)) (q5 : c3 = (34 : Int32)) (q6 : c5 = (34 : Int32)) (q7 : ¬ (c4 = (34 : Int32))) (q8 : ¬ (c6 = (34 : Int32))) (q9 : oCh c2) (q10 : oCh c3) (q11 : oCh c4) (q12 : oCh c5) (q13 : oCh c6) (q14 : ¬ ((255 : Int32) < c4)) (q15 : ¬ ((255 : Int32) < c6)) (q16 : Sta Z Z.heap z6 z7 z8 fm) (q17 : fm.isRef = true) (q18 : Sta Z Z.heap z0 z5 "Z" (.int cs)) (q19 : ¬ (cs = (0 : Int32))) (q20 : Sta Z Z.heap z3 "EMPTY" z14 (.ref em)) : oMet l Z (⟨z2, "read", z12⟩ : MethodName) prog_30_method_2_code 5 (some (.object z3)) r_read [] #[.ref a, .int 1] h0 (Q_read_qn_2 Z a va k c0 c1 c2 c3 c4 c5 c6 fm cs em h0) [] false := by
 refine oEnter (oEW hw) (plainFor_of_name (by first | (simp [plainName, overriddenIn]; done) | decide +kernel)) (own := z2) (nm := "read") rfl rfl (L := #[.val (.ref a), .val (.int 1), .unset, .unset, .unset]) (fun m => by first | (simp [entryFrame, mkF, argsToLocals, Value.category, oCatRef q17]; done) | rfl) ?_
 intro pp ee ss mm bb mtd cc T0 K X0
 have E0 := X0.ext0
 refine o_new K X0 (w35 hw) (w36 hw) (w37 hw) d42_0 rfl (by decide) (by decide) ?_
 intro T1 h1 b1 X1 g1 E1 A1 D1 G1
 have F1_value : Fld Z h1 b1 z1 "value" "[B" .null := (D1 (Or.inl (w50 hw)) (ty := (.array .byte)) (by decide))
 have F1_coder : Fld Z h1 b1 z1 "coder" "B" (.int 0) := (D1 (Or.inl (w52 hw)) (ty := .byte) (by decide))
 have F1_count : Fld Z h1 b1 z1 "count" "I" (.int 0) := (D1 (Or.inl (w108 hw)) (ty := .int) (by decide))
 refine o_dup K X1 d42_3 rfl rfl ?_
 refine o_special K X1 (y := (⟨z4, "<init>", "()V"⟩ : MethodName)) rfl (w38 hw) (w39 hw) (w37 hw) (w40 hw) (by decide) (rm_sbinit l Z a0 hw b1 cs h1 A1 F1_value F1_coder F1_count G1 q18 q19) (allS me0 all0) (by decide) rfl (argsL := []) rfl (lenOf pd17 rfl) (W := 1) rfl (by decide) (by decide) (by decide) d42_4 rfl ?_
 intro v2 T2 h2 FX2 U2
 obtain ⟨r_2, k_2, rfl, u2_0, u2_1, u2_2, u2_3, u2_4, u2_5, u2_6⟩ := U2
 have G2_r : Z.heap.size ≤ r_2 := Nat.le_trans X1.ext0.1 u2_1
 have X2 := FX2 [r_2] (Or.inl rfl) (allS ⟨u2_1, u2_6.lt⟩ all0)
 show oGoes pp ee bb ss Z T2 (mkF mm 7 _ [.ref b1]) _ _ _ _
 refine o_astoreN K X2 d42_7 rfl rfl (L' := #[vR a, vI 1, vR b1, uS, uS]) rfl ?_
 refine o_iloadN K X2 d42_8 rfl rfl ?_
 refine o_iconst K X2 d42_9 rfl (z := 1) rfl ?_
 refine o_iadd K X2 d42_10 rfl (z := 2) (by decide) ?_
 refine o_istoreN K X2 d42_11 rfl (L' := #[vR a, vI 1, vR b1, vI 2, uS]) rfl ?_
 refine o_iloadN K X2 d42_12 rfl rfl ?_
 refine o_aloadN K X2 d42_13 rfl rfl rfl ?_
 have m3 := ((q0.ext E1).keep u2_0)
 have n4 := oLz q0.lt (oLe g1)
 have m5 := ((q1.ext E1).keep u2_0 (ninS n4 nin0))
 have m6 := ((q2.ext E1).keep u2_0 (ninS n4 nin0))
 have n7 := oLz q3.lt (oLe g1)
 have m8 := ((q3.ext E1).keep u2_0 (ninS n7 nin0))
 refine o_virtual K X2   (w53 hw) (w54 hw) (oNF (w56 hw)) (w56 hw) (w55 hw) (w4 hw) (w57 hw) (by decide) m3 (rm_strlen l Z a0 hw a va k c0 c1 c2 c3 c4 c5 c6 cs h2 m3 m5 m6 m8 q18 q19) all0 (by decide) rfl (argsL := []) rfl (lenOf pd10 rfl) (W := 1) rfl (by decide) (by decide) (by decide) d42_14 rfl ?_
 intro v9 T9 h9 FX9 U9
 obtain ⟨rfl, rfl⟩ := U9
 have X9 := FX9 [] (Or.inl rfl) all0
 show oGoes pp ee bb ss Z T9 (mkF mm 17 _ [.int 7, .int 2]) _ _ _ _
 refine o_icmp_ge_f K X9 d42_17 rfl (by decide) ?_
 refine o_aloadN K X9 d42_20 rfl rfl rfl ?_
 refine o_iloadN K X9 d42_21 rfl rfl ?_
 refine o_virtual K X9   (w75 hw) (w76 hw) (oNF (w78 hw)) (w78 hw) (w77 hw) (w4 hw) (w79 hw) (by decide) m3 (rm_char2 l Z a0 hw a va k c0 c1 c2 c3 c4 c5 c6 fm cs h2 m3 m5 m6 m8 q9 q16 q17 q18 q19) all0 (by decide) rfl (argsL := [.int 2]) rfl (lenOf pd27 rfl) (W := 0) rfl (by decide) (by decide) (by decide) d42_22 rfl ?_
 intro v10 T10 h10 FX10 U10
 obtain ⟨rfl, rfl, u10_1⟩ := U10
 have X10 := FX10 [] (Or.inl rfl) all0
 show oGoes pp ee bb ss Z T10 (mkF mm 25 _ [.int c2]) _ _ _ _
 refine o_istore K X10 d42_25 rfl (L' := #[vR a, vI 1, vR b1, vI 2, vI c2]) rfl ?_
 refine o_iload K X10 d42_27 rfl rfl ?_
 refine o_bipush K X10 d42_29 rfl (z := 34) rfl ?_
 refine o_icmp_eq_t K X10 d42_31 (by decide) (pc' := 47) (by decide) q4 ?_
 refine o_iloadN K X10 d42_47 rfl rfl ?_
 refine o_iconst K X10 d42_48 rfl (z := 1) rfl ?_
 refine o_iadd K X10 d42_49 rfl (z := 3) (by decide) ?_
 refine o_aloadN K X10 d42_50 rfl rfl rfl ?_
 refine o_virtual K X10   (w53 hw) (w54 hw) (oNF (w56 hw)) (w56 hw) (w55 hw) (w4 hw) (w57 hw) (by decide) m3 (rm_strlen l Z a0 hw a va k c0 c1 c2 c3 c4 c5 c6 cs h2 m3 m5 m6 m8 q18 q19) all0 (by decide) rfl (argsL := []) rfl (lenOf pd10 rfl) (W := 1) rfl (by decide) (by decide) (by decide) d42_51 rfl ?_
 intro v11 T11 h11 FX11 U11
 obtain ⟨rfl, rfl⟩ := U11
 have X11 := FX11 [] (Or.inl rfl) all0
 show oGoes pp ee bb ss Z T11 (mkF mm 54 _ [.int 7, .int 3]) _ _ _ _
 refine o_icmp_ge_f K X11 d42_54 rfl (by decide) ?_
 refine o_aloadN K X11 d42_57 rfl rfl rfl ?_
 refine o_iloadN K X11 d42_58 rfl rfl ?_
 refine o_iconst K X11 d42_59 rfl (z := 1) rfl ?_
 refine o_iadd K X11 d42_60 rfl (z := 3) (by decide) ?_
 refine o_virtual K X11   (w75 hw) (w76 hw) (oNF (w78 hw)) (w78 hw) (w77 hw) (w4 hw) (w79 hw) (by decide) m3 (rm_char3 l Z a0 hw a va k c0 c1 c2 c3 c4 c5 c6 fm cs h2 m3 m5 m6 m8 q10 q16 q17 q18 q19) all0 (by decide) rfl (argsL := [.int 3]) rfl (lenOf pd27 rfl) (W := 0) rfl (by decide) (by decide) (by decide) d42_61 rfl ?_
 intro v12 T12 h12 FX12 U12
 obtain ⟨rfl, rfl, u12_1⟩ := U12
 have X12 := FX12 [] (Or.inl rfl) all0
 show oGoes pp ee bb ss Z T12 (mkF mm 64 _ [.int c3]) _ _ _ _
 refine o_bipush K X12 d42_64 rfl (z := 34) rfl ?_
 refine o_icmp_ne_f K X12 d42_66 rfl q5 ?_
 refine o_aloadN K X12 d42_69 rfl rfl rfl ?_
 refine o_bipush K X12 d42_70 rfl (z := 34) rfl ?_
 have n13 := oLsz A1.lt u2_1
 refine o_virtual K X12   (w97 hw) (w98 hw) (oNF (w100 hw)) (w100 hw) (w99 hw) (w37 hw) (w101 hw) (by decide) u2_2 (rm_sbapp0 l Z a0 hw b1 r_2 k_2 34 cs h2 u2_2 u2_3 u2_4 u2_5 u2_6 G1 G2_r n13 (by decide) q18 q19) (allS me1 (allS me0 all0)) (by decide) rfl (argsL := [.int 34]) rfl (lenOf pd28 rfl) (W := 0) rfl (by decide) (by decide) (by decide) d42_72 rfl ?_
 intro v14 T14 h14 FX14 U14
 obtain ⟨rfl, u14_0, u14_1, u14_2, u14_3, u14_4, u14_5⟩ := U14
 have X14 := FX14 [] (Or.inl rfl) all0
 show oGoes pp ee bb ss Z T14 (mkF mm 75 _ [.ref b1]) _ _ _ _
 refine o_pop K X14 d42_75 rfl rfl ?_
 refine o_iinc K X14 d42_76 rfl rfl (L' := #[vR a, vI 1, vR b1, vI 4, vI c2]) (by rw [show (2 : Int32) + Int32.ofInt 2 = (4 : Int32) from (by decide)]; rfl) ?_
 refine o_goto K X14 d42_79 (by decide) (pc' := 100) (by decide) ?_
 refine o_goto K X14 d42_100 (by decide) (pc' := 12) (by decide) ?_
 refine o_iloadN K X14 d42_12 rfl rfl ?_
 refine o_aloadN K X14 d42_13 rfl rfl rfl ?_
 have m15 := (m3.keep u14_0)
 have n16 := oLn q0.lt E1.1 u2_1
 have m17 := (m5.keep u14_0 (ninS n4 (ninS n16 nin0)))
 have m18 := (m6.keep u14_0 (ninS n4 (ninS n16 nin0)))
 have n19 := oLn q3.lt E1.1 u2_1
 have m20 := (m8.keep u14_0 (ninS n7 (ninS n19 nin0)))
 refine o_virtual K X14   (w53 hw) (w54 hw) (oNF (w56 hw)) (w56 hw) (w55 hw) (w4 hw) (w57 hw) (by decide) m15 (rm_strlen l Z a0 hw a va k c0 c1 c2 c3 c4 c5 c6 cs h14 m15 m17 m18 m20 q18 q19) all0 (by decide) rfl (argsL := []) rfl (lenOf pd10 rfl) (W := 1) rfl (by decide) (by decide) (by decide) d42_14 rfl ?_
 intro v21 T21 h21 FX21 U21
 obtain ⟨rfl, rfl⟩ := U21
 have X21 := FX21 [] (Or.inl rfl) all0
 show oGoes pp ee bb ss Z T21 (mkF mm 17 _ [.int 7, .int 4]) _ _ _ _
 refine o_icmp_ge_f K X21 d42_17 rfl (by decide) ?_
 refine o_aloadN K X21 d42_20 rfl rfl rfl ?_
 refine o_iloadN K X21 d42_21 rfl rfl ?_
 refine o_virtual K X21   (w75 hw) (w76 hw) (oNF (w78 hw)) (w78 hw) (w77 hw) (w4 hw) (w79 hw) (by decide) m15 (rm_char4 l Z a0 hw a va k c0 c1 c2 c3 c4 c5 c6 fm cs h14 m15 m17 m18 m20 q11 q16 q17 q18 q19) all0 (by decide) rfl (argsL := [.int 4]) rfl (lenOf pd27 rfl) (W := 0) rfl (by decide) (by decide) (by decide) d42_22 rfl ?_
 intro v22 T22 h22 FX22 U22
 obtain ⟨rfl, rfl, u22_1⟩ := U22
 have X22 := FX22 [] (Or.inl rfl) all0
 show oGoes pp ee bb ss Z T22 (mkF mm 25 _ [.int c4]) _ _ _ _
 refine o_istore K X22 d42_25 rfl (L' := #[vR a, vI 1, vR b1, vI 4, vI c4]) rfl ?_
 refine o_iload K X22 d42_27 rfl rfl ?_
 refine o_bipush K X22 d42_29 rfl (z := 34) rfl ?_
 refine o_icmp_eq_f K X22 d42_31 rfl q7 ?_
 refine o_aloadN K X22 d42_34 rfl rfl rfl ?_
 refine o_iload K X22 d42_35 rfl rfl ?_
 refine o_virtual K X22   (w97 hw) (w98 hw) (oNF (w100 hw)) (w100 hw) (w99 hw) (w37 hw) (w101 hw) (by decide) u14_1 (rm_sbapp1 l Z a0 hw b1 r_2 k_2 c4 (nar .byte (34 : Int32)) cs h14 u14_1 u14_2 u14_3 u14_4 u14_5 G1 G2_r n13 q14 q18 q19) (allS me1 (allS me0 all0)) (by decide) rfl (argsL := [.int c4]) rfl (lenOf pd28 rfl) (W := 0) rfl (by decide) (by decide) (by decide) d42_37 rfl ?_
 intro v23 T23 h23 FX23 U23
 obtain ⟨rfl, u23_0, u23_1, u23_2, u23_3, u23_4, u23_5⟩ := U23
 have X23 := FX23 [] (Or.inl rfl) all0
 show oGoes pp ee bb ss Z T23 (mkF mm 40 _ [.ref b1]) _ _ _ _
 refine o_pop K X23 d42_40 rfl rfl ?_
 refine o_iinc K X23 d42_41 rfl rfl (L' := #[vR a, vI 1, vR b1, vI 5, vI c4]) (by rw [show (4 : Int32) + Int32.ofInt 1 = (5 : Int32) from (by decide)]; rfl) ?_
 refine o_goto K X23 d42_44 (by decide) (pc' := 100) (by decide) ?_
 refine o_goto K X23 d42_100 (by decide) (pc' := 12) (by decide) ?_
 refine o_iloadN K X23 d42_12 rfl rfl ?_
 refine o_aloadN K X23 d42_13 rfl rfl rfl ?_
 have m24 := (m15.keep u23_0)
 have m25 := (m17.keep u23_0 (ninS n4 (ninS n16 nin0)))
 have m26 := (m18.keep u23_0 (ninS n4 (ninS n16 nin0)))
 have m27 := (m20.keep u23_0 (ninS n7 (ninS n19 nin0)))
 refine o_virtual K X23   (w53 hw) (w54 hw) (oNF (w56 hw)) (w56 hw) (w55 hw) (w4 hw) (w57 hw) (by decide) m24 (rm_strlen l Z a0 hw a va k c0 c1 c2 c3 c4 c5 c6 cs h23 m24 m25 m26 m27 q18 q19) all0 (by decide) rfl (argsL := []) rfl (lenOf pd10 rfl) (W := 1) rfl (by decide) (by decide) (by decide) d42_14 rfl ?_
 intro v28 T28 h28 FX28 U28
 obtain ⟨rfl, rfl⟩ := U28
 have X28 := FX28 [] (Or.inl rfl) all0
 show oGoes pp ee bb ss Z T28 (mkF mm 17 _ [.int 7, .int 5]) _ _ _ _
 refine o_icmp_ge_f K X28 d42_17 rfl (by decide) ?_
 refine o_aloadN K X28 d42_20 rfl rfl rfl ?_
 refine o_iloadN K X28 d42_21 rfl rfl ?_
 refine o_virtual K X28   (w75 hw) (w76 hw) (oNF (w78 hw)) (w78 hw) (w77 hw) (w4 hw) (w79 hw) (by decide) m24 (rm_char5 l Z a0 hw a va k c0 c1 c2 c3 c4 c5 c6 fm cs h23 m24 m25 m26 m27 q12 q16 q17 q18 q19) all0 (by decide) rfl (argsL := [.int 5]) rfl (lenOf pd27 rfl) (W := 0) rfl (by decide) (by decide) (by decide) d42_22 rfl ?_
 intro v29 T29 h29 FX29 U29
 obtain ⟨rfl, rfl, u29_1⟩ := U29
 have X29 := FX29 [] (Or.inl rfl) all0
 show oGoes pp ee bb ss Z T29 (mkF mm 25 _ [.int c5]) _ _ _ _
 refine o_istore K X29 d42_25 rfl (L' := #[vR a, vI 1, vR b1, vI 5, vI c5]) rfl ?_
 refine o_iload K X29 d42_27 rfl rfl ?_
 refine o_bipush K X29 d42_29 rfl (z := 34) rfl ?_
 refine o_icmp_eq_t K X29 d42_31 (by decide) (pc' := 47) (by decide) q6 ?_
 refine o_iloadN K X29 d42_47 rfl rfl ?_
 refine o_iconst K X29 d42_48 rfl (z := 1) rfl ?_
 refine o_iadd K X29 d42_49 rfl (z := 6) (by decide) ?_
 refine o_aloadN K X29 d42_50 rfl rfl rfl ?_
 refine o_virtual K X29   (w53 hw) (w54 hw) (oNF (w56 hw)) (w56 hw) (w55 hw) (w4 hw) (w57 hw) (by decide) m24 (rm_strlen l Z a0 hw a va k c0 c1 c2 c3 c4 c5 c6 cs h23 m24 m25 m26 m27 q18 q19) all0 (by decide) rfl (argsL := []) rfl (lenOf pd10 rfl) (W := 1) rfl (by decide) (by decide) (by decide) d42_51 rfl ?_
 intro v30 T30 h30 FX30 U30
 obtain ⟨rfl, rfl⟩ := U30
 have X30 := FX30 [] (Or.inl rfl) all0
 show oGoes pp ee bb ss Z T30 (mkF mm 54 _ [.int 7, .int 6]) _ _ _ _
 refine o_icmp_ge_f K X30 d42_54 rfl (by decide) ?_
 refine o_aloadN K X30 d42_57 rfl rfl rfl ?_
 refine o_iloadN K X30 d42_58 rfl rfl ?_
 refine o_iconst K X30 d42_59 rfl (z := 1) rfl ?_
 refine o_iadd K X30 d42_60 rfl (z := 6) (by decide) ?_
 refine o_virtual K X30   (w75 hw) (w76 hw) (oNF (w78 hw)) (w78 hw) (w77 hw) (w4 hw) (w79 hw) (by decide) m24 (rm_char6 l Z a0 hw a va k c0 c1 c2 c3 c4 c5 c6 fm cs h23 m24 m25 m26 m27 q13 q16 q17 q18 q19) all0 (by decide) rfl (argsL := [.int 6]) rfl (lenOf pd27 rfl) (W := 0) rfl (by decide) (by decide) (by decide) d42_61 rfl ?_
 intro v31 T31 h31 FX31 U31
 obtain ⟨rfl, rfl, u31_1⟩ := U31
 have X31 := FX31 [] (Or.inl rfl) all0
 show oGoes pp ee bb ss Z T31 (mkF mm 64 _ [.int c6]) _ _ _ _
 refine o_bipush K X31 d42_64 rfl (z := 34) rfl ?_
 refine o_icmp_ne_t K X31 d42_66 (by decide) (pc' := 82) (by decide) q8 ?_
 refine tl_rd2 l Z a0 hw a 1 b1 5 c5 6 r_2 k_2 (nar .byte (34 : Int32)) (nar .byte c4) cs h23 u23_1 u23_2 u23_3 u23_4 u23_5 q18 q19 (by decide) (fun v32 h32 U32 => ?_) K (X31.mono (by decide) (by decide) (by decide) all0)
 obtain ⟨r_32, qt_32, s_32, sv_32, ks_32, rfl, u32_0, u32_1, u32_2, u32_3, u32_4, u32_5, u32_6, u32_7, u32_8, u32_9, u32_10, u32_11⟩ := U32
 have G32_r : Z.heap.size ≤ r_32 := Nat.le_trans X31.ext0.1 u32_1
 have G32_s : Z.heap.size ≤ s_32 := Nat.le_trans X31.ext0.1 u32_7
 have y0_4 := Nat.le_trans (Nat.le_trans (Nat.le_trans E1.1 u2_0.1) u14_0.1) u23_0.1
 exact ⟨r_32, qt_32, s_32, sv_32, ks_32, rfl, ((((((Keep.refl h0 []).ext E1).trans u2_0 (allS (Or.inr (oLe g1)) all0)).trans u14_0 (allS (Or.inr (oLe g1)) (allS (Or.inr (Nat.le_trans E1.1 u2_1)) all0))).trans u23_0 (allS (Or.inr (oLe g1)) (allS (Or.inr (Nat.le_trans E1.1 u2_1)) all0))).trans u32_0 all0), (Nat.le_trans y0_4 u32_1), u32_2, u32_3, u32_4, u32_5, u32_6, (Nat.le_trans y0_4 u32_7), u32_8, u32_9, u32_10, u32_11⟩
def Q_read_qq_0 (Z : State) (a va : Addr) (k : ClassId) (c0 c1 c2 c3 c4 c5 c6 : Int32) (fm : Value) (cs : Int32) (em : Addr) (h0 : Heap) (v : Option Value) (h : Heap) : Prop := v = some (.ref em) ∧ Keep h0 h []
theorem rm_read_qq_0 (l : Launch) (Z : State) (a0 : Array Value) (hw : oHw Z a0) (a va : Addr) (k : ClassId) (c0 c1 c2 c3 c4 c5 c6 : Int32) (fm : Value) (cs : Int32) (em : Addr) (h0 : Heap) (q0 : Exa Z h0 a z0) (q1 : Fld Z h0 a z0 "value" "[B" (.ref va)) (q2 : Fld Z h0 a z0 "coder" "B" (.int 0)) (q3 : oArr Z h0 va k .byte [(.int (nar .byte c0)), (.int (nar .byte c1)), (.int (nar .byte c2)), (.int (nar .byte c3)), (.int (nar .byte c4)), (.int (nar .byte c5)), (.int (nar .byte c6))]) (q4 : c3 = (34 : Int32)) (q5 : c4 = (34 : Int32)) (q6 : c5 = (34 : Int32)) (q7 : c6 = (34 : Int32)) (q8 : oCh c3) (q9 : oCh c4) (q10 : oCh c5) (q11 : oCh c6) (q12 : Sta Z Z.heap z6 z7 z8 fm) (q13 : fm.isRef = true) (q14 : Sta Z Z.heap z0 z5 "Z" (.int cs)) (q15 : ¬ (cs = (0 : Int32))) (q16 : Sta Z Z.heap z3 "EMPTY" z14 (.ref em)) : oMet l Z (⟨z2, "read", z12⟩ : MethodName) prog_30_method_2_code 5 (some (.object z3)) r_read [] #[.ref a, .int 2] h0 (Q_read_qq_0 Z a va k c0 c1 c2 c3 c4 c5 c6 fm cs em h0) [] false := by
 refine oEnter (oEW hw) (plainFor_of_name (by first | (simp [plainName, overriddenIn]; done) | decide +kernel)) (own := z2) (nm := "read") rfl rfl (L := #[.val (.ref a), .val (.int 2), .unset, .unset, .unset]) (fun m => by first | (simp [entryFrame, mkF, argsToLocals, Value.category, oCatRef q13]; done) | rfl) ?_
 intro pp ee ss mm bb mtd cc T0 K X0
 have E0 := X0.ext0
 refine o_new K X0 (w35 hw) (w36 hw) (w37 hw) d42_0 rfl (by decide) (by decide) ?_
 intro T1 h1 b1 X1 g1 E1 A1 D1 G1
 have F1_value : Fld Z h1 b1 z1 "value" "[B" .null := (D1 (Or.inl (w50 hw)) (ty := (.array .byte)) (by decide))
 have F1_coder : Fld Z h1 b1 z1 "coder" "B" (.int 0) := (D1 (Or.inl (w52 hw)) (ty := .byte) (by decide))
 have F1_count : Fld Z h1 b1 z1 "count" "I" (.int 0) := (D1 (Or.inl (w108 hw)) (ty := .int) (by decide))
 refine o_dup K X1 d42_3 rfl rfl ?_
 refine o_special K X1 (y := (⟨z4, "<init>", "()V"⟩ : MethodName)) rfl (w38 hw) (w39 hw) (w37 hw) (w40 hw) (by decide) (rm_sbinit l Z a0 hw b1 cs h1 A1 F1_value F1_coder F1_count G1 q14 q15) (allS me0 all0) (by decide) rfl (argsL := []) rfl (lenOf pd17 rfl) (W := 1) rfl (by decide) (by decide) (by decide) d42_4 rfl ?_
 intro v2 T2 h2 FX2 U2
 obtain ⟨r_2, k_2, rfl, u2_0, u2_1, u2_2, u2_3, u2_4, u2_5, u2_6⟩ := U2
 have G2_r : Z.heap.size ≤ r_2 := Nat.le_trans X1.ext0.1 u2_1
 have X2 := FX2 [r_2] (Or.inl rfl) (allS ⟨u2_1, u2_6.lt⟩ all0)
 show oGoes pp ee bb ss Z T2 (mkF mm 7 _ [.ref b1]) _ _ _ _
 refine o_astoreN K X2 d42_7 rfl rfl (L' := #[vR a, vI 2, vR b1, uS, uS]) rfl ?_
 refine o_iloadN K X2 d42_8 rfl rfl ?_
 refine o_iconst K X2 d42_9 rfl (z := 1) rfl ?_
 refine o_iadd K X2 d42_10 rfl (z := 3) (by decide) ?_
 refine o_istoreN K X2 d42_11 rfl (L' := #[vR a, vI 2, vR b1, vI 3, uS]) rfl ?_
 refine o_iloadN K X2 d42_12 rfl rfl ?_
 refine o_aloadN K X2 d42_13 rfl rfl rfl ?_
 have m3 := ((q0.ext E1).keep u2_0)
 have n4 := oLz q0.lt (oLe g1)
 have m5 := ((q1.ext E1).keep u2_0 (ninS n4 nin0))
 have m6 := ((q2.ext E1).keep u2_0 (ninS n4 nin0))
 have n7 := oLz q3.lt (oLe g1)
 have m8 := ((q3.ext E1).keep u2_0 (ninS n7 nin0))
 refine o_virtual K X2   (w53 hw) (w54 hw) (oNF (w56 hw)) (w56 hw) (w55 hw) (w4 hw) (w57 hw) (by decide) m3 (rm_strlen l Z a0 hw a va k c0 c1 c2 c3 c4 c5 c6 cs h2 m3 m5 m6 m8 q14 q15) all0 (by decide) rfl (argsL := []) rfl (lenOf pd10 rfl) (W := 1) rfl (by decide) (by decide) (by decide) d42_14 rfl ?_
 intro v9 T9 h9 FX9 U9
 obtain ⟨rfl, rfl⟩ := U9
 have X9 := FX9 [] (Or.inl rfl) all0
 show oGoes pp ee bb ss Z T9 (mkF mm 17 _ [.int 7, .int 3]) _ _ _ _
 refine o_icmp_ge_f K X9 d42_17 rfl (by decide) ?_
 refine o_aloadN K X9 d42_20 rfl rfl rfl ?_
 refine o_iloadN K X9 d42_21 rfl rfl ?_
 refine o_virtual K X9   (w75 hw) (w76 hw) (oNF (w78 hw)) (w78 hw) (w77 hw) (w4 hw) (w79 hw) (by decide) m3 (rm_char3 l Z a0 hw a va k c0 c1 c2 c3 c4 c5 c6 fm cs h2 m3 m5 m6 m8 q8 q12 q13 q14 q15) all0 (by decide) rfl (argsL := [.int 3]) rfl (lenOf pd27 rfl) (W := 0) rfl (by decide) (by decide) (by decide) d42_22 rfl ?_
 intro v10 T10 h10 FX10 U10
 obtain ⟨rfl, rfl, u10_1⟩ := U10
 have X10 := FX10 [] (Or.inl rfl) all0
 show oGoes pp ee bb ss Z T10 (mkF mm 25 _ [.int c3]) _ _ _ _
 refine o_istore K X10 d42_25 rfl (L' := #[vR a, vI 2, vR b1, vI 3, vI c3]) rfl ?_
 refine o_iload K X10 d42_27 rfl rfl ?_
 refine o_bipush K X10 d42_29 rfl (z := 34) rfl ?_
 refine o_icmp_eq_t K X10 d42_31 (by decide) (pc' := 47) (by decide) q4 ?_
 refine o_iloadN K X10 d42_47 rfl rfl ?_
 refine o_iconst K X10 d42_48 rfl (z := 1) rfl ?_
 refine o_iadd K X10 d42_49 rfl (z := 4) (by decide) ?_
 refine o_aloadN K X10 d42_50 rfl rfl rfl ?_
 refine o_virtual K X10   (w53 hw) (w54 hw) (oNF (w56 hw)) (w56 hw) (w55 hw) (w4 hw) (w57 hw) (by decide) m3 (rm_strlen l Z a0 hw a va k c0 c1 c2 c3 c4 c5 c6 cs h2 m3 m5 m6 m8 q14 q15) all0 (by decide) rfl (argsL := []) rfl (lenOf pd10 rfl) (W := 1) rfl (by decide) (by decide) (by decide) d42_51 rfl ?_
 intro v11 T11 h11 FX11 U11
 obtain ⟨rfl, rfl⟩ := U11
 have X11 := FX11 [] (Or.inl rfl) all0
 show oGoes pp ee bb ss Z T11 (mkF mm 54 _ [.int 7, .int 4]) _ _ _ _
 refine o_icmp_ge_f K X11 d42_54 rfl (by decide) ?_
 refine o_aloadN K X11 d42_57 rfl rfl rfl ?_
 refine o_iloadN K X11 d42_58 rfl rfl ?_
 refine o_iconst K X11 d42_59 rfl (z := 1) rfl ?_
 refine o_iadd K X11 d42_60 rfl (z := 4) (by decide) ?_
 refine o_virtual K X11   (w75 hw) (w76 hw) (oNF (w78 hw)) (w78 hw) (w77 hw) (w4 hw) (w79 hw) (by decide) m3 (rm_char4 l Z a0 hw a va k c0 c1 c2 c3 c4 c5 c6 fm cs h2 m3 m5 m6 m8 q9 q12 q13 q14 q15) all0 (by decide) rfl (argsL := [.int 4]) rfl (lenOf pd27 rfl) (W := 0) rfl (by decide) (by decide) (by decide) d42_61 rfl ?_
 intro v12 T12 h12 FX12 U12
 obtain ⟨rfl, rfl, u12_1⟩ := U12
 have X12 := FX12 [] (Or.inl rfl) all0
 show oGoes pp ee bb ss Z T12 (mkF mm 64 _ [.int c4]) _ _ _ _
 refine o_bipush K X12 d42_64 rfl (z := 34) rfl ?_
 refine o_icmp_ne_f K X12 d42_66 rfl q5 ?_
 refine o_aloadN K X12 d42_69 rfl rfl rfl ?_
 refine o_bipush K X12 d42_70 rfl (z := 34) rfl ?_
 have n13 := oLsz A1.lt u2_1
 refine o_virtual K X12   (w97 hw) (w98 hw) (oNF (w100 hw)) (w100 hw) (w99 hw) (w37 hw) (w101 hw) (by decide) u2_2 (rm_sbapp0 l Z a0 hw b1 r_2 k_2 34 cs h2 u2_2 u2_3 u2_4 u2_5 u2_6 G1 G2_r n13 (by decide) q14 q15) (allS me1 (allS me0 all0)) (by decide) rfl (argsL := [.int 34]) rfl (lenOf pd28 rfl) (W := 0) rfl (by decide) (by decide) (by decide) d42_72 rfl ?_
 intro v14 T14 h14 FX14 U14
 obtain ⟨rfl, u14_0, u14_1, u14_2, u14_3, u14_4, u14_5⟩ := U14
 have X14 := FX14 [] (Or.inl rfl) all0
 show oGoes pp ee bb ss Z T14 (mkF mm 75 _ [.ref b1]) _ _ _ _
 refine o_pop K X14 d42_75 rfl rfl ?_
 refine o_iinc K X14 d42_76 rfl rfl (L' := #[vR a, vI 2, vR b1, vI 5, vI c3]) (by rw [show (3 : Int32) + Int32.ofInt 2 = (5 : Int32) from (by decide)]; rfl) ?_
 refine o_goto K X14 d42_79 (by decide) (pc' := 100) (by decide) ?_
 refine o_goto K X14 d42_100 (by decide) (pc' := 12) (by decide) ?_
 refine o_iloadN K X14 d42_12 rfl rfl ?_
 refine o_aloadN K X14 d42_13 rfl rfl rfl ?_
 have m15 := (m3.keep u14_0)
 have n16 := oLn q0.lt E1.1 u2_1
 have m17 := (m5.keep u14_0 (ninS n4 (ninS n16 nin0)))
 have m18 := (m6.keep u14_0 (ninS n4 (ninS n16 nin0)))
 have n19 := oLn q3.lt E1.1 u2_1
 have m20 := (m8.keep u14_0 (ninS n7 (ninS n19 nin0)))
 refine o_virtual K X14   (w53 hw) (w54 hw) (oNF (w56 hw)) (w56 hw) (w55 hw) (w4 hw) (w57 hw) (by decide) m15 (rm_strlen l Z a0 hw a va k c0 c1 c2 c3 c4 c5 c6 cs h14 m15 m17 m18 m20 q14 q15) all0 (by decide) rfl (argsL := []) rfl (lenOf pd10 rfl) (W := 1) rfl (by decide) (by decide) (by decide) d42_14 rfl ?_
 intro v21 T21 h21 FX21 U21
 obtain ⟨rfl, rfl⟩ := U21
 have X21 := FX21 [] (Or.inl rfl) all0
 show oGoes pp ee bb ss Z T21 (mkF mm 17 _ [.int 7, .int 5]) _ _ _ _
 refine o_icmp_ge_f K X21 d42_17 rfl (by decide) ?_
 refine o_aloadN K X21 d42_20 rfl rfl rfl ?_
 refine o_iloadN K X21 d42_21 rfl rfl ?_
 refine o_virtual K X21   (w75 hw) (w76 hw) (oNF (w78 hw)) (w78 hw) (w77 hw) (w4 hw) (w79 hw) (by decide) m15 (rm_char5 l Z a0 hw a va k c0 c1 c2 c3 c4 c5 c6 fm cs h14 m15 m17 m18 m20 q10 q12 q13 q14 q15) all0 (by decide) rfl (argsL := [.int 5]) rfl (lenOf pd27 rfl) (W := 0) rfl (by decide) (by decide) (by decide) d42_22 rfl ?_
 intro v22 T22 h22 FX22 U22
 obtain ⟨rfl, rfl, u22_1⟩ := U22
 have X22 := FX22 [] (Or.inl rfl) all0
 show oGoes pp ee bb ss Z T22 (mkF mm 25 _ [.int c5]) _ _ _ _
 refine o_istore K X22 d42_25 rfl (L' := #[vR a, vI 2, vR b1, vI 5, vI c5]) rfl ?_
 refine o_iload K X22 d42_27 rfl rfl ?_
 refine o_bipush K X22 d42_29 rfl (z := 34) rfl ?_
 refine o_icmp_eq_t K X22 d42_31 (by decide) (pc' := 47) (by decide) q6 ?_
 refine o_iloadN K X22 d42_47 rfl rfl ?_
 refine o_iconst K X22 d42_48 rfl (z := 1) rfl ?_
 refine o_iadd K X22 d42_49 rfl (z := 6) (by decide) ?_
 refine o_aloadN K X22 d42_50 rfl rfl rfl ?_
 refine o_virtual K X22   (w53 hw) (w54 hw) (oNF (w56 hw)) (w56 hw) (w55 hw) (w4 hw) (w57 hw) (by decide) m15 (rm_strlen l Z a0 hw a va k c0 c1 c2 c3 c4 c5 c6 cs h14 m15 m17 m18 m20 q14 q15) all0 (by decide) rfl (argsL := []) rfl (lenOf pd10 rfl) (W := 1) rfl (by decide) (by decide) (by decide) d42_51 rfl ?_
 intro v23 T23 h23 FX23 U23
 obtain ⟨rfl, rfl⟩ := U23
 have X23 := FX23 [] (Or.inl rfl) all0
 show oGoes pp ee bb ss Z T23 (mkF mm 54 _ [.int 7, .int 6]) _ _ _ _
 refine o_icmp_ge_f K X23 d42_54 rfl (by decide) ?_
 refine o_aloadN K X23 d42_57 rfl rfl rfl ?_
 refine o_iloadN K X23 d42_58 rfl rfl ?_
 refine o_iconst K X23 d42_59 rfl (z := 1) rfl ?_
 refine o_iadd K X23 d42_60 rfl (z := 6) (by decide) ?_
 refine o_virtual K X23   (w75 hw) (w76 hw) (oNF (w78 hw)) (w78 hw) (w77 hw) (w4 hw) (w79 hw) (by decide) m15 (rm_char6 l Z a0 hw a va k c0 c1 c2 c3 c4 c5 c6 fm cs h14 m15 m17 m18 m20 q11 q12 q13 q14 q15) all0 (by decide) rfl (argsL := [.int 6]) rfl (lenOf pd27 rfl) (W := 0) rfl (by decide) (by decide) (by decide) d42_61 rfl ?_
 intro v24 T24 h24 FX24 U24
 obtain ⟨rfl, rfl, u24_1⟩ := U24
 have X24 := FX24 [] (Or.inl rfl) all0
 show oGoes pp ee bb ss Z T24 (mkF mm 64 _ [.int c6]) _ _ _ _
 refine o_bipush K X24 d42_64 rfl (z := 34) rfl ?_
 refine o_icmp_ne_f K X24 d42_66 rfl q7 ?_
 refine o_aloadN K X24 d42_69 rfl rfl rfl ?_
 refine o_bipush K X24 d42_70 rfl (z := 34) rfl ?_
 refine o_virtual K X24   (w97 hw) (w98 hw) (oNF (w100 hw)) (w100 hw) (w99 hw) (w37 hw) (w101 hw) (by decide) u14_1 (rm_sbapp1 l Z a0 hw b1 r_2 k_2 34 (nar .byte (34 : Int32)) cs h14 u14_1 u14_2 u14_3 u14_4 u14_5 G1 G2_r n13 (by decide) q14 q15) (allS me1 (allS me0 all0)) (by decide) rfl (argsL := [.int 34]) rfl (lenOf pd28 rfl) (W := 0) rfl (by decide) (by decide) (by decide) d42_72 rfl ?_
 intro v25 T25 h25 FX25 U25
 obtain ⟨rfl, u25_0, u25_1, u25_2, u25_3, u25_4, u25_5⟩ := U25
 have X25 := FX25 [] (Or.inl rfl) all0
 show oGoes pp ee bb ss Z T25 (mkF mm 75 _ [.ref b1]) _ _ _ _
 refine o_pop K X25 d42_75 rfl rfl ?_
 refine o_iinc K X25 d42_76 rfl rfl (L' := #[vR a, vI 2, vR b1, vI 7, vI c5]) (by rw [show (5 : Int32) + Int32.ofInt 2 = (7 : Int32) from (by decide)]; rfl) ?_
 refine o_goto K X25 d42_79 (by decide) (pc' := 100) (by decide) ?_
 refine o_goto K X25 d42_100 (by decide) (pc' := 12) (by decide) ?_
 refine o_iloadN K X25 d42_12 rfl rfl ?_
 refine o_aloadN K X25 d42_13 rfl rfl rfl ?_
 have m26 := (m15.keep u25_0)
 have m27 := (m17.keep u25_0 (ninS n4 (ninS n16 nin0)))
 have m28 := (m18.keep u25_0 (ninS n4 (ninS n16 nin0)))
 have m29 := (m20.keep u25_0 (ninS n7 (ninS n19 nin0)))
 refine o_virtual K X25   (w53 hw) (w54 hw) (oNF (w56 hw)) (w56 hw) (w55 hw) (w4 hw) (w57 hw) (by decide) m26 (rm_strlen l Z a0 hw a va k c0 c1 c2 c3 c4 c5 c6 cs h25 m26 m27 m28 m29 q14 q15) all0 (by decide) rfl (argsL := []) rfl (lenOf pd10 rfl) (W := 1) rfl (by decide) (by decide) (by decide) d42_14 rfl ?_
 intro v30 T30 h30 FX30 U30
 obtain ⟨rfl, rfl⟩ := U30
 have X30 := FX30 [] (Or.inl rfl) all0
 show oGoes pp ee bb ss Z T30 (mkF mm 17 _ [.int 7, .int 7]) _ _ _ _
 refine o_icmp_ge_t K X30 d42_17 (by decide) (pc' := 103) (by decide) (by decide) ?_
 refine o_static K X30  (w63 hw) (w64 hw) (w65 hw) (w66 hw) (by decide) (rm_optempty l Z a0 hw em h25 q16) all0 (by decide) rfl (argsL := []) rfl (lenOf pd26 rfl) (W := 0) rfl (by decide) (by decide) (by decide) d42_103 rfl ?_
 intro v31 T31 h31 FX31 U31
 obtain ⟨rfl, rfl⟩ := U31
 have X31 := FX31 [] (Or.inl rfl) all0
 show oGoes pp ee bb ss Z T31 (mkF mm 106 _ [.ref em]) _ _ _ _
 refine o_areturn K X31 (t := (.object z3)) d42_106 rfl rfl rfl ?_ (by decide) (by decide) (by decide)
 exact ⟨rfl, (((((Keep.refl h0 []).ext E1).trans u2_0 (allS (Or.inr (oLe g1)) all0)).trans u14_0 (allS (Or.inr (oLe g1)) (allS (Or.inr (Nat.le_trans E1.1 u2_1)) all0))).trans u25_0 (allS (Or.inr (oLe g1)) (allS (Or.inr (Nat.le_trans E1.1 u2_1)) all0)))⟩
def Q_read_qq_1 (Z : State) (a va : Addr) (k : ClassId) (c0 c1 c2 c3 c4 c5 c6 : Int32) (fm : Value) (cs : Int32) (em : Addr) (h0 : Heap) (v : Option Value) (h : Heap) : Prop := ∃ r qt s sv : Addr, ∃ ks : ClassId, v = some (.ref r) ∧ Keep h0 h [] ∧ h0.size ≤ r ∧ Exa Z h r z3 ∧ Fld Z h r z3 "value" z11 (.ref qt) ∧ Exa Z h qt z2 ∧ Fld Z h qt z2 "value" z13 (.ref s) ∧ Fld Z h qt z2 "end" "I" (.int 7) ∧ h0.size ≤ s ∧ Exa Z h s z0 ∧ Fld Z h s z0 "value" "[B" (.ref sv) ∧ Fld Z h s z0 "coder" "B" (.int 0) ∧ oArr Z h sv ks .byte [(.int (nar .byte (34 : Int32))), (.int (nar .byte (34 : Int32)))]
theorem rm_read_qq_1 (l : Launch) (Z : State) (a0 : Array Value) (hw : oHw Z a0) (a va : Addr) (k : ClassId) (c0 c1 c2 c3 c4 c5 c6 : Int32) (fm : Value) (cs : Int32) (em : Addr) (h0 : Heap) (q0 : Exa Z h0 a z0) (q1 : Fld Z h0 a z0 "value" "[B" (.ref va)) (q2 : Fld Z h0 a z0 "coder" "B" (.int 0)) (q3 : oArr Z h0 va k .byte [(.int (nar .byte c0)), (.int (nar .byte c1)), (.int (nar .byte c2)), (.int (nar .byte c3)), (.int (nar .byte c4)), (.int (nar .byte c5)), (.int (nar .byte c6))]) (q4 : c2 = (34 : Int32)) (q5 : c3 = (34 : Int32)) (q6 : c4 = (34 : Int32)) (q7 : c5 = (34 : Int32)) (q8 : c6 = (34 : Int32)) (q9 : oCh c2) (q10 : oCh c3) (q11 : oCh c4) (q12 : oCh c5) (q13 : oCh c6) (q14 : Sta Z Z.heap z6 z7 z8 fm) (q15 : fm.isRef = true) (q16 : Sta Z Z.heap z0 z5 "Z" (.int cs)) (q17 : ¬ (cs = (0 : Int32))) (q18 : Sta Z Z.heap z3 "EMPTY" z14 (.ref em)) : oMet l Z (⟨z2, "read", z12⟩ : MethodName) prog_30_method_2_code 5 (some (.object z3)) r_read [] #[.ref a, .int 1] h0 (Q_read_qq_1 Z a va k c0 c1 c2 c3 c4 c5 c6 fm cs em h0) [] false := by
 refine oEnter (oEW hw) (plainFor_of_name (by first | (simp [plainName, overriddenIn]; done) | decide +kernel)) (own := z2) (nm := "read") rfl rfl (L := #[.val (.ref a), .val (.int 1), .unset, .unset, .unset]) (fun m => by first | (simp [entryFrame, mkF, argsToLocals, Value.category, oCatRef q15]; done) | rfl) ?_
 intro pp ee ss mm bb mtd cc T0 K X0
 have E0 := X0.ext0
 refine o_new K X0 (w35 hw) (w36 hw) (w37 hw) d42_0 rfl (by decide) (by decide) ?_
 intro T1 h1 b1 X1 g1 E1 A1 D1 G1
 have F1_value : Fld Z h1 b1 z1 "value" "[B" .null := (D1 (Or.inl (w50 hw)) (ty := (.array .byte)) (by decide))
 have F1_coder : Fld Z h1 b1 z1 "coder" "B" (.int 0) := (D1 (Or.inl (w52 hw)) (ty := .byte) (by decide))
 have F1_count : Fld Z h1 b1 z1 "count" "I" (.int 0) := (D1 (Or.inl (w108 hw)) (ty := .int) (by decide))
 refine o_dup K X1 d42_3 rfl rfl ?_
 refine o_special K X1 (y := (⟨z4, "<init>", "()V"⟩ : MethodName)) rfl (w38 hw) (w39 hw) (w37 hw) (w40 hw) (by decide) (rm_sbinit l Z a0 hw b1 cs h1 A1 F1_value F1_coder F1_count G1 q16 q17) (allS me0 all0) (by decide) rfl (argsL := []) rfl (lenOf pd17 rfl) (W := 1) rfl (by decide) (by decide) (by decide) d42_4 rfl ?_
 intro v2 T2 h2 FX2 U2
 obtain ⟨r_2, k_2, rfl, u2_0, u2_1, u2_2, u2_3, u2_4, u2_5, u2_6⟩ := U2
 have G2_r : Z.heap.size ≤ r_2 := Nat.le_trans X1.ext0.1 u2_1
 have X2 := FX2 [r_2] (Or.inl rfl) (allS ⟨u2_1, u2_6.lt⟩ all0)
 show oGoes pp ee bb ss Z T2 (mkF mm 7 _ [.ref b1]) _ _ _ _
 refine o_astoreN K X2 d42_7 rfl rfl (L' := #[vR a, vI 1, vR b1, uS, uS]) rfl ?_
 refine o_iloadN K X2 d42_8 rfl rfl ?_
 refine o_iconst K X2 d42_9 rfl (z := 1) rfl ?_
 refine o_iadd K X2 d42_10 rfl (z := 2) (by decide) ?_
 refine o_istoreN K X2 d42_11 rfl (L' := #[vR a, vI 1, vR b1, vI 2, uS]) rfl ?_
 refine o_iloadN K X2 d42_12 rfl rfl ?_
 refine o_aloadN K X2 d42_13 rfl rfl rfl ?_
 have m3 := ((q0.ext E1).keep u2_0)
 have n4 := oLz q0.lt (oLe g1)
 have m5 := ((q1.ext E1).keep u2_0 (ninS n4 nin0))
 have m6 := ((q2.ext E1).keep u2_0 (ninS n4 nin0))
 have n7 := oLz q3.lt (oLe g1)
 have m8 := ((q3.ext E1).keep u2_0 (ninS n7 nin0))
 refine o_virtual K X2   (w53 hw) (w54 hw) (oNF (w56 hw)) (w56 hw) (w55 hw) (w4 hw) (w57 hw) (by decide) m3 (rm_strlen l Z a0 hw a va k c0 c1 c2 c3 c4 c5 c6 cs h2 m3 m5 m6 m8 q16 q17) all0 (by decide) rfl (argsL := []) rfl (lenOf pd10 rfl) (W := 1) rfl (by decide) (by decide) (by decide) d42_14 rfl ?_
 intro v9 T9 h9 FX9 U9
 obtain ⟨rfl, rfl⟩ := U9
 have X9 := FX9 [] (Or.inl rfl) all0
 show oGoes pp ee bb ss Z T9 (mkF mm 17 _ [.int 7, .int 2]) _ _ _ _
 refine o_icmp_ge_f K X9 d42_17 rfl (by decide) ?_
 refine o_aloadN K X9 d42_20 rfl rfl rfl ?_
 refine o_iloadN K X9 d42_21 rfl rfl ?_
 refine o_virtual K X9   (w75 hw) (w76 hw) (oNF (w78 hw)) (w78 hw) (w77 hw) (w4 hw) (w79 hw) (by decide) m3 (rm_char2 l Z a0 hw a va k c0 c1 c2 c3 c4 c5 c6 fm cs h2 m3 m5 m6 m8 q9 q14 q15 q16 q17) all0 (by decide) rfl (argsL := [.int 2]) rfl (lenOf pd27 rfl) (W := 0) rfl (by decide) (by decide) (by decide) d42_22 rfl ?_
 intro v10 T10 h10 FX10 U10
 obtain ⟨rfl, rfl, u10_1⟩ := U10
 have X10 := FX10 [] (Or.inl rfl) all0
 show oGoes pp ee bb ss Z T10 (mkF mm 25 _ [.int c2]) _ _ _ _
 refine o_istore K X10 d42_25 rfl (L' := #[vR a, vI 1, vR b1, vI 2, vI c2]) rfl ?_
 refine o_iload K X10 d42_27 rfl rfl ?_
 refine o_bipush K X10 d42_29 rfl (z := 34) rfl ?_
 refine o_icmp_eq_t K X10 d42_31 (by decide) (pc' := 47) (by decide) q4 ?_
 refine o_iloadN K X10 d42_47 rfl rfl ?_
 refine o_iconst K X10 d42_48 rfl (z := 1) rfl ?_
 refine o_iadd K X10 d42_49 rfl (z := 3) (by decide) ?_
 refine o_aloadN K X10 d42_50 rfl rfl rfl ?_
 refine o_virtual K X10   (w53 hw) (w54 hw) (oNF (w56 hw)) (w56 hw) (w55 hw) (w4 hw) (w57 hw) (by decide) m3 (rm_strlen l Z a0 hw a va k c0 c1 c2 c3 c4 c5 c6 cs h2 m3 m5 m6 m8 q16 q17) all0 (by decide) rfl (argsL := []) rfl (lenOf pd10 rfl) (W := 1) rfl (by decide) (by decide) (by decide) d42_51 rfl ?_
 intro v11 T11 h11 FX11 U11
 obtain ⟨rfl, rfl⟩ := U11
 have X11 := FX11 [] (Or.inl rfl) all0
 show oGoes pp ee bb ss Z T11 (mkF mm 54 _ [.int 7, .int 3]) _ _ _ _
 refine o_icmp_ge_f K X11 d42_54 rfl (by decide) ?_
 refine o_aloadN K X11 d42_57 rfl rfl rfl ?_
 refine o_iloadN K X11 d42_58 rfl rfl ?_
 refine o_iconst K X11 d42_59 rfl (z := 1) rfl ?_
 refine o_iadd K X11 d42_60 rfl (z := 3) (by decide) ?_
 refine o_virtual K X11   (w75 hw) (w76 hw) (oNF (w78 hw)) (w78 hw) (w77 hw) (w4 hw) (w79 hw) (by decide) m3 (rm_char3 l Z a0 hw a va k c0 c1 c2 c3 c4 c5 c6 fm cs h2 m3 m5 m6 m8 q10 q14 q15 q16 q17) all0 (by decide) rfl (argsL := [.int 3]) rfl (lenOf pd27 rfl) (W := 0) rfl (by decide) (by decide) (by decide) d42_61 rfl ?_
 intro v12 T12 h12 FX12 U12
 obtain ⟨rfl, rfl, u12_1⟩ := U12
 have X12 := FX12 [] (Or.inl rfl) all0
 show oGoes pp ee bb ss Z T12 (mkF mm 64 _ [.int c3]) _ _ _ _
 refine o_bipush K X12 d42_64 rfl (z := 34) rfl ?_
 refine o_icmp_ne_f K X12 d42_66 rfl q5 ?_
 refine o_aloadN K X12 d42_69 rfl rfl rfl ?_
 refine o_bipush K X12 d42_70 rfl (z := 34) rfl ?_
 have n13 := oLsz A1.lt u2_1
 refine o_virtual K X12   (w97 hw) (w98 hw) (oNF (w100 hw)) (w100 hw) (w99 hw) (w37 hw) (w101 hw) (by decide) u2_2 (rm_sbapp0 l Z a0 hw b1 r_2 k_2 34 cs h2 u2_2 u2_3 u2_4 u2_5 u2_6 G1 G2_r n13 (by decide) q16 q17) (allS me1 (allS me0 all0)) (by decide) rfl (argsL := [.int 34]) rfl (lenOf pd28 rfl) (W := 0) rfl (by decide) (by decide) (by decide) d42_72 rfl ?_
 intro v14 T14 h14 FX14 U14
 obtain ⟨rfl, u14_0, u14_1, u14_2, u14_3, u14_4, u14_5⟩ := U14
 have X14 := FX14 [] (Or.inl rfl) all0
 show oGoes pp ee bb ss Z T14 (mkF mm 75 _ [.ref b1]) _ _ _ _
 refine o_pop K X14 d42_75 rfl rfl ?_
 refine o_iinc K X14 d42_76 rfl rfl (L' := #[vR a, vI 1, vR b1, vI 4, vI c2]) (by rw [show (2 : Int32) + Int32.ofInt 2 = (4 : Int32) from (by decide)]; rfl) ?_
 refine o_goto K X14 d42_79 (by decide) (pc' := 100) (by decide) ?_
 refine o_goto K X14 d42_100 (by decide) (pc' := 12) (by decide) ?_
 refine o_iloadN K X14 d42_12 rfl rfl ?_
 refine o_aloadN K X14 d42_13 rfl rfl rfl ?_
 have m15 := (m3.keep u14_0)
 have n16 := oLn q0.lt E1.1 u2_1
 have m17 := (m5.keep u14_0 (ninS n4 (ninS n16 nin0)))
 have m18 := (m6.keep u14_0 (ninS n4 (ninS n16 nin0)))
 have n19 := oLn q3.lt E1.1 u2_1
 have m20 := (m8.keep u14_0 (ninS n7 (ninS n19 nin0)))
 refine o_virtual K X14   (w53 hw) (w54 hw) (oNF (w56 hw)) (w56 hw) (w55 hw) (w4 hw) (w57 hw) (by decide) m15 (rm_strlen l Z a0 hw a va k c0 c1 c2 c3 c4 c5 c6 cs h14 m15 m17 m18 m20 q16 q17) all0 (by decide) rfl (argsL := []) rfl (lenOf pd10 rfl) (W := 1) rfl (by decide) (by decide) (by decide) d42_14 rfl ?_
 intro v21 T21 h21 FX21 U21
 obtain ⟨rfl, rfl⟩ := U21
 have X21 := FX21 [] (Or.inl rfl) all0
 show oGoes pp ee bb ss Z T21 (mkF mm 17 _ [.int 7, .int 4]) _ _ _ _
 refine o_icmp_ge_f K X21 d42_17 rfl (by decide) ?_
 refine o_aloadN K X21 d42_20 rfl rfl rfl ?_
 refine o_iloadN K X21 d42_21 rfl rfl ?_
 refine o_virtual K X21   (w75 hw) (w76 hw) (oNF (w78 hw)) (w78 hw) (w77 hw) (w4 hw) (w79 hw) (by decide) m15 (rm_char4 l Z a0 hw a va k c0 c1 c2 c3 c4 c5 c6 fm cs h14 m15 m17 m18 m20 q11 q14 q15 q16 q17) all0 (by decide) rfl (argsL := [.int 4]) rfl (lenOf pd27 rfl) (W := 0) rfl (by decide) (by decide) (by decide) d42_22 rfl ?_
 intro v22 T22 h22 FX22 U22
 obtain ⟨rfl, rfl, u22_1⟩ := U22
 have X22 := FX22 [] (Or.inl rfl) all0
 show oGoes pp ee bb ss Z T22 (mkF mm 25 _ [.int c4]) _ _ _ _
 refine o_istore K X22 d42_25 rfl (L' := #[vR a, vI 1, vR b1, vI 4, vI c4]) rfl ?_
 refine o_iload K X22 d42_27 rfl rfl ?_
 refine o_bipush K X22 d42_29 rfl (z := 34) rfl ?_
 refine o_icmp_eq_t K X22 d42_31 (by decide) (pc' := 47) (by decide) q6 ?_
 refine o_iloadN K X22 d42_47 rfl rfl ?_
 refine o_iconst K X22 d42_48 rfl (z := 1) rfl ?_
 refine o_iadd K X22 d42_49 rfl (z := 5) (by decide) ?_
 refine o_aloadN K X22 d42_50 rfl rfl rfl ?_
 refine o_virtual K X22   (w53 hw) (w54 hw) (oNF (w56 hw)) (w56 hw) (w55 hw) (w4 hw) (w57 hw) (by decide) m15 (rm_strlen l Z a0 hw a va k c0 c1 c2 c3 c4 c5 c6 cs h14 m15 m17 m18 m20 q16 q17) all0 (by decide) rfl (argsL := []) rfl (lenOf pd10 rfl) (W := 1) rfl (by decide) (by decide) (by decide) d42_51 rfl ?_
 intro v23 T23 h23 FX23 U23
 obtain ⟨rfl, rfl⟩ := U23
 have X23 := FX23 [] (Or.inl rfl) all0
 show oGoes pp ee bb ss Z T23 (mkF mm 54 _ [.int 7, .int 5]) _ _ _ _
 refine o_icmp_ge_f K X23 d42_54 rfl (by decide) ?_
 refine o_aloadN K X23 d42_57 rfl rfl rfl ?_
 refine o_iloadN K X23 d42_58 rfl rfl ?_
 refine o_iconst K X23 d42_59 rfl (z := 1) rfl ?_
 refine o_iadd K X23 d42_60 rfl (z := 5) (by decide) ?_
 refine o_virtual K X23   (w75 hw) (w76 hw) (oNF (w78 hw)) (w78 hw) (w77 hw) (w4 hw) (w79 hw) (by decide) m15 (rm_char5 l Z a0 hw a va k c0 c1 c2 c3 c4 c5 c6 fm cs h14 m15 m17 m18 m20 q12 q14 q15 q16 q17) all0 (by decide) rfl (argsL := [.int 5]) rfl (lenOf pd27 rfl) (W := 0) rfl (by decide) (by decide) (by decide) d42_61 rfl ?_
 intro v24 T24 h24 FX24 U24
 obtain ⟨rfl, rfl, u24_1⟩ := U24
 have X24 := FX24 [] (Or.inl rfl) all0
 show oGoes pp ee bb ss Z T24 (mkF mm 64 _ [.int c5]) _ _ _ _
 refine o_bipush K X24 d42_64 rfl (z := 34) rfl ?_
 refine o_icmp_ne_f K X24 d42_66 rfl q7 ?_
 refine o_aloadN K X24 d42_69 rfl rfl rfl ?_
 refine o_bipush K X24 d42_70 rfl (z := 34) rfl ?_
 refine o_virtual K X24   (w97 hw) (w98 hw) (oNF (w100 hw)) (w100 hw) (w99 hw) (w37 hw) (w101 hw) (by decide) u14_1 (rm_sbapp1 l Z a0 hw b1 r_2 k_2 34 (nar .byte (34 : Int32)) cs h14 u14_1 u14_2 u14_3 u14_4 u14_5 G1 G2_r n13 (by decide) q16 q17) (allS me1 (allS me0 all0)) (by decide) rfl (argsL := [.int 34]) rfl (lenOf pd28 rfl) (W := 0) rfl (by decide) (by decide) (by decide) d42_72 rfl ?_
 intro v25 T25 h25 FX25 U25
 obtain ⟨rfl, u25_0, u25_1, u25_2, u25_3, u25_4, u25_5⟩ := U25
 have X25 := FX25 [] (Or.inl rfl) all0
 show oGoes pp ee bb ss Z T25 (mkF mm 75 _ [.ref b1]) _ _ _ _
 refine o_pop K X25 d42_75 rfl rfl ?_
 refine o_iinc K X25 d42_76 rfl rfl (L' := #[vR a, vI 1, vR b1, vI 6, vI c4]) (by rw [show (4 : Int32) + Int32.ofInt 2 = (6 : Int32) from (by decide)]; rfl) ?_
 refine o_goto K X25 d42_79 (by decide) (pc' := 100) (by decide) ?_
 refine o_goto K X25 d42_100 (by decide) (pc' := 12) (by decide) ?_
 refine o_iloadN K X25 d42_12 rfl rfl ?_
 refine o_aloadN K X25 d42_13 rfl rfl rfl ?_
 have m26 := (m15.keep u25_0)
 have m27 := (m17.keep u25_0 (ninS n4 (ninS n16 nin0)))
 have m28 := (m18.keep u25_0 (ninS n4 (ninS n16 nin0)))
 have m29 := (m20.keep u25_0 (ninS n7 (ninS n19 nin0)))
 refine o_virtual K X25   (w53 hw) (w54 hw) (oNF (w56 hw)) (w56 hw) (w55 hw) (w4 hw) (w57 hw) (by decide) m26 (rm_strlen l Z a0 hw a va k c0 c1 c2 c3 c4 c5 c6 cs h25 m26 m27 m28 m29 q16 q17) all0 (by decide) rfl (argsL := []) rfl (lenOf pd10 rfl) (W := 1) rfl (by decide) (by decide) (by decide) d42_14 rfl ?_
 intro v30 T30 h30 FX30 U30
 obtain ⟨rfl, rfl⟩ := U30
 have X30 := FX30 [] (Or.inl rfl) all0
 show oGoes pp ee bb ss Z T30 (mkF mm 17 _ [.int 7, .int 6]) _ _ _ _
 refine o_icmp_ge_f K X30 d42_17 rfl (by decide) ?_
 refine o_aloadN K X30 d42_20 rfl rfl rfl ?_
 refine o_iloadN K X30 d42_21 rfl rfl ?_
 refine o_virtual K X30   (w75 hw) (w76 hw) (oNF (w78 hw)) (w78 hw) (w77 hw) (w4 hw) (w79 hw) (by decide) m26 (rm_char6 l Z a0 hw a va k c0 c1 c2 c3 c4 c5 c6 fm cs h25 m26 m27 m28 m29 q13 q14 q15 q16 q17) all0 (by decide) rfl (argsL := [.int 6]) rfl (lenOf pd27 rfl) (W := 0) rfl (by decide) (by decide) (by decide) d42_22 rfl ?_
 intro v31 T31 h31 FX31 U31
 obtain ⟨rfl, rfl, u31_1⟩ := U31
 have X31 := FX31 [] (Or.inl rfl) all0
 show oGoes pp ee bb ss Z T31 (mkF mm 25 _ [.int c6]) _ _ _ _
 refine o_istore K X31 d42_25 rfl (L' := #[vR a, vI 1, vR b1, vI 6, vI c6]) rfl ?_
 refine o_iload K X31 d42_27 rfl rfl ?_
 refine o_bipush K X31 d42_29 rfl (z := 34) rfl ?_
 refine o_icmp_eq_t K X31 d42_31 (by decide) (pc' := 47) (by decide) q8 ?_
 refine o_iloadN K X31 d42_47 rfl rfl ?_
 refine o_iconst K X31 d42_48 rfl (z := 1) rfl ?_
 refine o_iadd K X31 d42_49 rfl (z := 7) (by decide) ?_
 refine o_aloadN K X31 d42_50 rfl rfl rfl ?_
 refine o_virtual K X31   (w53 hw) (w54 hw) (oNF (w56 hw)) (w56 hw) (w55 hw) (w4 hw) (w57 hw) (by decide) m26 (rm_strlen l Z a0 hw a va k c0 c1 c2 c3 c4 c5 c6 cs h25 m26 m27 m28 m29 q16 q17) all0 (by decide) rfl (argsL := []) rfl (lenOf pd10 rfl) (W := 1) rfl (by decide) (by decide) (by decide) d42_51 rfl ?_
 intro v32 T32 h32 FX32 U32
 obtain ⟨rfl, rfl⟩ := U32
 have X32 := FX32 [] (Or.inl rfl) all0
 show oGoes pp ee bb ss Z T32 (mkF mm 54 _ [.int 7, .int 7]) _ _ _ _
 refine o_icmp_ge_t K X32 d42_54 (by decide) (pc' := 82) (by decide) (by decide) ?_
 refine tl_rd2 l Z a0 hw a 1 b1 6 c6 7 r_2 k_2 (nar .byte (34 : Int32)) (nar .byte (34 : Int32)) cs h25 u25_1 u25_2 u25_3 u25_4 u25_5 q16 q17 (by decide) (fun v33 h33 U33 => ?_) K (X32.mono (by decide) (by decide) (by decide) all0)
 obtain ⟨r_33, qt_33, s_33, sv_33, ks_33, rfl, u33_0, u33_1, u33_2, u33_3, u33_4, u33_5, u33_6, u33_7, u33_8, u33_9, u33_10, u33_11⟩ := U33
 have G33_r : Z.heap.size ≤ r_33 := Nat.le_trans X32.ext0.1 u33_1
 have G33_s : Z.heap.size ≤ s_33 := Nat.le_trans X32.ext0.1 u33_7
 have y0_4 := Nat.le_trans (Nat.le_trans (Nat.le_trans E1.1 u2_0.1) u14_0.1) u25_0.1
 exact ⟨r_33, qt_33, s_33, sv_33, ks_33, rfl, ((((((Keep.refl h0 []).ext E1).trans u2_0 (allS (Or.inr (oLe g1)) all0)).trans u14_0 (allS (Or.inr (oLe g1)) (allS (Or.inr (Nat.le_trans E1.1 u2_1)) all0))).trans u25_0 (allS (Or.inr (oLe g1)) (allS (Or.inr (Nat.le_trans E1.1 u2_1)) all0))).trans u33_0 all0), (Nat.le_trans y0_4 u33_1), u33_2, u33_3, u33_4, u33_5, u33_6, (Nat.le_trans y0_4 u33_7), u33_8, u33_9, u33_10, u33_11⟩
def Q_read_qq_2 (Z : State) (a va : Addr) (k : ClassId) (c0 c1 c2 c3 c4 c5 c6 : Int32) (fm : Value) (cs : Int32) (em : Addr) (h0 : Heap) (v : Option Value) (h : Heap) : Prop := ∃ r qt s sv : Addr, ∃ ks : ClassId, v = some (.ref r) ∧ Keep h0 h [] ∧ h0.size ≤ r ∧ Exa Z h r z3 ∧ Fld Z h r z3 "value" z11 (.ref qt) ∧ Exa Z h qt z2 ∧ Fld Z h qt z2 "value" z13 (.ref s) ∧ Fld Z h qt z2 "end" "I" (.int 6) ∧ h0.size ≤ s ∧ Exa Z h s z0 ∧ Fld Z h s z0 "value" "[B" (.ref sv) ∧ Fld Z h s z0 "coder" "B" (.int 0) ∧ oArr Z h sv ks .byte [(.int (nar .byte (34 : Int32))), (.int (nar .byte (34 : Int32)))]
theorem rm_read_qq_2 (l : Launch) (Z : State) (a0 : Array Value) (hw : oHw Z a0) (a va : Addr) (k : ClassId) (c0 c1 c2 c3 c4 c5 c6 : Int32) (fm : Value) (cs : Int32) (em : Addr) (h0 : Heap) (q0 : Exa Z h0 a z0) (q1 : Fld Z h0 a z0 "value" "[B" (.ref va)) (q2 : Fld Z h0 a z0 "coder" "B" (.int 0)) (q3 : oArr Z h0 va k .byte [(.int (nar .byte c0)), (.int (nar .byte c1)), (.int (nar .byte c2)), (.int (nar .byte c3)), (.int (nar .byte c4)), (.int (nar .byte c5)), (.int (nar .byte c6))]) (q4 : c1 = (34 : Int32)) (q5 : c2 = (34 : Int32)) (q6 : c3 = (34 : Int32)) (q7 : c4 = (34 : Int32)) (q8 : c5 = (34 : Int32)) (q9 : ¬ (c6 = (34 : Int32))) (q10 : oCh c1) (q11 : oCh c2) (q12 : oCh c3) (q13 : oCh c4) (q14 : oCh c5) (q15 : oCh c6) (q16 : ¬ ((255 : Int32) < c6)) (q17 : Sta Z Z.heap z6 z7 z8 fm) (q18 : fm.isRef = true) (q19 : Sta Z Z.heap z0 z5 "Z" (.int cs)) (q20 : ¬ (cs = (0 : Int32))) (q21 : Sta Z Z.heap z3 "EMPTY" z14 (.ref em)) : oMet l Z (⟨z2, "read", z12⟩ : MethodName) prog_30_method_2_code 5 (some (.object z3)) r_read [] #[.ref a, .int 0] h0 (Q_read_qq_2 Z a va k c0 c1 c2 c3 c4 c5 c6 fm cs em h0) [] false := by
 refine oEnter (oEW hw) (plainFor_of_name (by first | (simp [plainName, overriddenIn]; done) | decide +kernel)) (own := z2) (nm := "read") rfl rfl (L := #[.val (.ref a), .val (.int 0), .unset, .unset, .unset]) (fun m => by first | (simp [entryFrame, mkF, argsToLocals, Value.category, oCatRef q18]; done) | rfl) ?_
 intro pp ee ss mm bb mtd cc T0 K X0
 have E0 := X0.ext0
 refine o_new K X0 (w35 hw) (w36 hw) (w37 hw) d42_0 rfl (by decide) (by decide) ?_
 intro T1 h1 b1 X1 g1 E1 A1 D1 G1
 have F1_value : Fld Z h1 b1 z1 "value" "[B" .null := (D1 (Or.inl (w50 hw)) (ty := (.array .byte)) (by decide))
 have F1_coder : Fld Z h1 b1 z1 "coder" "B" (.int 0) := (D1 (Or.inl (w52 hw)) (ty := .byte) (by decide))
 have F1_count : Fld Z h1 b1 z1 "count" "I" (.int 0) := (D1 (Or.inl (w108 hw)) (ty := .int) (by decide))
 refine o_dup K X1 d42_3 rfl rfl ?_
 refine o_special K X1 (y := (⟨z4, "<init>", "()V"⟩ : MethodName)) rfl (w38 hw) (w39 hw) (w37 hw) (w40 hw) (by decide) (rm_sbinit l Z a0 hw b1 cs h1 A1 F1_value F1_coder F1_count G1 q19 q20) (allS me0 all0) (by decide) rfl (argsL := []) rfl (lenOf pd17 rfl) (W := 1) rfl (by decide) (by decide) (by decide) d42_4 rfl ?_
 intro v2 T2 h2 FX2 U2
 obtain ⟨r_2, k_2, rfl, u2_0, u2_1, u2_2, u2_3, u2_4, u2_5, u2_6⟩ := U2
 have G2_r : Z.heap.size ≤ r_2 := Nat.le_trans X1.ext0.1 u2_1
 have X2 := FX2 [r_2] (Or.inl rfl) (allS ⟨u2_1, u2_6.lt⟩ all0)
 show oGoes pp ee bb ss Z T2 (mkF mm 7 _ [.ref b1]) _ _ _ _
 refine o_astoreN K X2 d42_7 rfl rfl (L' := #[vR a, vI 0, vR b1, uS, uS]) rfl ?_
 refine o_iloadN K X2 d42_8 rfl rfl ?_
 refine o_iconst K X2 d42_9 rfl (z := 1) rfl ?_
 refine o_iadd K X2 d42_10 rfl (z := 1) (by decide) ?_
 refine o_istoreN K X2 d42_11 rfl (L' := #[vR a, vI 0, vR b1, vI 1, uS]) rfl ?_
 refine o_iloadN K X2 d42_12 rfl rfl ?_
 refine o_aloadN K X2 d42_13 rfl rfl rfl ?_
 have m3 := ((q0.ext E1).keep u2_0)
 have n4 := oLz q0.lt (oLe g1)
 have m5 := ((q1.ext E1).keep u2_0 (ninS n4 nin0))
 have m6 := ((q2.ext E1).keep u2_0 (ninS n4 nin0))
 have n7 := oLz q3.lt (oLe g1)
 have m8 := ((q3.ext E1).keep u2_0 (ninS n7 nin0))
 refine o_virtual K X2   (w53 hw) (w54 hw) (oNF (w56 hw)) (w56 hw) (w55 hw) (w4 hw) (w57 hw) (by decide) m3 (rm_strlen l Z a0 hw a va k c0 c1 c2 c3 c4 c5 c6 cs h2 m3 m5 m6 m8 q19 q20) all0 (by decide) rfl (argsL := []) rfl (lenOf pd10 rfl) (W := 1) rfl (by decide) (by decide) (by decide) d42_14 rfl ?_
 intro v9 T9 h9 FX9 U9
 obtain ⟨rfl, rfl⟩ := U9
 have X9 := FX9 [] (Or.inl rfl) all0
 show oGoes pp ee bb ss Z T9 (mkF mm 17 _ [.int 7, .int 1]) _ _ _ _
 refine o_icmp_ge_f K X9 d42_17 rfl (by decide) ?_
 refine o_aloadN K X9 d42_20 rfl rfl rfl ?_
 refine o_iloadN K X9 d42_21 rfl rfl ?_
 refine o_virtual K X9   (w75 hw) (w76 hw) (oNF (w78 hw)) (w78 hw) (w77 hw) (w4 hw) (w79 hw) (by decide) m3 (rm_char1 l Z a0 hw a va k c0 c1 c2 c3 c4 c5 c6 fm cs h2 m3 m5 m6 m8 q10 q17 q18 q19 q20) all0 (by decide) rfl (argsL := [.int 1]) rfl (lenOf pd27 rfl) (W := 0) rfl (by decide) (by decide) (by decide) d42_22 rfl ?_
 intro v10 T10 h10 FX10 U10
 obtain ⟨rfl, rfl, u10_1⟩ := U10
 have X10 := FX10 [] (Or.inl rfl) all0
 show oGoes pp ee bb ss Z T10 (mkF mm 25 _ [.int c1]) _ _ _ _
 refine o_istore K X10 d42_25 rfl (L' := #[vR a, vI 0, vR b1, vI 1, vI c1]) rfl ?_
 refine o_iload K X10 d42_27 rfl rfl ?_
 refine o_bipush K X10 d42_29 rfl (z := 34) rfl ?_
 refine o_icmp_eq_t K X10 d42_31 (by decide) (pc' := 47) (by decide) q4 ?_
 refine o_iloadN K X10 d42_47 rfl rfl ?_
 refine o_iconst K X10 d42_48 rfl (z := 1) rfl ?_
 refine o_iadd K X10 d42_49 rfl (z := 2) (by decide) ?_
 refine o_aloadN K X10 d42_50 rfl rfl rfl ?_
 refine o_virtual K X10   (w53 hw) (w54 hw) (oNF (w56 hw)) (w56 hw) (w55 hw) (w4 hw) (w57 hw) (by decide) m3 (rm_strlen l Z a0 hw a va k c0 c1 c2 c3 c4 c5 c6 cs h2 m3 m5 m6 m8 q19 q20) all0 (by decide) rfl (argsL := []) rfl (lenOf pd10 rfl) (W := 1) rfl (by decide) (by decide) (by decide) d42_51 rfl ?_
 intro v11 T11 h11 FX11 U11
 obtain ⟨rfl, rfl⟩ := U11
 have X11 := FX11 [] (Or.inl rfl) all0
 show oGoes pp ee bb ss Z T11 (mkF mm 54 _ [.int 7, .int 2]) _ _ _ _
 refine o_icmp_ge_f K X11 d42_54 rfl (by decide) ?_
 refine o_aloadN K X11 d42_57 rfl rfl rfl ?_
 refine o_iloadN K X11 d42_58 rfl rfl ?_
 refine o_iconst K X11 d42_59 rfl (z := 1) rfl ?_
 refine o_iadd K X11 d42_60 rfl (z := 2) (by decide) ?_
 refine o_virtual K X11   (w75 hw) (w76 hw) (oNF (w78 hw)) (w78 hw) (w77 hw) (w4 hw) (w79 hw) (by decide) m3 (rm_char2 l Z a0 hw a va k c0 c1 c2 c3 c4 c5 c6 fm cs h2 m3 m5 m6 m8 q11 q17 q18 q19 q20) all0 (by decide) rfl (argsL := [.int 2]) rfl (lenOf pd27 rfl) (W := 0) rfl (by decide) (by decide) (by decide) d42_61 rfl ?_
 intro v12 T12 h12 FX12 U12
 obtain ⟨rfl, rfl, u12_1⟩ := U12
 have X12 := FX12 [] (Or.inl rfl) all0
 show oGoes pp ee bb ss Z T12 (mkF mm 64 _ [.int c2]) _ _ _ _
 refine o_bipush K X12 d42_64 rfl (z := 34) rfl ?_
 refine o_icmp_ne_f K X12 d42_66 rfl q5 ?_
 refine o_aloadN K X12 d42_69 rfl rfl rfl ?_
 refine o_bipush K X12 d42_70 rfl (z := 34) rfl ?_
 have n13 := oLsz A1.lt u2_1
 refine o_virtual K X12   (w97 hw) (w98 hw) (oNF (w100 hw)) (w100 hw) (w99 hw) (w37 hw) (w101 hw) (by decide) u2_2 (rm_sbapp0 l Z a0 hw b1 r_2 k_2 34 cs h2 u2_2 u2_3 u2_4 u2_5 u2_6 G1 G2_r n13 (by decide) q19 q20) (allS me1 (allS me0 all0)) (by decide) rfl (argsL := [.int 34]) rfl (lenOf pd28 rfl) (W := 0) rfl (by decide) (by decide) (by decide) d42_72 rfl ?_
 intro v14 T14 h14 FX14 U14
 obtain ⟨rfl, u14_0, u14_1, u14_2, u14_3, u14_4, u14_5⟩ := U14
 have X14 := FX14 [] (Or.inl rfl) all0
 show oGoes pp ee bb ss Z T14 (mkF mm 75 _ [.ref b1]) _ _ _ _
 refine o_pop K X14 d42_75 rfl rfl ?_
 refine o_iinc K X14 d42_76 rfl rfl (L' := #[vR a, vI 0, vR b1, vI 3, vI c1]) (by rw [show (1 : Int32) + Int32.ofInt 2 = (3 : Int32) from (by decide)]; rfl) ?_
 refine o_goto K X14 d42_79 (by decide) (pc' := 100) (by decide) ?_
 refine o_goto K X14 d42_100 (by decide) (pc' := 12) (by decide) ?_
 refine o_iloadN K X14 d42_12 rfl rfl ?_
 refine o_aloadN K X14 d42_13 rfl rfl rfl ?_
 have m15 := (m3.keep u14_0)
 have n16 := oLn q0.lt E1.1 u2_1
 have m17 := (m5.keep u14_0 (ninS n4 (ninS n16 nin0)))
 have m18 := (m6.keep u14_0 (ninS n4 (ninS n16 nin0)))
 have n19 := oLn q3.lt E1.1 u2_1
 have m20 := (m8.keep u14_0 (ninS n7 (ninS n19 nin0)))
 refine o_virtual K X14   (w53 hw) (w54 hw) (oNF (w56 hw)) (w56 hw) (w55 hw) (w4 hw) (w57 hw) (by decide) m15 (rm_strlen l Z a0 hw a va k c0 c1 c2 c3 c4 c5 c6 cs h14 m15 m17 m18 m20 q19 q20) all0 (by decide) rfl (argsL := []) rfl (lenOf pd10 rfl) (W := 1) rfl (by decide) (by decide) (by decide) d42_14 rfl ?_
 intro v21 T21 h21 FX21 U21
 obtain ⟨rfl, rfl⟩ := U21
 have X21 := FX21 [] (Or.inl rfl) all0
 show oGoes pp ee bb ss Z T21 (mkF mm 17 _ [.int 7, .int 3]) _ _ _ _
 refine o_icmp_ge_f K X21 d42_17 rfl (by decide) ?_
 refine o_aloadN K X21 d42_20 rfl rfl rfl ?_
 refine o_iloadN K X21 d42_21 rfl rfl ?_
 refine o_virtual K X21   (w75 hw) (w76 hw) (oNF (w78 hw)) (w78 hw) (w77 hw) (w4 hw) (w79 hw) (by decide) m15 (rm_char3 l Z a0 hw a va k c0 c1 c2 c3 c4 c5 c6 fm cs h14 m15 m17 m18 m20 q12 q17 q18 q19 q20) all0 (by decide) rfl (argsL := [.int 3]) rfl (lenOf pd27 rfl) (W := 0) rfl (by decide) (by decide) (by decide) d42_22 rfl ?_
 intro v22 T22 h22 FX22 U22
 obtain ⟨rfl, rfl, u22_1⟩ := U22
 have X22 := FX22 [] (Or.inl rfl) all0
 show oGoes pp ee bb ss Z T22 (mkF mm 25 _ [.int c3]) _ _ _ _
 refine o_istore K X22 d42_25 rfl (L' := #[vR a, vI 0, vR b1, vI 3, vI c3]) rfl ?_
 refine o_iload K X22 d42_27 rfl rfl ?_
 refine o_bipush K X22 d42_29 rfl (z := 34) rfl ?_
 refine o_icmp_eq_t K X22 d42_31 (by decide) (pc' := 47) (by decide) q6 ?_
 refine o_iloadN K X22 d42_47 rfl rfl ?_
 refine o_iconst K X22 d42_48 rfl (z := 1) rfl ?_
 refine o_iadd K X22 d42_49 rfl (z := 4) (by decide) ?_
 refine o_aloadN K X22 d42_50 rfl rfl rfl ?_
 refine o_virtual K X22   (w53 hw) (w54 hw) (oNF (w56 hw)) (w56 hw) (w55 hw) (w4 hw) (w57 hw) (by decide) m15 (rm_strlen l Z a0 hw a va k c0 c1 c2 c3 c4 c5 c6 cs h14 m15 m17 m18 m20 q19 q20) all0 (by decide) rfl (argsL := []) rfl (lenOf pd10 rfl) (W := 1) rfl (by decide) (by decide) (by decide) d42_51 rfl ?_
 intro v23 T23 h23 FX23 U23
 obtain ⟨rfl, rfl⟩ := U23
 have X23 := FX23 [] (Or.inl rfl) all0
 show oGoes pp ee bb ss Z T23 (mkF mm 54 _ [.int 7, .int 4]) _ _ _ _
 refine o_icmp_ge_f K X23 d42_54 rfl (by decide) ?_
 refine o_aloadN K X23 d42_57 rfl rfl rfl ?_
 refine o_iloadN K X23 d42_58 rfl rfl ?_
 refine o_iconst K X23 d42_59 rfl (z := 1) rfl ?_
 refine o_iadd K X23 d42_60 rfl (z := 4) (by decide) ?_
 refine o_virtual K X23   (w75 hw) (w76 hw) (oNF (w78 hw)) (w78 hw) (w77 hw) (w4 hw) (w79 hw) (by decide) m15 (rm_char4 l Z a0 hw a va k c0 c1 c2 c3 c4 c5 c6 fm cs h14 m15 m17 m18 m20 q13 q17 q18 q19 q20) all0 (by decide) rfl (argsL := [.int 4]) rfl (lenOf pd27 rfl) (W := 0) rfl (by decide) (by decide) (by decide) d42_61 rfl ?_
 intro v24 T24 h24 FX24 U24
 obtain ⟨rfl, rfl, u24_1⟩ := U24
 have X24 := FX24 [] (Or.inl rfl) all0
 show oGoes pp ee bb ss Z T24 (mkF mm 64 _ [.int c4]) _ _ _ _
 refine o_bipush K X24 d42_64 rfl (z := 34) rfl ?_
 refine o_icmp_ne_f K X24 d42_66 rfl q7 ?_
 refine o_aloadN K X24 d42_69 rfl rfl rfl ?_
 refine o_bipush K X24 d42_70 rfl (z := 34) rfl ?_
 refine o_virtual K X24   (w97 hw) (w98 hw) (oNF (w100 hw)) (w100 hw) (w99 hw) (w37 hw) (w101 hw) (by decide) u14_1 (rm_sbapp1 l Z a0 hw b1 r_2 k_2 34 (nar .byte (34 : Int32)) cs h14 u14_1 u14_2 u14_3 u14_4 u14_5 G1 G2_r n13 (by decide) q19 q20) (allS me1 (allS me0 all0)) (by decide) rfl (argsL := [.int 34]) rfl (lenOf pd28 rfl) (W := 0) rfl (by decide) (by decide) (by decide) d42_72 rfl ?_
 intro v25 T25 h25 FX25 U25
 obtain ⟨rfl, u25_0, u25_1, u25_2, u25_3, u25_4, u25_5⟩ := U25
 have X25 := FX25 [] (Or.inl rfl) all0
 show oGoes pp ee bb ss Z T25 (mkF mm 75 _ [.ref b1]) _ _ _ _
 refine o_pop K X25 d42_75 rfl rfl ?_
 refine o_iinc K X25 d42_76 rfl rfl (L' := #[vR a, vI 0, vR b1, vI 5, vI c3]) (by rw [show (3 : Int32) + Int32.ofInt 2 = (5 : Int32) from (by decide)]; rfl) ?_
 refine o_goto K X25 d42_79 (by decide) (pc' := 100) (by decide) ?_
 refine o_goto K X25 d42_100 (by decide) (pc' := 12) (by decide) ?_
 refine o_iloadN K X25 d42_12 rfl rfl ?_
 refine o_aloadN K X25 d42_13 rfl rfl rfl ?_
 have m26 := (m15.keep u25_0)
 have m27 := (m17.keep u25_0 (ninS n4 (ninS n16 nin0)))
 have m28 := (m18.keep u25_0 (ninS n4 (ninS n16 nin0)))
 have m29 := (m20.keep u25_0 (ninS n7 (ninS n19 nin0)))
 refine o_virtual K X25   (w53 hw) (w54 hw) (oNF (w56 hw)) (w56 hw) (w55 hw) (w4 hw) (w57 hw) (by decide) m26 (rm_strlen l Z a0 hw a va k c0 c1 c2 c3 c4 c5 c6 cs h25 m26 m27 m28 m29 q19 q20) all0 (by decide) rfl (argsL := []) rfl (lenOf pd10 rfl) (W := 1) rfl (by decide) (by decide) (by decide) d42_14 rfl ?_
 intro v30 T30 h30 FX30 U30
 obtain ⟨rfl, rfl⟩ := U30
 have X30 := FX30 [] (Or.inl rfl) all0
 show oGoes pp ee bb ss Z T30 (mkF mm 17 _ [.int 7, .int 5]) _ _ _ _
 refine o_icmp_ge_f K X30 d42_17 rfl (by decide) ?_
 refine o_aloadN K X30 d42_20 rfl rfl rfl ?_
 refine o_iloadN K X30 d42_21 rfl rfl ?_
 refine o_virtual K X30   (w75 hw) (w76 hw) (oNF (w78 hw)) (w78 hw) (w77 hw) (w4 hw) (w79 hw) (by decide) m26 (rm_char5 l Z a0 hw a va k c0 c1 c2 c3 c4 c5 c6 fm cs h25 m26 m27 m28 m29 q14 q17 q18 q19 q20) all0 (by decide) rfl (argsL := [.int 5]) rfl (lenOf pd27 rfl) (W := 0) rfl (by decide) (by decide) (by decide) d42_22 rfl ?_
 intro v31 T31 h31 FX31 U31
 obtain ⟨rfl, rfl, u31_1⟩ := U31
 have X31 := FX31 [] (Or.inl rfl) all0
 show oGoes pp ee bb ss Z T31 (mkF mm 25 _ [.int c5]) _ _ _ _
 refine o_istore K X31 d42_25 rfl (L' := #[vR a, vI 0, vR b1, vI 5, vI c5]) rfl ?_
 refine o_iload K X31 d42_27 rfl rfl ?_
 refine o_bipush K X31 d42_29 rfl (z := 34) rfl ?_
 refine o_icmp_eq_t K X31 d42_31 (by decide) (pc' := 47) (by decide) q8 ?_
 refine o_iloadN K X31 d42_47 rfl rfl ?_
 refine o_iconst K X31 d42_48 rfl (z := 1) rfl ?_
 refine o_iadd K X31 d42_49 rfl (z := 6) (by decide) ?_
 refine o_aloadN K X31 d42_50 rfl rfl rfl ?_
 refine o_virtual K X31   (w53 hw) (w54 hw) (oNF (w56 hw)) (w56 hw) (w55 hw) (w4 hw) (w57 hw) (by decide) m26 (rm_strlen l Z a0 hw a va k c0 c1 c2 c3 c4 c5 c6 cs h25 m26 m27 m28 m29 q19 q20) all0 (by decide) rfl (argsL := []) rfl (lenOf pd10 rfl) (W := 1) rfl (by decide) (by decide) (by decide) d42_51 rfl ?_
 intro v32 T32 h32 FX32 U32
 obtain ⟨rfl, rfl⟩ := U32
 have X32 := FX32 [] (Or.inl rfl) all0
 show oGoes pp ee bb ss Z T32 (mkF mm 54 _ [.int 7, .int 6]) _ _ _ _
 refine o_icmp_ge_f K X32 d42_54 rfl (by decide) ?_
 refine o_aloadN K X32 d42_57 rfl rfl rfl ?_
 refine o_iloadN K X32 d42_58 rfl rfl ?_
 refine o_iconst K X32 d42_59 rfl (z := 1) rfl ?_
 refine o_iadd K X32 d42_60 rfl (z := 6) (by decide) ?_
 refine o_virtual K X32   (w75 hw) (w76 hw) (oNF (w78 hw)) (w78 hw) (w77 hw) (w4 hw) (w79 hw) (by decide) m26 (rm_char6 l Z a0 hw a va k c0 c1 c2 c3 c4 c5 c6 fm cs h25 m26 m27 m28 m29 q15 q17 q18 q19 q20) all0 (by decide) rfl (argsL := [.int 6]) rfl (lenOf pd27 rfl) (W := 0) rfl (by decide) (by decide) (by decide) d42_61 rfl ?_
 intro v33 T33 h33 FX33 U33
 obtain ⟨rfl, rfl, u33_1⟩ := U33
 have X33 := FX33 [] (Or.inl rfl) all0
 show oGoes pp ee bb ss Z T33 (mkF mm 64 _ [.int c6]) _ _ _ _
 refine o_bipush K X33 d42_64 rfl (z := 34) rfl ?_
 refine o_icmp_ne_t K X33 d42_66 (by decide) (pc' := 82) (by decide) q9 ?_
 refine tl_rd2 l Z a0 hw a 0 b1 5 c5 6 r_2 k_2 (nar .byte (34 : Int32)) (nar .byte (34 : Int32)) cs h25 u25_1 u25_2 u25_3 u25_4 u25_5 q19 q20 (by decide) (fun v34 h34 U34 => ?_) K (X33.mono (by decide) (by decide) (by decide) all0)
 obtain ⟨r_34, qt_34, s_34, sv_34, ks_34, rfl, u34_0, u34_1, u34_2, u34_3, u34_4, u34_5, u34_6, u34_7, u34_8, u34_9, u34_10, u34_11⟩ := U34
 have G34_r : Z.heap.size ≤ r_34 := Nat.le_trans X33.ext0.1 u34_1
 have G34_s : Z.heap.size ≤ s_34 := Nat.le_trans X33.ext0.1 u34_7
 have y0_4 := Nat.le_trans (Nat.le_trans (Nat.le_trans E1.1 u2_0.1) u14_0.1) u25_0.1
 exact ⟨r_34, qt_34, s_34, sv_34, ks_34, rfl, ((((((Keep.refl h0 []).ext E1).trans u2_0 (allS (Or.inr (oLe g1)) all0)).trans u14_0 (allS (Or.inr (oLe g1)) (allS (Or.inr (Nat.le_trans E1.1 u2_1)) all0))).trans u25_0 (allS (Or.inr (oLe g1)) (allS (Or.inr (Nat.le_trans E1.1 u2_1)) all0))).trans u34_0 all0), (Nat.le_trans y0_4 u34_1), u34_2, u34_3, u34_4, u34_5, u34_6, (Nat.le_trans y0_4 u34_7), u34_8, u34_9, u34_10, u34_11⟩
theorem d43_0 : decode jdk_43_method_13_code 0 = .ok (.aload_n 0, 1) := by decide +kernel
theorem d43_1 : decode jdk_43_method_13_code 1 = .ok (.arraylength, 1) := by decide +kernel
theorem d43_2 : decode jdk_43_method_13_code 2 = .ok (.aload_n 1, 1) := by decide +kernel
theorem d43_3 : decode jdk_43_method_13_code 3 = .ok (.arraylength, 1) := by decide +kernel
theorem d43_4 : decode jdk_43_method_13_code 4 = .ok (.if_icmp .ne 30, 3) := by decide +kernel
theorem d43_7 : decode jdk_43_method_13_code 7 = .ok (.iconst 0, 1) := by decide +kernel
theorem d43_8 : decode jdk_43_method_13_code 8 = .ok (.istore_n 2, 1) := by decide +kernel
theorem d43_9 : decode jdk_43_method_13_code 9 = .ok (.iload_n 2, 1) := by decide +kernel
theorem d43_10 : decode jdk_43_method_13_code 10 = .ok (.aload_n 0, 1) := by decide +kernel
theorem d43_11 : decode jdk_43_method_13_code 11 = .ok (.arraylength, 1) := by decide +kernel
theorem d43_12 : decode jdk_43_method_13_code 12 = .ok (.if_icmp .ge 20, 3) := by decide +kernel
theorem d43_32 : decode jdk_43_method_13_code 32 = .ok (.iconst 1, 1) := by decide +kernel
theorem d43_33 : decode jdk_43_method_13_code 33 = .ok (.ireturn, 1) := by decide +kernel
def r_lateq0 : Room := { frames := 0, cells := 0, slots := 0, locals := 0 }
def Q_lateq0 (Z : State) (a b : Addr) (ka kb : ClassId) (h0 : Heap) (v : Option Value) (h : Heap) : Prop := v = some (.int 1) ∧ h0 = h
theorem rm_lateq0 (l : Launch) (Z : State) (a0 : Array Value) (hw : oHw Z a0) (a b : Addr) (ka kb : ClassId) (h0 : Heap) (q0 : oArr Z h0 a ka .byte []) (q1 : oArr Z h0 b kb .byte []) : oMet l Z (⟨z9, "equals", "([B[B)Z"⟩ : MethodName) jdk_43_method_13_code 3 (some .boolean) r_lateq0 [] #[.ref a, .ref b] h0 (Q_lateq0 Z a b ka kb h0) [] false := by
 refine oEnter (oEW hw) (plainFor_of_name (by first | (simp [plainName, overriddenIn]; done) | decide +kernel)) (own := z9) (nm := "equals") rfl rfl (L := #[.val (.ref a), .val (.ref b), .unset]) (fun m => by first | (simp [entryFrame, mkF, argsToLocals, Value.category]; done) | rfl) ?_
 intro pp ee ss mm bb mtd cc T0 K X0
 have E0 := X0.ext0
 refine o_aloadN K X0 d43_0 rfl rfl rfl ?_
 refine o_arraylength K X0 q0 (z := 0) rfl d43_1 rfl ?_
 refine o_aloadN K X0 d43_2 rfl rfl rfl ?_
 refine o_arraylength K X0 q1 (z := 0) rfl d43_3 rfl ?_
 refine o_icmp_ne_f K X0 d43_4 rfl (by decide) ?_
 refine o_iconst K X0 d43_7 rfl (z := 0) rfl ?_
 refine o_istoreN K X0 d43_8 rfl (L' := #[vR a, vR b, vI 0]) rfl ?_
 refine o_iloadN K X0 d43_9 rfl rfl ?_
 refine o_aloadN K X0 d43_10 rfl rfl rfl ?_
 refine o_arraylength K X0 q0 (z := 0) rfl d43_11 rfl ?_
 refine o_icmp_ge_t K X0 d43_12 (by decide) (pc' := 32) (by decide) (by decide) ?_
 refine o_iconst K X0 d43_32 rfl (z := 1) rfl ?_
 refine o_ireturnN K X0 .boolean d43_33 rfl (by simp) (z' := 1) (by decide) ?_ (by decide) (by decide) (by decide)
 exact ⟨rfl, rfl⟩
theorem d44_0 : decode jdk_42_method_66_code 0 = .ok (.aload_n 0, 1) := by decide +kernel
theorem d44_1 : decode jdk_42_method_66_code 1 = .ok (.aload_n 1, 1) := by decide +kernel
theorem d44_2 : decode jdk_42_method_66_code 2 = .ok (.if_acmp .ne 5, 3) := by decide +kernel
theorem d44_7 : decode jdk_42_method_66_code 7 = .ok (.aload_n 1, 1) := by decide +kernel
theorem d44_8 : decode jdk_42_method_66_code 8 = .ok (.instanceof 10, 3) := by decide +kernel
theorem d44_11 : decode jdk_42_method_66_code 11 = .ok (.ifCond .eq 43, 3) := by decide +kernel
theorem d44_14 : decode jdk_42_method_66_code 14 = .ok (.aload_n 1, 1) := by decide +kernel
theorem d44_15 : decode jdk_42_method_66_code 15 = .ok (.checkcast 10, 3) := by decide +kernel
theorem d44_18 : decode jdk_42_method_66_code 18 = .ok (.astore_n 2, 1) := by decide +kernel
theorem d44_19 : decode jdk_42_method_66_code 19 = .ok (.getstatic 38, 3) := by decide +kernel
theorem d44_22 : decode jdk_42_method_66_code 22 = .ok (.ifCond .eq 14, 3) := by decide +kernel
theorem d44_25 : decode jdk_42_method_66_code 25 = .ok (.aload_n 0, 1) := by decide +kernel
theorem d44_26 : decode jdk_42_method_66_code 26 = .ok (.getfield 15, 3) := by decide +kernel
theorem d44_29 : decode jdk_42_method_66_code 29 = .ok (.aload_n 2, 1) := by decide +kernel
theorem d44_30 : decode jdk_42_method_66_code 30 = .ok (.getfield 15, 3) := by decide +kernel
theorem d44_33 : decode jdk_42_method_66_code 33 = .ok (.if_icmp .ne 21, 3) := by decide +kernel
theorem d44_36 : decode jdk_42_method_66_code 36 = .ok (.aload_n 0, 1) := by decide +kernel
theorem d44_37 : decode jdk_42_method_66_code 37 = .ok (.getfield 9, 3) := by decide +kernel
theorem d44_40 : decode jdk_42_method_66_code 40 = .ok (.aload_n 2, 1) := by decide +kernel
theorem d44_41 : decode jdk_42_method_66_code 41 = .ok (.getfield 9, 3) := by decide +kernel
theorem d44_44 : decode jdk_42_method_66_code 44 = .ok (.invokestatic 541, 3) := by decide +kernel
theorem d44_47 : decode jdk_42_method_66_code 47 = .ok (.ifCond .eq 7, 3) := by decide +kernel
theorem d44_50 : decode jdk_42_method_66_code 50 = .ok (.iconst 1, 1) := by decide +kernel
theorem d44_51 : decode jdk_42_method_66_code 51 = .ok (.goto 4, 3) := by decide +kernel
theorem d44_55 : decode jdk_42_method_66_code 55 = .ok (.ireturn, 1) := by decide +kernel
theorem pd29 : parseMethodDescriptor "([B[B)Z" = some ⟨[(.array .byte), (.array .byte)], some .boolean⟩ := by decide +kernel
def r_streq0 : Room := { frames := 1, cells := 0, slots := 0, locals := 14 }
def Q_streq0 (Z : State) (a o va vo : Addr) (ka ko : ClassId) (cs : Int32) (h0 : Heap) (v : Option Value) (h : Heap) : Prop := v = some (.int 1) ∧ h0 = h
theorem rm_streq0 (l : Launch) (Z : State) (a0 : Array Value) (hw : oHw Z a0) (a o va vo : Addr) (ka ko : ClassId) (cs : Int32) (h0 : Heap) (q0 : Exa Z h0 a z0) (q1 : Fld Z h0 a z0 "value" "[B" (.ref va)) (q2 : Fld Z h0 a z0 "coder" "B" (.int 0)) (q3 : oArr Z h0 va ka .byte []) (q4 : Exa Z h0 o z0) (q5 : Fld Z h0 o z0 "value" "[B" (.ref vo)) (q6 : Fld Z h0 o z0 "coder" "B" (.int 0)) (q7 : oArr Z h0 vo ko .byte []) (q8 : a ≠ o) (q9 : Sta Z Z.heap z0 z5 "Z" (.int cs)) (q10 : ¬ (cs = (0 : Int32))) : oMet l Z (⟨z0, "equals", "(Ljava/lang/Object;)Z"⟩ : MethodName) jdk_42_method_66_code 3 (some .boolean) r_streq0 [] #[.ref a, .ref o] h0 (Q_streq0 Z a o va vo ka ko cs h0) [] false := by
 refine oEnter (oEW hw) (plainFor_of_name (by first | (simp [plainName, overriddenIn]; done) | decide +kernel)) (own := z0) (nm := "equals") rfl rfl (L := #[.val (.ref a), .val (.ref o), .unset]) (fun m => by first | (simp [entryFrame, mkF, argsToLocals, Value.category]; done) | rfl) ?_
 intro pp ee ss mm bb mtd cc T0 K X0
 have E0 := X0.ext0
 refine o_aloadN K X0 d44_0 rfl rfl rfl ?_
 refine o_aloadN K X0 d44_1 rfl rfl rfl ?_
 refine o_acmp K X0 false d44_2 (by decide) rfl rfl (decide_eq_false fun q => q8 (Value.ref.inj q)) (pc' := 7) (by decide) ?_
 refine o_aloadN K X0 d44_7 rfl rfl rfl ?_
 refine o_instanceof K X0 (w199 hw) (Ins.self q4) d44_8 rfl ?_
 intro T1 X1
 refine o_if_eq_f K X1 d44_11 rfl (by decide) ?_
 refine o_aloadN K X1 d44_14 rfl rfl rfl ?_
 refine o_checkcast K X1 (w199 hw) (Ins.self q4) d44_15 rfl ?_
 intro T2 X2
 refine o_astoreN K X2 d44_18 rfl rfl (L' := #[vR a, vR o, vR o]) rfl ?_
 refine o_getstatic K X2 (host := "") (Or.inl (w15 hw)) Via.refl (q9.ext X2.ext0) d44_19 rfl ?_
 intro T3 X3
 refine o_if_eq_f K X3 d44_22 rfl q10 ?_
 refine o_aloadN K X3 d44_25 rfl rfl rfl ?_
 refine o_getfield K X3 (host := "") (Or.inl (w27 hw)) Via.refl q2 d44_26 rfl ?_
 intro T4 X4
 refine o_aloadN K X4 d44_29 rfl rfl rfl ?_
 refine o_getfield K X4 (host := "") (Or.inl (w27 hw)) Via.refl q6 d44_30 rfl ?_
 intro T5 X5
 refine o_icmp_ne_f K X5 d44_33 rfl (by decide) ?_
 refine o_aloadN K X5 d44_36 rfl rfl rfl ?_
 refine o_getfield K X5 (host := "") (Or.inl (w29 hw)) Via.refl q1 d44_37 rfl ?_
 intro T6 X6
 refine o_aloadN K X6 d44_40 rfl rfl rfl ?_
 refine o_getfield K X6 (host := "") (Or.inl (w29 hw)) Via.refl q5 d44_41 rfl ?_
 intro T7 X7
 refine o_static K X7  (w223 hw) (w224 hw) (w87 hw) (w225 hw) (by decide) (rm_lateq0 l Z a0 hw va vo ka ko h0 q3 q7) all0 (by decide) rfl (argsL := [.ref va, .ref vo]) rfl (lenOf pd29 rfl) (W := 0) rfl (by decide) (by decide) (by decide) d44_44 rfl ?_
 intro v8 T8 h8 FX8 U8
 obtain ⟨rfl, rfl⟩ := U8
 have X8 := FX8 [] (Or.inl rfl) all0
 show oGoes pp ee bb ss Z T8 (mkF mm 47 _ [.int 1]) _ _ _ _
 refine o_if_eq_f K X8 d44_47 rfl (by decide) ?_
 refine o_iconst K X8 d44_50 rfl (z := 1) rfl ?_
 refine o_goto K X8 d44_51 (by decide) (pc' := 55) (by decide) ?_
 refine o_ireturnN K X8 .boolean d44_55 rfl (by simp) (z' := 1) (by decide) ?_ (by decide) (by decide) (by decide)
 exact ⟨rfl, rfl⟩
theorem d43_15 : decode jdk_43_method_13_code 15 = .ok (.aload_n 0, 1) := by decide +kernel
theorem d43_16 : decode jdk_43_method_13_code 16 = .ok (.iload_n 2, 1) := by decide +kernel
theorem d43_17 : decode jdk_43_method_13_code 17 = .ok (.baload, 1) := by decide +kernel
theorem d43_18 : decode jdk_43_method_13_code 18 = .ok (.aload_n 1, 1) := by decide +kernel
theorem d43_19 : decode jdk_43_method_13_code 19 = .ok (.iload_n 2, 1) := by decide +kernel
theorem d43_20 : decode jdk_43_method_13_code 20 = .ok (.baload, 1) := by decide +kernel
theorem d43_21 : decode jdk_43_method_13_code 21 = .ok (.if_icmp .eq 5, 3) := by decide +kernel
theorem d43_26 : decode jdk_43_method_13_code 26 = .ok (.iinc 2 1, 3) := by decide +kernel
theorem d43_29 : decode jdk_43_method_13_code 29 = .ok (.goto (-20), 3) := by decide +kernel
def r_lateq1 : Room := { frames := 0, cells := 0, slots := 0, locals := 0 }
def Q_lateq1 (Z : State) (a b : Addr) (ka kb : ClassId) (e0 f0 : Int32) (h0 : Heap) (v : Option Value) (h : Heap) : Prop := v = some (.int 1) ∧ h0 = h
theorem rm_lateq1 (l : Launch) (Z : State) (a0 : Array Value) (hw : oHw Z a0) (a b : Addr) (ka kb : ClassId) (e0 f0 : Int32) (h0 : Heap) (q0 : oArr Z h0 a ka .byte [.int e0]) (q1 : oArr Z h0 b kb .byte [.int f0]) (q2 : e0 = f0) : oMet l Z (⟨z9, "equals", "([B[B)Z"⟩ : MethodName) jdk_43_method_13_code 3 (some .boolean) r_lateq1 [] #[.ref a, .ref b] h0 (Q_lateq1 Z a b ka kb e0 f0 h0) [] false := by
 refine oEnter (oEW hw) (plainFor_of_name (by first | (simp [plainName, overriddenIn]; done) | decide +kernel)) (own := z9) (nm := "equals") rfl rfl (L := #[.val (.ref a), .val (.ref b), .unset]) (fun m => by first | (simp [entryFrame, mkF, argsToLocals, Value.category]; done) | rfl) ?_
 intro pp ee ss mm bb mtd cc T0 K X0
 have E0 := X0.ext0
 refine o_aloadN K X0 d43_0 rfl rfl rfl ?_
 refine o_arraylength K X0 q0 (z := 1) rfl d43_1 rfl ?_
 refine o_aloadN K X0 d43_2 rfl rfl rfl ?_
 refine o_arraylength K X0 q1 (z := 1) rfl d43_3 rfl ?_
 refine o_icmp_ne_f K X0 d43_4 rfl (by decide) ?_
 refine o_iconst K X0 d43_7 rfl (z := 0) rfl ?_
 refine o_istoreN K X0 d43_8 rfl (L' := #[vR a, vR b, vI 0]) rfl ?_
 refine o_iloadN K X0 d43_9 rfl rfl ?_
 refine o_aloadN K X0 d43_10 rfl rfl rfl ?_
 refine o_arraylength K X0 q0 (z := 1) rfl d43_11 rfl ?_
 refine o_icmp_ge_f K X0 d43_12 rfl (by decide) ?_
 refine o_aloadN K X0 d43_15 rfl rfl rfl ?_
 refine o_iloadN K X0 d43_16 rfl rfl ?_
 refine o_baload K X0 q0 (by decide) (v := (.int e0)) rfl d43_17 rfl ?_
 refine o_aloadN K X0 d43_18 rfl rfl rfl ?_
 refine o_iloadN K X0 d43_19 rfl rfl ?_
 refine o_baload K X0 q1 (by decide) (v := (.int f0)) rfl d43_20 rfl ?_
 refine o_icmp_eq_t K X0 d43_21 (by decide) (pc' := 26) (by decide) q2 ?_
 refine o_iinc K X0 d43_26 rfl rfl (L' := #[vR a, vR b, vI 1]) (by rw [show (0 : Int32) + Int32.ofInt 1 = (1 : Int32) from (by decide)]; rfl) ?_
 refine o_goto K X0 d43_29 (by decide) (pc' := 9) (by decide) ?_
 refine o_iloadN K X0 d43_9 rfl rfl ?_
 refine o_aloadN K X0 d43_10 rfl rfl rfl ?_
 refine o_arraylength K X0 q0 (z := 1) rfl d43_11 rfl ?_
 refine o_icmp_ge_t K X0 d43_12 (by decide) (pc' := 32) (by decide) (by decide) ?_
 refine o_iconst K X0 d43_32 rfl (z := 1) rfl ?_
 refine o_ireturnN K X0 .boolean d43_33 rfl (by simp) (z' := 1) (by decide) ?_ (by decide) (by decide) (by decide)
 exact ⟨rfl, rfl⟩
def r_streq1 : Room := { frames := 1, cells := 0, slots := 0, locals := 14 }
def Q_streq1 (Z : State) (a o va vo : Addr) (ka ko : ClassId) (e0 f0 cs : Int32) (h0 : Heap) (v : Option Value) (h : Heap) : Prop := v = some (.int 1) ∧ h0 = h
theorem rm_streq1 (l : Launch) (Z : State) (a0 : Array Value) (hw : oHw Z a0) (a o va vo : Addr) (ka ko : ClassId) (e0 f0 cs : Int32) (h0 : Heap) (q0 : Exa Z h0 a z0) (q1 : Fld Z h0 a z0 "value" "[B" (.ref va)) (q2 : Fld Z h0 a z0 "coder" "B" (.int 0)) (q3 : oArr Z h0 va ka .byte [.int e0]) (q4 : Exa Z h0 o z0) (q5 : Fld Z h0 o z0 "value" "[B" (.ref vo)) (q6 : Fld Z h0 o z0 "coder" "B" (.int 0)) (q7 : oArr Z h0 vo ko .byte [.int f0]) (q8 : a ≠ o) (q9 : e0 = f0) (q10 : Sta Z Z.heap z0 z5 "Z" (.int cs)) (q11 : ¬ (cs = (0 : Int32))) : oMet l Z (⟨z0, "equals", "(Ljava/lang/Object;)Z"⟩ : MethodName) jdk_42_method_66_code 3 (some .boolean) r_streq1 [] #[.ref a, .ref o] h0 (Q_streq1 Z a o va vo ka ko e0 f0 cs h0) [] false := by
 refine oEnter (oEW hw) (plainFor_of_name (by first | (simp [plainName, overriddenIn]; done) | decide +kernel)) (own := z0) (nm := "equals") rfl rfl (L := #[.val (.ref a), .val (.ref o), .unset]) (fun m => by first | (simp [entryFrame, mkF, argsToLocals, Value.category]; done) | rfl) ?_
 intro pp ee ss mm bb mtd cc T0 K X0
 have E0 := X0.ext0
 refine o_aloadN K X0 d44_0 rfl rfl rfl ?_
 refine o_aloadN K X0 d44_1 rfl rfl rfl ?_
 refine o_acmp K X0 false d44_2 (by decide) rfl rfl (decide_eq_false fun q => q8 (Value.ref.inj q)) (pc' := 7) (by decide) ?_
 refine o_aloadN K X0 d44_7 rfl rfl rfl ?_
 refine o_instanceof K X0 (w199 hw) (Ins.self q4) d44_8 rfl ?_
 intro T1 X1
 refine o_if_eq_f K X1 d44_11 rfl (by decide) ?_
 refine o_aloadN K X1 d44_14 rfl rfl rfl ?_
 refine o_checkcast K X1 (w199 hw) (Ins.self q4) d44_15 rfl ?_
 intro T2 X2
 refine o_astoreN K X2 d44_18 rfl rfl (L' := #[vR a, vR o, vR o]) rfl ?_
 refine o_getstatic K X2 (host := "") (Or.inl (w15 hw)) Via.refl (q10.ext X2.ext0) d44_19 rfl ?_
 intro T3 X3
 refine o_if_eq_f K X3 d44_22 rfl q11 ?_
 refine o_aloadN K X3 d44_25 rfl rfl rfl ?_
 refine o_getfield K X3 (host := "") (Or.inl (w27 hw)) Via.refl q2 d44_26 rfl ?_
 intro T4 X4
 refine o_aloadN K X4 d44_29 rfl rfl rfl ?_
 refine o_getfield K X4 (host := "") (Or.inl (w27 hw)) Via.refl q6 d44_30 rfl ?_
 intro T5 X5
 refine o_icmp_ne_f K X5 d44_33 rfl (by decide) ?_
 refine o_aloadN K X5 d44_36 rfl rfl rfl ?_
 refine o_getfield K X5 (host := "") (Or.inl (w29 hw)) Via.refl q1 d44_37 rfl ?_
 intro T6 X6
 refine o_aloadN K X6 d44_40 rfl rfl rfl ?_
 refine o_getfield K X6 (host := "") (Or.inl (w29 hw)) Via.refl q5 d44_41 rfl ?_
 intro T7 X7
 refine o_static K X7  (w223 hw) (w224 hw) (w87 hw) (w225 hw) (by decide) (rm_lateq1 l Z a0 hw va vo ka ko e0 f0 h0 q3 q7 q9) all0 (by decide) rfl (argsL := [.ref va, .ref vo]) rfl (lenOf pd29 rfl) (W := 0) rfl (by decide) (by decide) (by decide) d44_44 rfl ?_
 intro v8 T8 h8 FX8 U8
 obtain ⟨rfl, rfl⟩ := U8
 have X8 := FX8 [] (Or.inl rfl) all0
 show oGoes pp ee bb ss Z T8 (mkF mm 47 _ [.int 1]) _ _ _ _
 refine o_if_eq_f K X8 d44_47 rfl (by decide) ?_
 refine o_iconst K X8 d44_50 rfl (z := 1) rfl ?_
 refine o_goto K X8 d44_51 (by decide) (pc' := 55) (by decide) ?_
 refine o_ireturnN K X8 .boolean d44_55 rfl (by simp) (z' := 1) (by decide) ?_ (by decide) (by decide) (by decide)
 exact ⟨rfl, rfl⟩
def r_lateq2 : Room := { frames := 0, cells := 0, slots := 0, locals := 0 }
def Q_lateq2 (Z : State) (a b : Addr) (ka kb : ClassId) (e0 e1 f0 f1 : Int32) (h0 : Heap) (v : Option Value) (h : Heap) : Prop := v = some (.int 1) ∧ h0 = h
theorem rm_lateq2 (l : Launch) (Z : State) (a0 : Array Value) (hw : oHw Z a0) (a b : Addr) (ka kb : ClassId) (e0 e1 f0 f1 : Int32) (h0 : Heap) (q0 : oArr Z h0 a ka .byte [.int e0, .int e1]) (q1 : oArr Z h0 b kb .byte [.int f0, .int f1]) (q2 : e0 = f0) (q3 : e1 = f1) : oMet l Z (⟨z9, "equals", "([B[B)Z"⟩ : MethodName) jdk_43_method_13_code 3 (some .boolean) r_lateq2 [] #[.ref a, .ref b] h0 (Q_lateq2 Z a b ka kb e0 e1 f0 f1 h0) [] false := by
 refine oEnter (oEW hw) (plainFor_of_name (by first | (simp [plainName, overriddenIn]; done) | decide +kernel)) (own := z9) (nm := "equals") rfl rfl (L := #[.val (.ref a), .val (.ref b), .unset]) (fun m => by first | (simp [entryFrame, mkF, argsToLocals, Value.category]; done) | rfl) ?_
 intro pp ee ss mm bb mtd cc T0 K X0
 have E0 := X0.ext0
 refine o_aloadN K X0 d43_0 rfl rfl rfl ?_
 refine o_arraylength K X0 q0 (z := 2) rfl d43_1 rfl ?_
 refine o_aloadN K X0 d43_2 rfl rfl rfl ?_
 refine o_arraylength K X0 q1 (z := 2) rfl d43_3 rfl ?_
 refine o_icmp_ne_f K X0 d43_4 rfl (by decide) ?_
 refine o_iconst K X0 d43_7 rfl (z := 0) rfl ?_
 refine o_istoreN K X0 d43_8 rfl (L' := #[vR a, vR b, vI 0]) rfl ?_
 refine o_iloadN K X0 d43_9 rfl rfl ?_
 refine o_aloadN K X0 d43_10 rfl rfl rfl ?_
 refine o_arraylength K X0 q0 (z := 2) rfl d43_11 rfl ?_
 refine o_icmp_ge_f K X0 d43_12 rfl (by decide) ?_
 refine o_aloadN K X0 d43_15 rfl rfl rfl ?_
 refine o_iloadN K X0 d43_16 rfl rfl ?_
 refine o_baload K X0 q0 (by decide) (v := (.int e0)) rfl d43_17 rfl ?_
 refine o_aloadN K X0 d43_18 rfl rfl rfl ?_
 refine o_iloadN K X0 d43_19 rfl rfl ?_
 refine o_baload K X0 q1 (by decide) (v := (.int f0)) rfl d43_20 rfl ?_
 refine o_icmp_eq_t K X0 d43_21 (by decide) (pc' := 26) (by decide) q2 ?_
 refine o_iinc K X0 d43_26 rfl rfl (L' := #[vR a, vR b, vI 1]) (by rw [show (0 : Int32) + Int32.ofInt 1 = (1 : Int32) from (by decide)]; rfl) ?_
 refine o_goto K X0 d43_29 (by decide) (pc' := 9) (by decide) ?_
 refine o_iloadN K X0 d43_9 rfl rfl ?_
 refine o_aloadN K X0 d43_10 rfl rfl rfl ?_
 refine o_arraylength K X0 q0 (z := 2) rfl d43_11 rfl ?_
 refine o_icmp_ge_f K X0 d43_12 rfl (by decide) ?_
 refine o_aloadN K X0 d43_15 rfl rfl rfl ?_
 refine o_iloadN K X0 d43_16 rfl rfl ?_
 refine o_baload K X0 q0 (by decide) (v := (.int e1)) rfl d43_17 rfl ?_
 refine o_aloadN K X0 d43_18 rfl rfl rfl ?_
 refine o_iloadN K X0 d43_19 rfl rfl ?_
 refine o_baload K X0 q1 (by decide) (v := (.int f1)) rfl d43_20 rfl ?_
 refine o_icmp_eq_t K X0 d43_21 (by decide) (pc' := 26) (by decide) q3 ?_
 refine o_iinc K X0 d43_26 rfl rfl (L' := #[vR a, vR b, vI 2]) (by rw [show (1 : Int32) + Int32.ofInt 1 = (2 : Int32) from (by decide)]; rfl) ?_
 refine o_goto K X0 d43_29 (by decide) (pc' := 9) (by decide) ?_
 refine o_iloadN K X0 d43_9 rfl rfl ?_
 refine o_aloadN K X0 d43_10 rfl rfl rfl ?_
 refine o_arraylength K X0 q0 (z := 2) rfl d43_11 rfl ?_
 refine o_icmp_ge_t K X0 d43_12 (by decide) (pc' := 32) (by decide) (by decide) ?_
 refine o_iconst K X0 d43_32 rfl (z := 1) rfl ?_
 refine o_ireturnN K X0 .boolean d43_33 rfl (by simp) (z' := 1) (by decide) ?_ (by decide) (by decide) (by decide)
 exact ⟨rfl, rfl⟩
def r_streq2 : Room := { frames := 1, cells := 0, slots := 0, locals := 14 }
def Q_streq2 (Z : State) (a o va vo : Addr) (ka ko : ClassId) (e0 e1 f0 f1 cs : Int32) (h0 : Heap) (v : Option Value) (h : Heap) : Prop := v = some (.int 1) ∧ h0 = h
theorem rm_streq2 (l : Launch) (Z : State) (a0 : Array Value) (hw : oHw Z a0) (a o va vo : Addr) (ka ko : ClassId) (e0 e1 f0 f1 cs : Int32) (h0 : Heap) (q0 : Exa Z h0 a z0) (q1 : Fld Z h0 a z0 "value" "[B" (.ref va)) (q2 : Fld Z h0 a z0 "coder" "B" (.int 0)) (q3 : oArr Z h0 va ka .byte [.int e0, .int e1]) (q4 : Exa Z h0 o z0) (q5 : Fld Z h0 o z0 "value" "[B" (.ref vo)) (q6 : Fld Z h0 o z0 "coder" "B" (.int 0)) (q7 : oArr Z h0 vo ko .byte [.int f0, .int f1]) (q8 : a ≠ o) (q9 : e0 = f0) (q10 : e1 = f1) (q11 : Sta Z Z.heap z0 z5 "Z" (.int cs)) (q12 : ¬ (cs = (0 : Int32))) : oMet l Z (⟨z0, "equals", "(Ljava/lang/Object;)Z"⟩ : MethodName) jdk_42_method_66_code 3 (some .boolean) r_streq2 [] #[.ref a, .ref o] h0 (Q_streq2 Z a o va vo ka ko e0 e1 f0 f1 cs h0) [] false := by
 refine oEnter (oEW hw) (plainFor_of_name (by first | (simp [plainName, overriddenIn]; done) | decide +kernel)) (own := z0) (nm := "equals") rfl rfl (L := #[.val (.ref a), .val (.ref o), .unset]) (fun m => by first | (simp [entryFrame, mkF, argsToLocals, Value.category]; done) | rfl) ?_
 intro pp ee ss mm bb mtd cc T0 K X0
 have E0 := X0.ext0
 refine o_aloadN K X0 d44_0 rfl rfl rfl ?_
 refine o_aloadN K X0 d44_1 rfl rfl rfl ?_
 refine o_acmp K X0 false d44_2 (by decide) rfl rfl (decide_eq_false fun q => q8 (Value.ref.inj q)) (pc' := 7) (by decide) ?_
 refine o_aloadN K X0 d44_7 rfl rfl rfl ?_
 refine o_instanceof K X0 (w199 hw) (Ins.self q4) d44_8 rfl ?_
 intro T1 X1
 refine o_if_eq_f K X1 d44_11 rfl (by decide) ?_
 refine o_aloadN K X1 d44_14 rfl rfl rfl ?_
 refine o_checkcast K X1 (w199 hw) (Ins.self q4) d44_15 rfl ?_
 intro T2 X2
 refine o_astoreN K X2 d44_18 rfl rfl (L' := #[vR a, vR o, vR o]) rfl ?_
 refine o_getstatic K X2 (host := "") (Or.inl (w15 hw)) Via.refl (q11.ext X2.ext0) d44_19 rfl ?_
 intro T3 X3
 refine o_if_eq_f K X3 d44_22 rfl q12 ?_
 refine o_aloadN K X3 d44_25 rfl rfl rfl ?_
 refine o_getfield K X3 (host := "") (Or.inl (w27 hw)) Via.refl q2 d44_26 rfl ?_
 intro T4 X4
 refine o_aloadN K X4 d44_29 rfl rfl rfl ?_
 refine o_getfield K X4 (host := "") (Or.inl (w27 hw)) Via.refl q6 d44_30 rfl ?_
 intro T5 X5
 refine o_icmp_ne_f K X5 d44_33 rfl (by decide) ?_
 refine o_aloadN K X5 d44_36 rfl rfl rfl ?_
 refine o_getfield K X5 (host := "") (Or.inl (w29 hw)) Via.refl q1 d44_37 rfl ?_
 intro T6 X6
 refine o_aloadN K X6 d44_40 rfl rfl rfl ?_
 refine o_getfield K X6 (host := "") (Or.inl (w29 hw)) Via.refl q5 d44_41 rfl ?_
 intro T7 X7
 refine o_static K X7  (w223 hw) (w224 hw) (w87 hw) (w225 hw) (by decide) (rm_lateq2 l Z a0 hw va vo ka ko e0 e1 f0 f1 h0 q3 q7 q9 q10) all0 (by decide) rfl (argsL := [.ref va, .ref vo]) rfl (lenOf pd29 rfl) (W := 0) rfl (by decide) (by decide) (by decide) d44_44 rfl ?_
 intro v8 T8 h8 FX8 U8
 obtain ⟨rfl, rfl⟩ := U8
 have X8 := FX8 [] (Or.inl rfl) all0
 show oGoes pp ee bb ss Z T8 (mkF mm 47 _ [.int 1]) _ _ _ _
 refine o_if_eq_f K X8 d44_47 rfl (by decide) ?_
 refine o_iconst K X8 d44_50 rfl (z := 1) rfl ?_
 refine o_goto K X8 d44_51 (by decide) (pc' := 55) (by decide) ?_
 refine o_ireturnN K X8 .boolean d44_55 rfl (by simp) (z' := 1) (by decide) ?_ (by decide) (by decide) (by decide)
 exact ⟨rfl, rfl⟩
theorem pd30 : parseMethodDescriptor "()Ljava/lang/Object;" = some ⟨[], some (.object "java/lang/Object")⟩ := by decide +kernel
theorem pd31 : parseMethodDescriptor "(Ljava/lang/Object;)Z" = some ⟨[(.object "java/lang/Object")], some .boolean⟩ := by decide +kernel
def Q_lw0 (Z : State) (i0 : Int64) (i1 i2 i3 i4 sv0 sv1 mode tc ww0 ww1 enc rest start pos : Int32) (b tx r qt s sv : Addr) (ks : ClassId) (e cs : Int32) (h0 : Heap) (v : Option Value) (h : Heap) : Prop := v = some (.int 1)
theorem tl_lw0 (l : Launch) (Z : State) (a0 : Array Value) (hw : oHw Z a0) (i0 : Int64) (i1 i2 i3 i4 sv0 sv1 mode tc ww0 ww1 enc rest start pos : Int32) (b tx r qt s sv : Addr) (ks : ClassId) (e cs : Int32) (h0 : Heap) (q0 : Exa Z h0 r z3) (q1 : Fld Z h0 r z3 "value" z11 (.ref qt)) (q2 : Exa Z h0 qt z2) (q3 : Fld Z h0 qt z2 "value" z13 (.ref s)) (q4 : Fld Z h0 qt z2 "end" "I" (.int e)) (q5 : Exa Z h0 s z0) (q6 : Fld Z h0 s z0 "value" "[B" (.ref sv)) (q7 : Fld Z h0 s z0 "coder" "B" (.int 0)) (q8 : oArr Z h0 sv ks .byte []) (q9 : ¬ (mode = (0 : Int32))) (q10 : e = (((start + (1 : Int32)) + enc) + (1 : Int32))) (q11 : Z.heap.size ≤ s) (q12 : Sta Z Z.heap z0 z5 "Z" (.int cs)) (q13 : ¬ (cs = (0 : Int32))) {Q : Option Value → Heap → Prop} (hQ : ∀ v h, Q_lw0 Z i0 i1 i2 i3 i4 sv0 sv1 mode tc ww0 ww1 enc rest start pos b tx r qt s sv ks e cs h0 v h → Q v h) {pp : Program} {ee : Env} {ss : State} {mm : MethodId} {bb : List Frame} {mtd : Method} {cc : Code} {A : Array Value} {T0 : State} (K : oCtx pp ss mm mtd cc Z z16 code maxLocals "law" ret x) (X0 : oSt pp l ee room_1 ss mm A bb mtd cc Z T0 h0 22 700 [s] false) : oGoes pp ee bb ss Z T0 (mkF mm 400 #[vJ i0, sS, vI i1, vI i2, vI i3, vI i4, vI 0, vI sv0, vI sv1, vI mode, vI tc, vI ww0, vI ww1, vI enc, vI rest, vI start, vR b, vI pos, vR tx, uS, uS, uS] [.ref r]) Q room_1.cells room_1.slots true := by
 have E0 := X0.ext0
 refine o_astore K X0 at_400 rfl rfl (L' := #[vJ i0, sS, vI i1, vI i2, vI i3, vI i4, vI 0, vI sv0, vI sv1, vI mode, vI tc, vI ww0, vI ww1, vI enc, vI rest, vI start, vR b, vI pos, vR tx, vR r, uS, uS]) rfl ?_
 refine o_iload K X0 at_402 rfl rfl ?_
 refine o_if_ne_t K X0 at_404 (by decide) (pc' := 421) (by decide) q9 ?_
 refine o_aload K X0 at_421 rfl rfl rfl ?_
 refine o_virtual K X0   (w68 hw) (w69 hw) (oNF (w71 hw)) (w71 hw) (w70 hw) (w65 hw) (w72 hw) (by decide) q0 (rm_optis l Z a0 hw r qt h0 q1) all0 (by decide) rfl (argsL := []) rfl (lenOf pd8 rfl) (W := 0) rfl (by decide) (by decide) (by decide) at_423 rfl ?_
 intro v1 T1 h1 FX1 U1
 obtain ⟨rfl, rfl⟩ := U1
 have X1 := FX1 [] (Or.inl rfl) all0
 show oGoes pp ee bb ss Z T1 (mkF mm 426 _ [.int 1]) _ _ _ _
 refine o_if_ne_t K X1 at_426 (by decide) (pc' := 431) (by decide) (by decide) ?_
 refine o_iload K X1 at_431 rfl rfl ?_
 refine o_if_ne_f K X1 at_433 rfl (by decide) ?_
 refine o_ldcR K X1 0 [] (oEW hw) (w231 hw) (oSA hw) me0 (by decide) (by decide) at_436 rfl (by decide) (by decide) (by decide) (by decide) ?_
 intro T2 h2 a2 b2 k2 X2 E2 B2 C2 V2 A2 N2
 refine o_goto K X2 at_438 (by decide) (pc' := 475) (by decide) ?_
 refine o_astore K X2 at_475 rfl rfl (L' := #[vJ i0, sS, vI i1, vI i2, vI i3, vI i4, vI 0, vI sv0, vI sv1, vI mode, vI tc, vI ww0, vI ww1, vI enc, vI rest, vI start, vR b, vI pos, vR tx, vR r, vR a2, uS]) rfl ?_
 refine o_aload K X2 at_477 rfl rfl rfl ?_
 have m3 := (q1.ext E2)
 have m4 := (q0.ext E2)
 refine o_virtual K X2   (w206 hw) (w207 hw) (oNF (w209 hw)) (w209 hw) (w208 hw) (w65 hw) (w210 hw) (by decide) m4 (rm_optget l Z a0 hw r qt h2 m3) all0 (by decide) rfl (argsL := []) rfl (lenOf pd30 rfl) (W := 0) rfl (by decide) (by decide) (by decide) at_479 rfl ?_
 intro v5 T5 h5 FX5 U5
 obtain ⟨rfl, rfl⟩ := U5
 have X5 := FX5 [] (Or.inl rfl) all0
 show oGoes pp ee bb ss Z T5 (mkF mm 482 _ [.ref qt]) _ _ _ _
 have m7 := (q2.ext E2)
 refine o_checkcast K X5 (w211 hw) (Ins.self m7) at_482 rfl ?_
 intro T6 X6
 refine o_astore K X6 at_485 rfl rfl (L' := #[vJ i0, sS, vI i1, vI i2, vI i3, vI i4, vI 0, vI sv0, vI sv1, vI mode, vI tc, vI ww0, vI ww1, vI enc, vI rest, vI start, vR b, vI pos, vR tx, vR r, vR a2, vR qt]) rfl ?_
 refine o_aload K X6 at_487 rfl rfl rfl ?_
 have m8 := (q3.ext E2)
 refine o_virtual K X6   (w213 hw) (w214 hw) (oNF (w216 hw)) (w216 hw) (w215 hw) (w33 hw) (w217 hw) (by decide) m7 (rm_qtval l Z a0 hw qt s h2 m8) all0 (by decide) rfl (argsL := []) rfl (lenOf pd23 rfl) (W := 0) rfl (by decide) (by decide) (by decide) at_489 rfl ?_
 intro v9 T9 h9 FX9 U9
 obtain ⟨rfl, rfl⟩ := U9
 have X9 := FX9 [] (Or.inl rfl) all0
 show oGoes pp ee bb ss Z T9 (mkF mm 492 _ [.ref s]) _ _ _ _
 refine o_aload K X9 at_492 rfl rfl rfl ?_
 have m10 := (q5.ext E2)
 have m11 := (q6.ext E2)
 have m12 := (q7.ext E2)
 have m13 := (q8.ext E2)
 refine o_virtual K X9   (w218 hw) (w219 hw) (oNF (w221 hw)) (w221 hw) (w220 hw) (w4 hw) (w222 hw) (by decide) m10 (rm_streq0 l Z a0 hw s a2 sv b2 ks k2 cs h2 m10 m11 m12 m13 B2 V2 C2 A2 (N2 _ me0).1 q12 q13) all0 (by decide) rfl (argsL := [.ref a2]) rfl (lenOf pd31 rfl) (W := 0) rfl (by decide) (by decide) (by decide) at_494 rfl ?_
 intro v14 T14 h14 FX14 U14
 obtain ⟨rfl, rfl⟩ := U14
 have X14 := FX14 [] (Or.inl rfl) all0
 show oGoes pp ee bb ss Z T14 (mkF mm 497 _ [.int 1]) _ _ _ _
 refine o_if_eq_f K X14 at_497 rfl (by decide) ?_
 refine o_aload K X14 at_500 rfl rfl rfl ?_
 have m15 := (q4.ext E2)
 refine o_virtual K X14   (w226 hw) (w227 hw) (oNF (w229 hw)) (w229 hw) (w228 hw) (w33 hw) (w230 hw) (by decide) m7 (rm_qtend l Z a0 hw qt e h2 m15) all0 (by decide) rfl (argsL := []) rfl (lenOf pd10 rfl) (W := 0) rfl (by decide) (by decide) (by decide) at_502 rfl ?_
 intro v16 T16 h16 FX16 U16
 obtain ⟨rfl, rfl⟩ := U16
 have X16 := FX16 [] (Or.inl rfl) all0
 show oGoes pp ee bb ss Z T16 (mkF mm 505 _ [.int e]) _ _ _ _
 refine o_iload K X16 at_505 rfl rfl ?_
 refine o_iconst K X16 at_507 rfl (z := 1) rfl ?_
 refine o_iadd K X16 at_508 rfl (z := (start + (1 : Int32))) rfl ?_
 refine o_iload K X16 at_509 rfl rfl ?_
 refine o_iadd K X16 at_511 rfl (z := ((start + (1 : Int32)) + enc)) rfl ?_
 refine o_iconst K X16 at_512 rfl (z := 1) rfl ?_
 refine o_iadd K X16 at_513 rfl (z := (((start + (1 : Int32)) + enc) + (1 : Int32))) rfl ?_
 refine o_icmp_ne_f K X16 at_514 rfl q10 ?_
 refine o_iconst K X16 at_517 rfl (z := 1) rfl ?_
 refine o_goto K X16 at_518 (by decide) (pc' := 522) (by decide) ?_
 refine o_ireturnN K X16 .boolean at_522 rfl (by simp) (z' := 1) (by decide) ?_ (by decide) (by decide) (by decide)
 exact hQ _ _ rfl
theorem pd32 : parseMethodDescriptor "(C)Ljava/lang/String;" = some ⟨[.char], some (.object z0)⟩ := by decide +kernel
def Q_lw1 (Z : State) (i0 : Int64) (i1 i2 i3 i4 sv0 sv1 mode tc ww0 ww1 enc rest start pos : Int32) (b tx r qt s sv : Addr) (ks : ClassId) (e x0 cs : Int32) (h0 : Heap) (v : Option Value) (h : Heap) : Prop := v = some (.int 1)
theorem tl_lw1 (l : Launch) (Z : State) (a0 : Array Value) (hw : oHw Z a0) (i0 : Int64) (i1 i2 i3 i4 sv0 sv1 mode tc ww0 ww1 enc rest start pos : Int32) (b tx r qt s sv : Addr) (ks : ClassId) (e x0 cs : Int32) (h0 : Heap) (q0 : Exa Z h0 r z3) (q1 : Fld Z h0 r z3 "value" z11 (.ref qt)) (q2 : Exa Z h0 qt z2) (q3 : Fld Z h0 qt z2 "value" z13 (.ref s)) (q4 : Fld Z h0 qt z2 "end" "I" (.int e)) (q5 : Exa Z h0 s z0) (q6 : Fld Z h0 s z0 "value" "[B" (.ref sv)) (q7 : Fld Z h0 s z0 "coder" "B" (.int 0)) (q8 : oArr Z h0 sv ks .byte [(.int (nar .byte x0))]) (q9 : ¬ (mode = (0 : Int32))) (q10 : e = (((start + (1 : Int32)) + enc) + (1 : Int32))) (q11 : x0 = sv0) (q12 : oCh sv0) (q13 : nar .char sv0 = sv0) (q14 : Z.heap.size ≤ s) (q15 : Sta Z Z.heap z0 z5 "Z" (.int cs)) (q16 : ¬ (cs = (0 : Int32))) {Q : Option Value → Heap → Prop} (hQ : ∀ v h, Q_lw1 Z i0 i1 i2 i3 i4 sv0 sv1 mode tc ww0 ww1 enc rest start pos b tx r qt s sv ks e x0 cs h0 v h → Q v h) {pp : Program} {ee : Env} {ss : State} {mm : MethodId} {bb : List Frame} {mtd : Method} {cc : Code} {A : Array Value} {T0 : State} (K : oCtx pp ss mm mtd cc Z z16 code maxLocals "law" ret x) (X0 : oSt pp l ee room_1 ss mm A bb mtd cc Z T0 h0 22 700 [s] false) : oGoes pp ee bb ss Z T0 (mkF mm 400 #[vJ i0, sS, vI i1, vI i2, vI i3, vI i4, vI 1, vI sv0, vI sv1, vI mode, vI tc, vI ww0, vI ww1, vI enc, vI rest, vI start, vR b, vI pos, vR tx, uS, uS, uS] [.ref r]) Q room_1.cells room_1.slots true := by
 have E0 := X0.ext0
 refine o_astore K X0 at_400 rfl rfl (L' := #[vJ i0, sS, vI i1, vI i2, vI i3, vI i4, vI 1, vI sv0, vI sv1, vI mode, vI tc, vI ww0, vI ww1, vI enc, vI rest, vI start, vR b, vI pos, vR tx, vR r, uS, uS]) rfl ?_
 refine o_iload K X0 at_402 rfl rfl ?_
 refine o_if_ne_t K X0 at_404 (by decide) (pc' := 421) (by decide) q9 ?_
 refine o_aload K X0 at_421 rfl rfl rfl ?_
 refine o_virtual K X0   (w68 hw) (w69 hw) (oNF (w71 hw)) (w71 hw) (w70 hw) (w65 hw) (w72 hw) (by decide) q0 (rm_optis l Z a0 hw r qt h0 q1) all0 (by decide) rfl (argsL := []) rfl (lenOf pd8 rfl) (W := 0) rfl (by decide) (by decide) (by decide) at_423 rfl ?_
 intro v1 T1 h1 FX1 U1
 obtain ⟨rfl, rfl⟩ := U1
 have X1 := FX1 [] (Or.inl rfl) all0
 show oGoes pp ee bb ss Z T1 (mkF mm 426 _ [.int 1]) _ _ _ _
 refine o_if_ne_t K X1 at_426 (by decide) (pc' := 431) (by decide) (by decide) ?_
 refine o_iload K X1 at_431 rfl rfl ?_
 refine o_if_ne_t K X1 at_433 (by decide) (pc' := 441) (by decide) (by decide) ?_
 refine o_iload K X1 at_441 rfl rfl ?_
 refine o_iconst K X1 at_443 rfl (z := 1) rfl ?_
 refine o_icmp_ne_f K X1 at_444 rfl (by decide) ?_
 refine o_iload K X1 at_447 rfl rfl ?_
 refine o_static K X1  (w195 hw) (w196 hw) (w4 hw) (w197 hw) (by decide) (rm_valueof l Z a0 hw sv0 cs h0 q12.2 q15 q16) all0 (by decide) rfl (argsL := [.int sv0]) rfl (lenOf pd32 rfl) (W := 0) rfl (by decide) (by decide) (by decide) at_449 rfl ?_
 intro v2 T2 h2 FX2 U2
 obtain ⟨r_2, vb_2, k_2, rfl, u2_0, u2_1, u2_2, u2_3, u2_4, u2_5, u2_6⟩ := U2
 have G2_r : Z.heap.size ≤ r_2 := Nat.le_trans X1.ext0.1 u2_1
 have G2_vb : Z.heap.size ≤ vb_2 := Nat.le_trans X1.ext0.1 u2_5
 have X2 := FX2 [r_2, vb_2] (Or.inl rfl) (allS ⟨u2_1, u2_2.lt⟩ (allS ⟨u2_5, u2_6.lt⟩ all0))
 show oGoes pp ee bb ss Z T2 (mkF mm 452 _ [.ref r_2]) _ _ _ _
 refine o_goto K X2 at_452 (by decide) (pc' := 475) (by decide) ?_
 refine o_astore K X2 at_475 rfl rfl (L' := #[vJ i0, sS, vI i1, vI i2, vI i3, vI i4, vI 1, vI sv0, vI sv1, vI mode, vI tc, vI ww0, vI ww1, vI enc, vI rest, vI start, vR b, vI pos, vR tx, vR r, vR r_2, uS]) rfl ?_
 refine o_aload K X2 at_477 rfl rfl rfl ?_
 have m3 := (q1.keep u2_0 nin0)
 have m4 := (q0.keep u2_0)
 refine o_virtual K X2   (w206 hw) (w207 hw) (oNF (w209 hw)) (w209 hw) (w208 hw) (w65 hw) (w210 hw) (by decide) m4 (rm_optget l Z a0 hw r qt h2 m3) all0 (by decide) rfl (argsL := []) rfl (lenOf pd30 rfl) (W := 0) rfl (by decide) (by decide) (by decide) at_479 rfl ?_
 intro v5 T5 h5 FX5 U5
 obtain ⟨rfl, rfl⟩ := U5
 have X5 := FX5 [] (Or.inl rfl) all0
 show oGoes pp ee bb ss Z T5 (mkF mm 482 _ [.ref qt]) _ _ _ _
 have m7 := (q2.keep u2_0)
 refine o_checkcast K X5 (w211 hw) (Ins.self m7) at_482 rfl ?_
 intro T6 X6
 refine o_astore K X6 at_485 rfl rfl (L' := #[vJ i0, sS, vI i1, vI i2, vI i3, vI i4, vI 1, vI sv0, vI sv1, vI mode, vI tc, vI ww0, vI ww1, vI enc, vI rest, vI start, vR b, vI pos, vR tx, vR r, vR r_2, vR qt]) rfl ?_
 refine o_aload K X6 at_487 rfl rfl rfl ?_
 have m8 := (q3.keep u2_0 nin0)
 refine o_virtual K X6   (w213 hw) (w214 hw) (oNF (w216 hw)) (w216 hw) (w215 hw) (w33 hw) (w217 hw) (by decide) m7 (rm_qtval l Z a0 hw qt s h2 m8) all0 (by decide) rfl (argsL := []) rfl (lenOf pd23 rfl) (W := 0) rfl (by decide) (by decide) (by decide) at_489 rfl ?_
 intro v9 T9 h9 FX9 U9
 obtain ⟨rfl, rfl⟩ := U9
 have X9 := FX9 [] (Or.inl rfl) all0
 show oGoes pp ee bb ss Z T9 (mkF mm 492 _ [.ref s]) _ _ _ _
 refine o_aload K X9 at_492 rfl rfl rfl ?_
 have m10 := (q5.keep u2_0)
 have m11 := (q6.keep u2_0 nin0)
 have m12 := (q7.keep u2_0 nin0)
 have m13 := (q8.keep u2_0 nin0)
 have n14 := oLz q5.lt u2_1
 refine o_virtual K X9   (w218 hw) (w219 hw) (oNF (w221 hw)) (w221 hw) (w220 hw) (w4 hw) (w222 hw) (by decide) m10 (rm_streq1 l Z a0 hw s r_2 sv vb_2 ks k_2 (nar .byte x0) (nar .byte sv0) cs h2 m10 m11 m12 m13 u2_2 u2_3 u2_4 u2_6 n14 (congrArg (nar .byte) q11) q15 q16) all0 (by decide) rfl (argsL := [.ref r_2]) rfl (lenOf pd31 rfl) (W := 0) rfl (by decide) (by decide) (by decide) at_494 rfl ?_
 intro v15 T15 h15 FX15 U15
 obtain ⟨rfl, rfl⟩ := U15
 have X15 := FX15 [] (Or.inl rfl) all0
 show oGoes pp ee bb ss Z T15 (mkF mm 497 _ [.int 1]) _ _ _ _
 refine o_if_eq_f K X15 at_497 rfl (by decide) ?_
 refine o_aload K X15 at_500 rfl rfl rfl ?_
 have m16 := (q4.keep u2_0 nin0)
 refine o_virtual K X15   (w226 hw) (w227 hw) (oNF (w229 hw)) (w229 hw) (w228 hw) (w33 hw) (w230 hw) (by decide) m7 (rm_qtend l Z a0 hw qt e h2 m16) all0 (by decide) rfl (argsL := []) rfl (lenOf pd10 rfl) (W := 0) rfl (by decide) (by decide) (by decide) at_502 rfl ?_
 intro v17 T17 h17 FX17 U17
 obtain ⟨rfl, rfl⟩ := U17
 have X17 := FX17 [] (Or.inl rfl) all0
 show oGoes pp ee bb ss Z T17 (mkF mm 505 _ [.int e]) _ _ _ _
 refine o_iload K X17 at_505 rfl rfl ?_
 refine o_iconst K X17 at_507 rfl (z := 1) rfl ?_
 refine o_iadd K X17 at_508 rfl (z := (start + (1 : Int32))) rfl ?_
 refine o_iload K X17 at_509 rfl rfl ?_
 refine o_iadd K X17 at_511 rfl (z := ((start + (1 : Int32)) + enc)) rfl ?_
 refine o_iconst K X17 at_512 rfl (z := 1) rfl ?_
 refine o_iadd K X17 at_513 rfl (z := (((start + (1 : Int32)) + enc) + (1 : Int32))) rfl ?_
 refine o_icmp_ne_f K X17 at_514 rfl q10 ?_
 refine o_iconst K X17 at_517 rfl (z := 1) rfl ?_
 refine o_goto K X17 at_518 (by decide) (pc' := 522) (by decide) ?_
 refine o_ireturnN K X17 .boolean at_522 rfl (by simp) (z' := 1) (by decide) ?_ (by decide) (by decide) (by decide)
 exact hQ _ _ rfl
theorem pd33 : parseMethodDescriptor "([C)V" = some ⟨[(.array .char)], none⟩ := by decide +kernel
def Q_lw2 (Z : State) (i0 : Int64) (i1 i2 i3 i4 sv0 sv1 mode tc ww0 ww1 enc rest start pos : Int32) (b tx r qt s sv : Addr) (ks : ClassId) (e x0 x1 cs : Int32) (h0 : Heap) (v : Option Value) (h : Heap) : Prop := v = some (.int 1)
theorem tl_lw2 (l : Launch) (Z : State) (a0 : Array Value) (hw : oHw Z a0) (i0 : Int64) (i1 i2 i3 i4 sv0 sv1 mode tc ww0 ww1 enc rest start pos : Int32) (b tx r qt s sv : Addr) (ks : ClassId) (e x0 x1 cs : Int32) (h0 : Heap) (q0 : Exa Z h0 r z3) (q1 : Fld Z h0 r z3 "value" z11 (.ref qt)) (q2 : Exa Z h0 qt z2) (q3 : Fld Z h0 qt z2 "value" z13 (.ref s)) (q4 : Fld Z h0 qt z2 "end" "I" (.int e)) (q5 : Exa Z h0 s z0) (q6 : Fld Z h0 s z0 "value" "[B" (.ref sv)) (q7 : Fld Z h0 s z0 "coder" "B" (.int 0)) (q8 : oArr Z h0 sv ks .byte [(.int (nar .byte x0)), (.int (nar .byte x1))]) (q9 : ¬ (mode = (0 : Int32))) (q10 : e = (((start + (1 : Int32)) + enc) + (1 : Int32))) (q11 : x0 = sv0) (q12 : x1 = sv1) (q13 : oCh sv0) (q14 : oCh sv1) (q15 : nar .char sv0 = sv0) (q16 : nar .char sv1 = sv1) (q17 : Z.heap.size ≤ s) (q18 : Sta Z Z.heap z0 z5 "Z" (.int cs)) (q19 : ¬ (cs = (0 : Int32))) {Q : Option Value → Heap → Prop} (hQ : ∀ v h, Q_lw2 Z i0 i1 i2 i3 i4 sv0 sv1 mode tc ww0 ww1 enc rest start pos b tx r qt s sv ks e x0 x1 cs h0 v h → Q v h) {pp : Program} {ee : Env} {ss : State} {mm : MethodId} {bb : List Frame} {mtd : Method} {cc : Code} {A : Array Value} {T0 : State} (K : oCtx pp ss mm mtd cc Z z16 code maxLocals "law" ret x) (X0 : oSt pp l ee room_1 ss mm A bb mtd cc Z T0 h0 22 700 [s] false) : oGoes pp ee bb ss Z T0 (mkF mm 400 #[vJ i0, sS, vI i1, vI i2, vI i3, vI i4, vI 2, vI sv0, vI sv1, vI mode, vI tc, vI ww0, vI ww1, vI enc, vI rest, vI start, vR b, vI pos, vR tx, uS, uS, uS] [.ref r]) Q room_1.cells room_1.slots true := by
 have E0 := X0.ext0
 refine o_astore K X0 at_400 rfl rfl (L' := #[vJ i0, sS, vI i1, vI i2, vI i3, vI i4, vI 2, vI sv0, vI sv1, vI mode, vI tc, vI ww0, vI ww1, vI enc, vI rest, vI start, vR b, vI pos, vR tx, vR r, uS, uS]) rfl ?_
 refine o_iload K X0 at_402 rfl rfl ?_
 refine o_if_ne_t K X0 at_404 (by decide) (pc' := 421) (by decide) q9 ?_
 refine o_aload K X0 at_421 rfl rfl rfl ?_
 refine o_virtual K X0   (w68 hw) (w69 hw) (oNF (w71 hw)) (w71 hw) (w70 hw) (w65 hw) (w72 hw) (by decide) q0 (rm_optis l Z a0 hw r qt h0 q1) all0 (by decide) rfl (argsL := []) rfl (lenOf pd8 rfl) (W := 0) rfl (by decide) (by decide) (by decide) at_423 rfl ?_
 intro v1 T1 h1 FX1 U1
 obtain ⟨rfl, rfl⟩ := U1
 have X1 := FX1 [] (Or.inl rfl) all0
 show oGoes pp ee bb ss Z T1 (mkF mm 426 _ [.int 1]) _ _ _ _
 refine o_if_ne_t K X1 at_426 (by decide) (pc' := 431) (by decide) (by decide) ?_
 refine o_iload K X1 at_431 rfl rfl ?_
 refine o_if_ne_t K X1 at_433 (by decide) (pc' := 441) (by decide) (by decide) ?_
 refine o_iload K X1 at_441 rfl rfl ?_
 refine o_iconst K X1 at_443 rfl (z := 1) rfl ?_
 refine o_icmp_ne_t K X1 at_444 (by decide) (pc' := 455) (by decide) (by decide) ?_
 refine o_new K X1 (w2 hw) (w3 hw) (w4 hw) at_455 rfl (by decide) (by decide) ?_
 intro T2 h2 b2 X2 g2 E2 A2 D2 G2
 have F2_coder : Fld Z h2 b2 z0 "coder" "B" (.int 0) := (D2 (Or.inr (w28 hw)) (ty := .byte) (by decide))
 have F2_value : Fld Z h2 b2 z0 "value" "[B" .null := (D2 (Or.inr (w30 hw)) (ty := (.array .byte)) (by decide))
 refine o_dup K X2 at_458 rfl rfl ?_
 refine o_iconst K X2 at_459 rfl (z := 2) rfl ?_
 refine o_newarray K X2 (aty := .char) 2 (w0 hw) (ad := "[C") (by decide +kernel) (by decide) (by decide) (by decide) rfl at_460 rfl (by decide) (by decide) ?_
 intro T3 h3 b3 k3 X3 g3 E3 A3 B3 G3
 replace A3 : oArr Z h3 b3 k3 .char [.int 0, .int 0] := A3
 refine o_dup K X3 at_462 rfl rfl ?_
 refine o_iconst K X3 at_463 rfl (z := 0) rfl ?_
 refine o_iload K X3 at_464 rfl rfl ?_
 refine o_castore K X3 A3 (by decide) (show (0 : Int32).toNatClampNeg < 2 from (by decide)) G3 me0 (z := (.int sv0)) (congrArg Value.int q15) at_466 rfl ?_
 intro T4 h4 X4 W4 A4
 replace A4 : oArr Z h4 b3 k3 .char [.int sv0, .int 0] := A4
 refine o_dup K X4 at_467 rfl rfl ?_
 refine o_iconst K X4 at_468 rfl (z := 1) rfl ?_
 refine o_iload K X4 at_469 rfl rfl ?_
 refine o_castore K X4 A4 (by decide) (show (1 : Int32).toNatClampNeg < 2 from (by decide)) G3 me0 (z := (.int sv1)) (congrArg Value.int q16) at_471 rfl ?_
 intro T5 h5 X5 W5 A5
 replace A5 : oArr Z h5 b3 k3 .char [.int sv0, .int sv1] := A5
 have m6 := (Exa.wr W5 (Exa.wr W4 (A2.ext E3)))
 have n7 := oLz A2.lt (oLe g3)
 have m8 := (Fld.other W5 (Fld.other W4 (F2_value.ext E3) (Or.inl n7)) (Or.inl n7))
 have m9 := (Fld.other W5 (Fld.other W4 (F2_coder.ext E3) (Or.inl n7)) (Or.inl n7))
 refine o_special K X5 (y := (⟨z0, "<init>", "([C)V"⟩ : MethodName)) rfl (w5 hw) (w6 hw) (w4 hw) (w7 hw) (by decide) (rm_str_2 l Z a0 hw b2 b3 k3 cs sv0 sv1 h5 m6 m8 m9 G2 A5 q18 q19 q13.2 q14.2) (allS me1 all0) (by decide) rfl (argsL := [.ref b3]) rfl (lenOf pd33 rfl) (W := 1) rfl (by decide) (by decide) (by decide) at_472 rfl ?_
 intro v10 T10 h10 FX10 U10
 obtain ⟨vb_10, k_10, rfl, u10_0, u10_1, u10_2, u10_3, u10_4, u10_5⟩ := U10
 have G10_vb : Z.heap.size ≤ vb_10 := Nat.le_trans X5.ext0.1 u10_4
 have X10 := FX10 [vb_10] (Or.inl rfl) (allS ⟨u10_4, u10_5.lt⟩ all0)
 show oGoes pp ee bb ss Z T10 (mkF mm 475 _ [.ref b2]) _ _ _ _
 refine o_astore K X10 at_475 rfl rfl (L' := #[vJ i0, sS, vI i1, vI i2, vI i3, vI i4, vI 2, vI sv0, vI sv1, vI mode, vI tc, vI ww0, vI ww1, vI enc, vI rest, vI start, vR b, vI pos, vR tx, vR r, vR b2, uS]) rfl ?_
 refine o_aload K X10 at_477 rfl rfl rfl ?_
 have n11 := oLn q0.lt E2.1 (oLe g3)
 have n12 := oLz q0.lt (oLe g2)
 have m13 := ((Fld.other W5 (Fld.other W4 ((q1.ext E2).ext E3) (Or.inl n11)) (Or.inl n11)).keep u10_0 (ninS n12 nin0))
 have m14 := ((Exa.wr W5 (Exa.wr W4 ((q0.ext E2).ext E3))).keep u10_0)
 refine o_virtual K X10   (w206 hw) (w207 hw) (oNF (w209 hw)) (w209 hw) (w208 hw) (w65 hw) (w210 hw) (by decide) m14 (rm_optget l Z a0 hw r qt h10 m13) all0 (by decide) rfl (argsL := []) rfl (lenOf pd30 rfl) (W := 0) rfl (by decide) (by decide) (by decide) at_479 rfl ?_
 intro v15 T15 h15 FX15 U15
 obtain ⟨rfl, rfl⟩ := U15
 have X15 := FX15 [] (Or.inl rfl) all0
 show oGoes pp ee bb ss Z T15 (mkF mm 482 _ [.ref qt]) _ _ _ _
 have m17 := ((Exa.wr W5 (Exa.wr W4 ((q2.ext E2).ext E3))).keep u10_0)
 refine o_checkcast K X15 (w211 hw) (Ins.self m17) at_482 rfl ?_
 intro T16 X16
 refine o_astore K X16 at_485 rfl rfl (L' := #[vJ i0, sS, vI i1, vI i2, vI i3, vI i4, vI 2, vI sv0, vI sv1, vI mode, vI tc, vI ww0, vI ww1, vI enc, vI rest, vI start, vR b, vI pos, vR tx, vR r, vR b2, vR qt]) rfl ?_
 refine o_aload K X16 at_487 rfl rfl rfl ?_
 have n18 := oLn q2.lt E2.1 (oLe g3)
 have n19 := oLz q2.lt (oLe g2)
 have m20 := ((Fld.other W5 (Fld.other W4 ((q3.ext E2).ext E3) (Or.inl n18)) (Or.inl n18)).keep u10_0 (ninS n19 nin0))
 refine o_virtual K X16   (w213 hw) (w214 hw) (oNF (w216 hw)) (w216 hw) (w215 hw) (w33 hw) (w217 hw) (by decide) m17 (rm_qtval l Z a0 hw qt s h10 m20) all0 (by decide) rfl (argsL := []) rfl (lenOf pd23 rfl) (W := 0) rfl (by decide) (by decide) (by decide) at_489 rfl ?_
 intro v21 T21 h21 FX21 U21
 obtain ⟨rfl, rfl⟩ := U21
 have X21 := FX21 [] (Or.inl rfl) all0
 show oGoes pp ee bb ss Z T21 (mkF mm 492 _ [.ref s]) _ _ _ _
 refine o_aload K X21 at_492 rfl rfl rfl ?_
 have m22 := ((Exa.wr W5 (Exa.wr W4 ((q5.ext E2).ext E3))).keep u10_0)
 have n23 := oLn q5.lt E2.1 (oLe g3)
 have n24 := oLz q5.lt (oLe g2)
 have m25 := ((Fld.other W5 (Fld.other W4 ((q6.ext E2).ext E3) (Or.inl n23)) (Or.inl n23)).keep u10_0 (ninS n24 nin0))
 have m26 := ((Fld.other W5 (Fld.other W4 ((q7.ext E2).ext E3) (Or.inl n23)) (Or.inl n23)).keep u10_0 (ninS n24 nin0))
 have n27 := oLn q8.lt E2.1 (oLe g3)
 have n28 := oLz q8.lt (oLe g2)
 have m29 := (((((q8.ext E2).ext E3).other W4 n27).other W5 n27).keep u10_0 (ninS n28 nin0))
 refine o_virtual K X21   (w218 hw) (w219 hw) (oNF (w221 hw)) (w221 hw) (w220 hw) (w4 hw) (w222 hw) (by decide) m22 (rm_streq2 l Z a0 hw s b2 sv vb_10 ks k_10 (nar .byte x0) (nar .byte x1) (nar .byte sv0) (nar .byte sv1) cs h10 m22 m25 m26 m29 u10_1 u10_2 u10_3 u10_5 n24 (congrArg (nar .byte) q11) (congrArg (nar .byte) q12) q18 q19) all0 (by decide) rfl (argsL := [.ref b2]) rfl (lenOf pd31 rfl) (W := 0) rfl (by decide) (by decide) (by decide) at_494 rfl ?_
 intro v30 T30 h30 FX30 U30
 obtain ⟨rfl, rfl⟩ := U30
 have X30 := FX30 [] (Or.inl rfl) all0
 show oGoes pp ee bb ss Z T30 (mkF mm 497 _ [.int 1]) _ _ _ _
 refine o_if_eq_f K X30 at_497 rfl (by decide) ?_
 refine o_aload K X30 at_500 rfl rfl rfl ?_
 have m31 := ((Fld.other W5 (Fld.other W4 ((q4.ext E2).ext E3) (Or.inl n18)) (Or.inl n18)).keep u10_0 (ninS n19 nin0))
 refine o_virtual K X30   (w226 hw) (w227 hw) (oNF (w229 hw)) (w229 hw) (w228 hw) (w33 hw) (w230 hw) (by decide) m17 (rm_qtend l Z a0 hw qt e h10 m31) all0 (by decide) rfl (argsL := []) rfl (lenOf pd10 rfl) (W := 0) rfl (by decide) (by decide) (by decide) at_502 rfl ?_
 intro v32 T32 h32 FX32 U32
 obtain ⟨rfl, rfl⟩ := U32
 have X32 := FX32 [] (Or.inl rfl) all0
 show oGoes pp ee bb ss Z T32 (mkF mm 505 _ [.int e]) _ _ _ _
 refine o_iload K X32 at_505 rfl rfl ?_
 refine o_iconst K X32 at_507 rfl (z := 1) rfl ?_
 refine o_iadd K X32 at_508 rfl (z := (start + (1 : Int32))) rfl ?_
 refine o_iload K X32 at_509 rfl rfl ?_
 refine o_iadd K X32 at_511 rfl (z := ((start + (1 : Int32)) + enc)) rfl ?_
 refine o_iconst K X32 at_512 rfl (z := 1) rfl ?_
 refine o_iadd K X32 at_513 rfl (z := (((start + (1 : Int32)) + enc) + (1 : Int32))) rfl ?_
 refine o_icmp_ne_f K X32 at_514 rfl q10 ?_
 refine o_iconst K X32 at_517 rfl (z := 1) rfl ?_
 refine o_goto K X32 at_518 (by decide) (pc' := 522) (by decide) ?_
 refine o_ireturnN K X32 .boolean at_522 rfl (by simp) (z' := 1) (by decide) ?_ (by decide) (by decide) (by decide)
 exact hQ _ _ rfl
def Q_lwe (Z : State) (i0 : Int64) (i1 i2 i3 i4 k sv0 sv1 tc ww0 ww1 enc rest start pos : Int32) (b tx em : Addr) (h0 : Heap) (v : Option Value) (h : Heap) : Prop := v = some (.int 1)
theorem tl_lwe (l : Launch) (Z : State) (a0 : Array Value) (hw : oHw Z a0) (i0 : Int64) (i1 i2 i3 i4 k sv0 sv1 tc ww0 ww1 enc rest start pos : Int32) (b tx em : Addr) (h0 : Heap) (q0 : Exa Z Z.heap em z3) (q1 : Fld Z Z.heap em z3 "value" z11 .null) {Q : Option Value → Heap → Prop} (hQ : ∀ v h, Q_lwe Z i0 i1 i2 i3 i4 k sv0 sv1 tc ww0 ww1 enc rest start pos b tx em h0 v h → Q v h) {pp : Program} {ee : Env} {ss : State} {mm : MethodId} {bb : List Frame} {mtd : Method} {cc : Code} {A : Array Value} {T0 : State} (K : oCtx pp ss mm mtd cc Z z16 code maxLocals "law" ret x) (X0 : oSt pp l ee room_1 ss mm A bb mtd cc Z T0 h0 22 700 [] false) : oGoes pp ee bb ss Z T0 (mkF mm 400 #[vJ i0, sS, vI i1, vI i2, vI i3, vI i4, vI k, vI sv0, vI sv1, vI 0, vI tc, vI ww0, vI ww1, vI enc, vI rest, vI start, vR b, vI pos, vR tx, uS, uS, uS] [.ref em]) Q room_1.cells room_1.slots true := by
 have E0 := X0.ext0
 refine o_astore K X0 at_400 rfl rfl (L' := #[vJ i0, sS, vI i1, vI i2, vI i3, vI i4, vI k, vI sv0, vI sv1, vI 0, vI tc, vI ww0, vI ww1, vI enc, vI rest, vI start, vR b, vI pos, vR tx, vR em, uS, uS]) rfl ?_
 refine o_iload K X0 at_402 rfl rfl ?_
 refine o_if_ne_f K X0 at_404 rfl (by decide) ?_
 refine o_aload K X0 at_407 rfl rfl rfl ?_
 refine o_virtual K X0   (w68 hw) (w69 hw) (oNF (w71 hw)) (w71 hw) (w70 hw) (w65 hw) (w72 hw) (by decide) (q0.ext X0.ext0) (rm_optisno l Z a0 hw em h0 (q1.ext X0.ext0)) all0 (by decide) rfl (argsL := []) rfl (lenOf pd8 rfl) (W := 0) rfl (by decide) (by decide) (by decide) at_409 rfl ?_
 intro v1 T1 h1 FX1 U1
 obtain ⟨rfl, rfl⟩ := U1
 have X1 := FX1 [] (Or.inl rfl) all0
 show oGoes pp ee bb ss Z T1 (mkF mm 412 _ [.int 0]) _ _ _ _
 refine o_if_ne_f K X1 at_412 rfl (by decide) ?_
 refine o_iconst K X1 at_415 rfl (z := 1) rfl ?_
 refine o_goto K X1 at_416 (by decide) (pc' := 420) (by decide) ?_
 refine o_ireturnN K X1 .boolean at_420 rfl (by simp) (z' := 1) (by decide) ?_ (by decide) (by decide) (by decide)
 exact hQ _ _ rfl
theorem pd34 : parseMethodDescriptor z12 = some ⟨[(.object z0), .int], some (.object z3)⟩ := by decide +kernel
def Q_law (Z : State) (i0 : Int64) (i1 i2 i3 i4 : Int32) (fm : Value) (cs : Int32) (em : Addr) (h0 : Heap) (v : Option Value) (h : Heap) : Prop := v = some (.int 1)
theorem rm_law (l : Launch) (Z : State) (a0 : Array Value) (hw : oHw Z a0) (i0 : Int64) (i1 i2 i3 i4 : Int32) (fm : Value) (cs : Int32) (em : Addr) (h0 : Heap) (q0 : Sta Z Z.heap z6 z7 z8 fm) (q1 : fm.isRef = true) (q2 : Sta Z Z.heap z0 z5 "Z" (.int cs)) (q3 : ¬ (cs = (0 : Int32))) (q4 : Sta Z Z.heap z3 "EMPTY" z14 (.ref em)) (q5 : Exa Z Z.heap em z3) (q6 : Fld Z Z.heap em z3 "value" z11 .null) (ws : List Jvm.Cond) : oMet l Z x code maxLocals ret room_1 ws #[(.long i0), .int i1, .int i2, .int i3, .int i4] h0 (Q_law Z i0 i1 i2 i3 i4 fm cs em h0) [] true := by
 refine oEnter (oEW hw) (plainFor_of_name (by first | (simp [plainName, overriddenIn]; done) | decide +kernel)) (own := z16) (nm := "law") rfl rfl (L := #[.val (.long i0), .second, .val (.int i1), .val (.int i2), .val (.int i3), .val (.int i4), .unset, .unset, .unset, .unset, .unset, .unset, .unset, .unset, .unset, .unset, .unset, .unset, .unset, .unset, .unset, .unset]) (fun m => by first | (simp [entryFrame, mkF, argsToLocals, Value.category, maxLocals, oCatRef q1]; done) | rfl) ?_
 intro pp ee ss mm bb mtd cc T0 K X0
 have E0 := X0.ext0
 refine o_iload K X0 at_0 rfl rfl ?_
 refine o_iconst K X0 at_2 rfl (z := 3) rfl ?_
 refine o_iand K X0 at_3 rfl (z := (i4 &&& (3 : Int32))) rfl ?_
 refine o_iconst K X0 at_4 rfl (z := 3) rfl ?_
 refine o_irem K X0 at_5 rfl (by decide) (z := ((i4 &&& (3 : Int32)) % (3 : Int32))) rfl ?_
 refine o_istore K X0 at_6 rfl (L' := #[vJ i0, sS, vI i1, vI i2, vI i3, vI i4, vI ((i4 &&& (3 : Int32)) % (3 : Int32)), uS, uS, uS, uS, uS, uS, uS, uS, uS, uS, uS, uS, uS, uS, uS]) rfl ?_
 refine o_iload K X0 at_8 rfl rfl ?_
 refine o_iconst K X0 at_10 rfl (z := 2) rfl ?_
 refine o_ishr K X0 at_11 rfl (z := (i4 >>> ((2 : Int32) &&& 31))) rfl ?_
 refine o_iconst K X0 at_12 rfl (z := 1) rfl ?_
 refine o_iand K X0 at_13 rfl (z := ((i4 >>> ((2 : Int32) &&& 31)) &&& (1 : Int32))) rfl ?_
 suffices J2 : oGoes pp ee bb ss Z T0 (mkF mm 28 #[vJ i0, sS, vI i1, vI i2, vI i3, vI i4, vI ((i4 &&& (3 : Int32)) % (3 : Int32)), uS, uS, uS, uS, uS, uS, uS, uS, uS, uS, uS, uS, uS, uS, uS] [(.int (if ((i4 >>> ((2 : Int32) &&& 31)) &&& (1 : Int32)) = (0 : Int32) then (i1 &&& (255 : Int32)) else (34 : Int32)))]) (Q_law Z i0 i1 i2 i3 i4 fm cs em h0) room_1.cells room_1.slots true by
  by_cases c14_1 : ((i4 >>> ((2 : Int32) &&& 31)) &&& (1 : Int32)) = (0 : Int32)
  simp only [if_pos c14_1] at J2
  refine o_if_eq_t K X0 at_14 (by decide) (pc' := 22) (by decide) c14_1 ?_
  refine o_iloadN K X0 at_22 rfl rfl ?_
  refine o_sipush K X0 at_23 rfl (z := 255) rfl ?_
  refine o_iand K X0 at_26 rfl (z := (i1 &&& (255 : Int32))) rfl ?_
  refine o_i2c K X0 at_27 rfl (z := (i1 &&& (255 : Int32))) (oNarMask i1 (by decide)) ?_
  exact J2
  simp only [if_neg c14_1] at J2
  refine o_if_eq_f K X0 at_14 rfl c14_1 ?_
  refine o_bipush K X0 at_17 rfl (z := 34) rfl ?_
  refine o_goto K X0 at_19 (by decide) (pc' := 28) (by decide) ?_
  exact J2
 refine o_istore K X0 at_28 rfl (L' := #[vJ i0, sS, vI i1, vI i2, vI i3, vI i4, vI ((i4 &&& (3 : Int32)) % (3 : Int32)), vI (if ((i4 >>> ((2 : Int32) &&& 31)) &&& (1 : Int32)) = (0 : Int32) then (i1 &&& (255 : Int32)) else (34 : Int32)), uS, uS, uS, uS, uS, uS, uS, uS, uS, uS, uS, uS, uS, uS]) rfl ?_
 refine o_iload K X0 at_30 rfl rfl ?_
 refine o_iconst K X0 at_32 rfl (z := 3) rfl ?_
 refine o_ishr K X0 at_33 rfl (z := (i4 >>> ((3 : Int32) &&& 31))) rfl ?_
 refine o_iconst K X0 at_34 rfl (z := 1) rfl ?_
 refine o_iand K X0 at_35 rfl (z := ((i4 >>> ((3 : Int32) &&& 31)) &&& (1 : Int32))) rfl ?_
 suffices J4 : oGoes pp ee bb ss Z T0 (mkF mm 50 #[vJ i0, sS, vI i1, vI i2, vI i3, vI i4, vI ((i4 &&& (3 : Int32)) % (3 : Int32)), vI (if ((i4 >>> ((2 : Int32) &&& 31)) &&& (1 : Int32)) = (0 : Int32) then (i1 &&& (255 : Int32)) else (34 : Int32)), uS, uS, uS, uS, uS, uS, uS, uS, uS, uS, uS, uS, uS, uS] [(.int (if ((i4 >>> ((3 : Int32) &&& 31)) &&& (1 : Int32)) = (0 : Int32) then (i2 &&& (255 : Int32)) else (34 : Int32)))]) (Q_law Z i0 i1 i2 i3 i4 fm cs em h0) room_1.cells room_1.slots true by
  by_cases c36_3 : ((i4 >>> ((3 : Int32) &&& 31)) &&& (1 : Int32)) = (0 : Int32)
  simp only [if_pos c36_3] at J4
  refine o_if_eq_t K X0 at_36 (by decide) (pc' := 44) (by decide) c36_3 ?_
  refine o_iloadN K X0 at_44 rfl rfl ?_
  refine o_sipush K X0 at_45 rfl (z := 255) rfl ?_
  refine o_iand K X0 at_48 rfl (z := (i2 &&& (255 : Int32))) rfl ?_
  refine o_i2c K X0 at_49 rfl (z := (i2 &&& (255 : Int32))) (oNarMask i2 (by decide)) ?_
  exact J4
  simp only [if_neg c36_3] at J4
  refine o_if_eq_f K X0 at_36 rfl c36_3 ?_
  refine o_bipush K X0 at_39 rfl (z := 34) rfl ?_
  refine o_goto K X0 at_41 (by decide) (pc' := 50) (by decide) ?_
  exact J4
 refine o_istore K X0 at_50 rfl (L' := #[vJ i0, sS, vI i1, vI i2, vI i3, vI i4, vI ((i4 &&& (3 : Int32)) % (3 : Int32)), vI (if ((i4 >>> ((2 : Int32) &&& 31)) &&& (1 : Int32)) = (0 : Int32) then (i1 &&& (255 : Int32)) else (34 : Int32)), vI (if ((i4 >>> ((3 : Int32) &&& 31)) &&& (1 : Int32)) = (0 : Int32) then (i2 &&& (255 : Int32)) else (34 : Int32)), uS, uS, uS, uS, uS, uS, uS, uS, uS, uS, uS, uS, uS]) rfl ?_
 refine o_iload K X0 at_52 rfl rfl ?_
 refine o_iconst K X0 at_54 rfl (z := 4) rfl ?_
 refine o_ishr K X0 at_55 rfl (z := (i4 >>> ((4 : Int32) &&& 31))) rfl ?_
 refine o_iconst K X0 at_56 rfl (z := 3) rfl ?_
 refine o_iand K X0 at_57 rfl (z := ((i4 >>> ((4 : Int32) &&& 31)) &&& (3 : Int32))) rfl ?_
 refine o_istore K X0 at_58 rfl (L' := #[vJ i0, sS, vI i1, vI i2, vI i3, vI i4, vI ((i4 &&& (3 : Int32)) % (3 : Int32)), vI (if ((i4 >>> ((2 : Int32) &&& 31)) &&& (1 : Int32)) = (0 : Int32) then (i1 &&& (255 : Int32)) else (34 : Int32)), vI (if ((i4 >>> ((3 : Int32) &&& 31)) &&& (1 : Int32)) = (0 : Int32) then (i2 &&& (255 : Int32)) else (34 : Int32)), vI ((i4 >>> ((4 : Int32) &&& 31)) &&& (3 : Int32)), uS, uS, uS, uS, uS, uS, uS, uS, uS, uS, uS, uS]) rfl ?_
 refine o_iload K X0 at_60 rfl rfl ?_
 refine o_sipush K X0 at_62 rfl (z := 255) rfl ?_
 refine o_iand K X0 at_65 rfl (z := (i3 &&& (255 : Int32))) rfl ?_
 refine o_i2c K X0 at_66 rfl (z := (i3 &&& (255 : Int32))) (oNarMask i3 (by decide)) ?_
 refine o_istore K X0 at_67 rfl (L' := #[vJ i0, sS, vI i1, vI i2, vI i3, vI i4, vI ((i4 &&& (3 : Int32)) % (3 : Int32)), vI (if ((i4 >>> ((2 : Int32) &&& 31)) &&& (1 : Int32)) = (0 : Int32) then (i1 &&& (255 : Int32)) else (34 : Int32)), vI (if ((i4 >>> ((3 : Int32) &&& 31)) &&& (1 : Int32)) = (0 : Int32) then (i2 &&& (255 : Int32)) else (34 : Int32)), vI ((i4 >>> ((4 : Int32) &&& 31)) &&& (3 : Int32)), vI (i3 &&& (255 : Int32)), uS, uS, uS, uS, uS, uS, uS, uS, uS, uS, uS]) rfl ?_
 refine o_iload K X0 at_69 rfl rfl ?_
 refine o_bipush K X0 at_71 rfl (z := 34) rfl ?_
 suffices J6 : oGoes pp ee bb ss Z T0 (mkF mm 80 #[vJ i0, sS, vI i1, vI i2, vI i3, vI i4, vI ((i4 &&& (3 : Int32)) % (3 : Int32)), vI (if ((i4 >>> ((2 : Int32) &&& 31)) &&& (1 : Int32)) = (0 : Int32) then (i1 &&& (255 : Int32)) else (34 : Int32)), vI (if ((i4 >>> ((3 : Int32) &&& 31)) &&& (1 : Int32)) = (0 : Int32) then (i2 &&& (255 : Int32)) else (34 : Int32)), vI ((i4 >>> ((4 : Int32) &&& 31)) &&& (3 : Int32)), vI (if (i3 &&& (255 : Int32)) = (34 : Int32) then (120 : Int32) else (i3 &&& (255 : Int32))), uS, uS, uS, uS, uS, uS, uS, uS, uS, uS, uS] []) (Q_law Z i0 i1 i2 i3 i4 fm cs em h0) room_1.cells room_1.slots true by
  by_cases c73_5 : (i3 &&& (255 : Int32)) = (34 : Int32)
  simp only [if_pos c73_5] at J6
  refine o_icmp_ne_f K X0 at_73 rfl c73_5 ?_
  refine o_bipush K X0 at_76 rfl (z := 120) rfl ?_
  refine o_istore K X0 at_78 rfl (L' := #[vJ i0, sS, vI i1, vI i2, vI i3, vI i4, vI ((i4 &&& (3 : Int32)) % (3 : Int32)), vI (if ((i4 >>> ((2 : Int32) &&& 31)) &&& (1 : Int32)) = (0 : Int32) then (i1 &&& (255 : Int32)) else (34 : Int32)), vI (if ((i4 >>> ((3 : Int32) &&& 31)) &&& (1 : Int32)) = (0 : Int32) then (i2 &&& (255 : Int32)) else (34 : Int32)), vI ((i4 >>> ((4 : Int32) &&& 31)) &&& (3 : Int32)), vI 120, uS, uS, uS, uS, uS, uS, uS, uS, uS, uS, uS]) rfl ?_
  exact J6
  simp only [if_neg c73_5] at J6
  refine o_icmp_ne_t K X0 at_73 (by decide) (pc' := 80) (by decide) c73_5 ?_
  exact J6
 refine o_iload K X0 at_80 rfl rfl ?_
 refine o_bipush K X0 at_82 rfl (z := 34) rfl ?_
 suffices J8 : oGoes pp ee bb ss Z T0 (mkF mm 92 #[vJ i0, sS, vI i1, vI i2, vI i3, vI i4, vI ((i4 &&& (3 : Int32)) % (3 : Int32)), vI (if ((i4 >>> ((2 : Int32) &&& 31)) &&& (1 : Int32)) = (0 : Int32) then (i1 &&& (255 : Int32)) else (34 : Int32)), vI (if ((i4 >>> ((3 : Int32) &&& 31)) &&& (1 : Int32)) = (0 : Int32) then (i2 &&& (255 : Int32)) else (34 : Int32)), vI ((i4 >>> ((4 : Int32) &&& 31)) &&& (3 : Int32)), vI (if (i3 &&& (255 : Int32)) = (34 : Int32) then (120 : Int32) else (i3 &&& (255 : Int32))), uS, uS, uS, uS, uS, uS, uS, uS, uS, uS, uS] [(.int (if (if ((i4 >>> ((2 : Int32) &&& 31)) &&& (1 : Int32)) = (0 : Int32) then (i1 &&& (255 : Int32)) else (34 : Int32)) = (34 : Int32) then (2 : Int32) else (1 : Int32)))]) (Q_law Z i0 i1 i2 i3 i4 fm cs em h0) room_1.cells room_1.slots true by
  by_cases c84_7 : (if ((i4 >>> ((2 : Int32) &&& 31)) &&& (1 : Int32)) = (0 : Int32) then (i1 &&& (255 : Int32)) else (34 : Int32)) = (34 : Int32)
  simp only [if_pos c84_7] at J8
  refine o_icmp_ne_f K X0 at_84 rfl c84_7 ?_
  refine o_iconst K X0 at_87 rfl (z := 2) rfl ?_
  refine o_goto K X0 at_88 (by decide) (pc' := 92) (by decide) ?_
  exact J8
  simp only [if_neg c84_7] at J8
  refine o_icmp_ne_t K X0 at_84 (by decide) (pc' := 91) (by decide) c84_7 ?_
  refine o_iconst K X0 at_91 rfl (z := 1) rfl ?_
  exact J8
 refine o_istore K X0 at_92 rfl (L' := #[vJ i0, sS, vI i1, vI i2, vI i3, vI i4, vI ((i4 &&& (3 : Int32)) % (3 : Int32)), vI (if ((i4 >>> ((2 : Int32) &&& 31)) &&& (1 : Int32)) = (0 : Int32) then (i1 &&& (255 : Int32)) else (34 : Int32)), vI (if ((i4 >>> ((3 : Int32) &&& 31)) &&& (1 : Int32)) = (0 : Int32) then (i2 &&& (255 : Int32)) else (34 : Int32)), vI ((i4 >>> ((4 : Int32) &&& 31)) &&& (3 : Int32)), vI (if (i3 &&& (255 : Int32)) = (34 : Int32) then (120 : Int32) else (i3 &&& (255 : Int32))), vI (if (if ((i4 >>> ((2 : Int32) &&& 31)) &&& (1 : Int32)) = (0 : Int32) then (i1 &&& (255 : Int32)) else (34 : Int32)) = (34 : Int32) then (2 : Int32) else (1 : Int32)), uS, uS, uS, uS, uS, uS, uS, uS, uS, uS]) rfl ?_
 refine o_iload K X0 at_94 rfl rfl ?_
 refine o_bipush K X0 at_96 rfl (z := 34) rfl ?_
 suffices J10 : oGoes pp ee bb ss Z T0 (mkF mm 106 #[vJ i0, sS, vI i1, vI i2, vI i3, vI i4, vI ((i4 &&& (3 : Int32)) % (3 : Int32)), vI (if ((i4 >>> ((2 : Int32) &&& 31)) &&& (1 : Int32)) = (0 : Int32) then (i1 &&& (255 : Int32)) else (34 : Int32)), vI (if ((i4 >>> ((3 : Int32) &&& 31)) &&& (1 : Int32)) = (0 : Int32) then (i2 &&& (255 : Int32)) else (34 : Int32)), vI ((i4 >>> ((4 : Int32) &&& 31)) &&& (3 : Int32)), vI (if (i3 &&& (255 : Int32)) = (34 : Int32) then (120 : Int32) else (i3 &&& (255 : Int32))), vI (if (if ((i4 >>> ((2 : Int32) &&& 31)) &&& (1 : Int32)) = (0 : Int32) then (i1 &&& (255 : Int32)) else (34 : Int32)) = (34 : Int32) then (2 : Int32) else (1 : Int32)), uS, uS, uS, uS, uS, uS, uS, uS, uS, uS] [(.int (if (if ((i4 >>> ((3 : Int32) &&& 31)) &&& (1 : Int32)) = (0 : Int32) then (i2 &&& (255 : Int32)) else (34 : Int32)) = (34 : Int32) then (2 : Int32) else (1 : Int32)))]) (Q_law Z i0 i1 i2 i3 i4 fm cs em h0) room_1.cells room_1.slots true by
  by_cases c98_9 : (if ((i4 >>> ((3 : Int32) &&& 31)) &&& (1 : Int32)) = (0 : Int32) then (i2 &&& (255 : Int32)) else (34 : Int32)) = (34 : Int32)
  simp only [if_pos c98_9] at J10
  refine o_icmp_ne_f K X0 at_98 rfl c98_9 ?_
  refine o_iconst K X0 at_101 rfl (z := 2) rfl ?_
  refine o_goto K X0 at_102 (by decide) (pc' := 106) (by decide) ?_
  exact J10
  simp only [if_neg c98_9] at J10
  refine o_icmp_ne_t K X0 at_98 (by decide) (pc' := 105) (by decide) c98_9 ?_
  refine o_iconst K X0 at_105 rfl (z := 1) rfl ?_
  exact J10
 refine o_istore K X0 at_106 rfl (L' := #[vJ i0, sS, vI i1, vI i2, vI i3, vI i4, vI ((i4 &&& (3 : Int32)) % (3 : Int32)), vI (if ((i4 >>> ((2 : Int32) &&& 31)) &&& (1 : Int32)) = (0 : Int32) then (i1 &&& (255 : Int32)) else (34 : Int32)), vI (if ((i4 >>> ((3 : Int32) &&& 31)) &&& (1 : Int32)) = (0 : Int32) then (i2 &&& (255 : Int32)) else (34 : Int32)), vI ((i4 >>> ((4 : Int32) &&& 31)) &&& (3 : Int32)), vI (if (i3 &&& (255 : Int32)) = (34 : Int32) then (120 : Int32) else (i3 &&& (255 : Int32))), vI (if (if ((i4 >>> ((2 : Int32) &&& 31)) &&& (1 : Int32)) = (0 : Int32) then (i1 &&& (255 : Int32)) else (34 : Int32)) = (34 : Int32) then (2 : Int32) else (1 : Int32)), vI (if (if ((i4 >>> ((3 : Int32) &&& 31)) &&& (1 : Int32)) = (0 : Int32) then (i2 &&& (255 : Int32)) else (34 : Int32)) = (34 : Int32) then (2 : Int32) else (1 : Int32)), uS, uS, uS, uS, uS, uS, uS, uS, uS]) rfl ?_
 refine o_iload K X0 at_108 rfl rfl ?_
 refine o_iconst K X0 at_110 rfl (z := 1) rfl ?_
 suffices J12 : oGoes pp ee bb ss Z T0 (mkF mm 120 #[vJ i0, sS, vI i1, vI i2, vI i3, vI i4, vI ((i4 &&& (3 : Int32)) % (3 : Int32)), vI (if ((i4 >>> ((2 : Int32) &&& 31)) &&& (1 : Int32)) = (0 : Int32) then (i1 &&& (255 : Int32)) else (34 : Int32)), vI (if ((i4 >>> ((3 : Int32) &&& 31)) &&& (1 : Int32)) = (0 : Int32) then (i2 &&& (255 : Int32)) else (34 : Int32)), vI ((i4 >>> ((4 : Int32) &&& 31)) &&& (3 : Int32)), vI (if (i3 &&& (255 : Int32)) = (34 : Int32) then (120 : Int32) else (i3 &&& (255 : Int32))), vI (if (if ((i4 >>> ((2 : Int32) &&& 31)) &&& (1 : Int32)) = (0 : Int32) then (i1 &&& (255 : Int32)) else (34 : Int32)) = (34 : Int32) then (2 : Int32) else (1 : Int32)), vI (if (if ((i4 >>> ((3 : Int32) &&& 31)) &&& (1 : Int32)) = (0 : Int32) then (i2 &&& (255 : Int32)) else (34 : Int32)) = (34 : Int32) then (2 : Int32) else (1 : Int32)), uS, uS, uS, uS, uS, uS, uS, uS, uS] [(.int (if ((i4 &&& (3 : Int32)) % (3 : Int32)) < (1 : Int32) then (0 : Int32) else (if (if ((i4 >>> ((2 : Int32) &&& 31)) &&& (1 : Int32)) = (0 : Int32) then (i1 &&& (255 : Int32)) else (34 : Int32)) = (34 : Int32) then (2 : Int32) else (1 : Int32))))]) (Q_law Z i0 i1 i2 i3 i4 fm cs em h0) room_1.cells room_1.slots true by
  by_cases c111_11 : ((i4 &&& (3 : Int32)) % (3 : Int32)) < (1 : Int32)
  simp only [if_pos c111_11] at J12
  refine o_icmp_lt_t K X0 at_111 (by decide) (pc' := 119) (by decide) c111_11 ?_
  refine o_iconst K X0 at_119 rfl (z := 0) rfl ?_
  exact J12
  simp only [if_neg c111_11] at J12
  refine o_icmp_lt_f K X0 at_111 rfl c111_11 ?_
  refine o_iload K X0 at_114 rfl rfl ?_
  refine o_goto K X0 at_116 (by decide) (pc' := 120) (by decide) ?_
  exact J12
 refine o_iload K X0 at_120 rfl rfl ?_
 refine o_iconst K X0 at_122 rfl (z := 2) rfl ?_
 suffices J14 : oGoes pp ee bb ss Z T0 (mkF mm 132 #[vJ i0, sS, vI i1, vI i2, vI i3, vI i4, vI ((i4 &&& (3 : Int32)) % (3 : Int32)), vI (if ((i4 >>> ((2 : Int32) &&& 31)) &&& (1 : Int32)) = (0 : Int32) then (i1 &&& (255 : Int32)) else (34 : Int32)), vI (if ((i4 >>> ((3 : Int32) &&& 31)) &&& (1 : Int32)) = (0 : Int32) then (i2 &&& (255 : Int32)) else (34 : Int32)), vI ((i4 >>> ((4 : Int32) &&& 31)) &&& (3 : Int32)), vI (if (i3 &&& (255 : Int32)) = (34 : Int32) then (120 : Int32) else (i3 &&& (255 : Int32))), vI (if (if ((i4 >>> ((2 : Int32) &&& 31)) &&& (1 : Int32)) = (0 : Int32) then (i1 &&& (255 : Int32)) else (34 : Int32)) = (34 : Int32) then (2 : Int32) else (1 : Int32)), vI (if (if ((i4 >>> ((3 : Int32) &&& 31)) &&& (1 : Int32)) = (0 : Int32) then (i2 &&& (255 : Int32)) else (34 : Int32)) = (34 : Int32) then (2 : Int32) else (1 : Int32)), uS, uS, uS, uS, uS, uS, uS, uS, uS] [(.int (if ((i4 &&& (3 : Int32)) % (3 : Int32)) < (2 : Int32) then (0 : Int32) else (if (if ((i4 >>> ((3 : Int32) &&& 31)) &&& (1 : Int32)) = (0 : Int32) then (i2 &&& (255 : Int32)) else (34 : Int32)) = (34 : Int32) then (2 : Int32) else (1 : Int32)))), (.int (if ((i4 &&& (3 : Int32)) % (3 : Int32)) < (1 : Int32) then (0 : Int32) else (if (if ((i4 >>> ((2 : Int32) &&& 31)) &&& (1 : Int32)) = (0 : Int32) then (i1 &&& (255 : Int32)) else (34 : Int32)) = (34 : Int32) then (2 : Int32) else (1 : Int32))))]) (Q_law Z i0 i1 i2 i3 i4 fm cs em h0) room_1.cells room_1.slots true by
  by_cases c123_13 : ((i4 &&& (3 : Int32)) % (3 : Int32)) < (2 : Int32)
  simp only [if_pos c123_13] at J14
  refine o_icmp_lt_t K X0 at_123 (by decide) (pc' := 131) (by decide) c123_13 ?_
  refine o_iconst K X0 at_131 rfl (z := 0) rfl ?_
  exact J14
  simp only [if_neg c123_13] at J14
  refine o_icmp_lt_f K X0 at_123 rfl c123_13 ?_
  refine o_iload K X0 at_126 rfl rfl ?_
  refine o_goto K X0 at_128 (by decide) (pc' := 132) (by decide) ?_
  exact J14
 refine o_iadd K X0 at_132 rfl (z := ((if ((i4 &&& (3 : Int32)) % (3 : Int32)) < (1 : Int32) then (0 : Int32) else (if (if ((i4 >>> ((2 : Int32) &&& 31)) &&& (1 : Int32)) = (0 : Int32) then (i1 &&& (255 : Int32)) else (34 : Int32)) = (34 : Int32) then (2 : Int32) else (1 : Int32))) + (if ((i4 &&& (3 : Int32)) % (3 : Int32)) < (2 : Int32) then (0 : Int32) else (if (if ((i4 >>> ((3 : Int32) &&& 31)) &&& (1 : Int32)) = (0 : Int32) then (i2 &&& (255 : Int32)) else (34 : Int32)) = (34 : Int32) then (2 : Int32) else (1 : Int32))))) rfl ?_
 refine o_istore K X0 at_133 rfl (L' := #[vJ i0, sS, vI i1, vI i2, vI i3, vI i4, vI ((i4 &&& (3 : Int32)) % (3 : Int32)), vI (if ((i4 >>> ((2 : Int32) &&& 31)) &&& (1 : Int32)) = (0 : Int32) then (i1 &&& (255 : Int32)) else (34 : Int32)), vI (if ((i4 >>> ((3 : Int32) &&& 31)) &&& (1 : Int32)) = (0 : Int32) then (i2 &&& (255 : Int32)) else (34 : Int32)), vI ((i4 >>> ((4 : Int32) &&& 31)) &&& (3 : Int32)), vI (if (i3 &&& (255 : Int32)) = (34 : Int32) then (120 : Int32) else (i3 &&& (255 : Int32))), vI (if (if ((i4 >>> ((2 : Int32) &&& 31)) &&& (1 : Int32)) = (0 : Int32) then (i1 &&& (255 : Int32)) else (34 : Int32)) = (34 : Int32) then (2 : Int32) else (1 : Int32)), vI (if (if ((i4 >>> ((3 : Int32) &&& 31)) &&& (1 : Int32)) = (0 : Int32) then (i2 &&& (255 : Int32)) else (34 : Int32)) = (34 : Int32) then (2 : Int32) else (1 : Int32)), vI ((if ((i4 &&& (3 : Int32)) % (3 : Int32)) < (1 : Int32) then (0 : Int32) else (if (if ((i4 >>> ((2 : Int32) &&& 31)) &&& (1 : Int32)) = (0 : Int32) then (i1 &&& (255 : Int32)) else (34 : Int32)) = (34 : Int32) then (2 : Int32) else (1 : Int32))) + (if ((i4 &&& (3 : Int32)) % (3 : Int32)) < (2 : Int32) then (0 : Int32) else (if (if ((i4 >>> ((3 : Int32) &&& 31)) &&& (1 : Int32)) = (0 : Int32) then (i2 &&& (255 : Int32)) else (34 : Int32)) = (34 : Int32) then (2 : Int32) else (1 : Int32)))), uS, uS, uS, uS, uS, uS, uS, uS]) rfl ?_
 refine o_iconst K X0 at_135 rfl (z := 1) rfl ?_
 refine o_iload K X0 at_136 rfl rfl ?_
 refine o_iadd K X0 at_138 rfl (z := ((1 : Int32) + ((if ((i4 &&& (3 : Int32)) % (3 : Int32)) < (1 : Int32) then (0 : Int32) else (if (if ((i4 >>> ((2 : Int32) &&& 31)) &&& (1 : Int32)) = (0 : Int32) then (i1 &&& (255 : Int32)) else (34 : Int32)) = (34 : Int32) then (2 : Int32) else (1 : Int32))) + (if ((i4 &&& (3 : Int32)) % (3 : Int32)) < (2 : Int32) then (0 : Int32) else (if (if ((i4 >>> ((3 : Int32) &&& 31)) &&& (1 : Int32)) = (0 : Int32) then (i2 &&& (255 : Int32)) else (34 : Int32)) = (34 : Int32) then (2 : Int32) else (1 : Int32)))))) rfl ?_
 refine o_iload K X0 at_139 rfl rfl ?_
 suffices J16 : oGoes pp ee bb ss Z T0 (mkF mm 159 #[vJ i0, sS, vI i1, vI i2, vI i3, vI i4, vI ((i4 &&& (3 : Int32)) % (3 : Int32)), vI (if ((i4 >>> ((2 : Int32) &&& 31)) &&& (1 : Int32)) = (0 : Int32) then (i1 &&& (255 : Int32)) else (34 : Int32)), vI (if ((i4 >>> ((3 : Int32) &&& 31)) &&& (1 : Int32)) = (0 : Int32) then (i2 &&& (255 : Int32)) else (34 : Int32)), vI ((i4 >>> ((4 : Int32) &&& 31)) &&& (3 : Int32)), vI (if (i3 &&& (255 : Int32)) = (34 : Int32) then (120 : Int32) else (i3 &&& (255 : Int32))), vI (if (if ((i4 >>> ((2 : Int32) &&& 31)) &&& (1 : Int32)) = (0 : Int32) then (i1 &&& (255 : Int32)) else (34 : Int32)) = (34 : Int32) then (2 : Int32) else (1 : Int32)), vI (if (if ((i4 >>> ((3 : Int32) &&& 31)) &&& (1 : Int32)) = (0 : Int32) then (i2 &&& (255 : Int32)) else (34 : Int32)) = (34 : Int32) then (2 : Int32) else (1 : Int32)), vI ((if ((i4 &&& (3 : Int32)) % (3 : Int32)) < (1 : Int32) then (0 : Int32) else (if (if ((i4 >>> ((2 : Int32) &&& 31)) &&& (1 : Int32)) = (0 : Int32) then (i1 &&& (255 : Int32)) else (34 : Int32)) = (34 : Int32) then (2 : Int32) else (1 : Int32))) + (if ((i4 &&& (3 : Int32)) % (3 : Int32)) < (2 : Int32) then (0 : Int32) else (if (if ((i4 >>> ((3 : Int32) &&& 31)) &&& (1 : Int32)) = (0 : Int32) then (i2 &&& (255 : Int32)) else (34 : Int32)) = (34 : Int32) then (2 : Int32) else (1 : Int32)))), uS, uS, uS, uS, uS, uS, uS, uS] [(.int (if ((i4 >>> ((4 : Int32) &&& 31)) &&& (3 : Int32)) = (0 : Int32) then (0 : Int32) else (if ((i4 >>> ((4 : Int32) &&& 31)) &&& (3 : Int32)) = (1 : Int32) then (1 : Int32) else (2 : Int32)))), (.int ((1 : Int32) + ((if ((i4 &&& (3 : Int32)) % (3 : Int32)) < (1 : Int32) then (0 : Int32) else (if (if ((i4 >>> ((2 : Int32) &&& 31)) &&& (1 : Int32)) = (0 : Int32) then (i1 &&& (255 : Int32)) else (34 : Int32)) = (34 : Int32) then (2 : Int32) else (1 : Int32))) + (if ((i4 &&& (3 : Int32)) % (3 : Int32)) < (2 : Int32) then (0 : Int32) else (if (if ((i4 >>> ((3 : Int32) &&& 31)) &&& (1 : Int32)) = (0 : Int32) then (i2 &&& (255 : Int32)) else (34 : Int32)) = (34 : Int32) then (2 : Int32) else (1 : Int32))))))]) (Q_law Z i0 i1 i2 i3 i4 fm cs em h0) room_1.cells room_1.slots true by
  by_cases c141_15 : ((i4 >>> ((4 : Int32) &&& 31)) &&& (3 : Int32)) = (0 : Int32)
  simp only [if_pos c141_15] at J16
  refine o_if_ne_f K X0 at_141 rfl c141_15 ?_
  refine o_iconst K X0 at_144 rfl (z := 0) rfl ?_
  refine o_goto K X0 at_145 (by decide) (pc' := 159) (by decide) ?_
  exact J16
  simp only [if_neg c141_15] at J16
  refine o_if_ne_t K X0 at_141 (by decide) (pc' := 148) (by decide) c141_15 ?_
  refine o_iload K X0 at_148 rfl rfl ?_
  refine o_iconst K X0 at_150 rfl (z := 1) rfl ?_
  suffices J18 : oGoes pp ee bb ss Z T0 (mkF mm 159 #[vJ i0, sS, vI i1, vI i2, vI i3, vI i4, vI ((i4 &&& (3 : Int32)) % (3 : Int32)), vI (if ((i4 >>> ((2 : Int32) &&& 31)) &&& (1 : Int32)) = (0 : Int32) then (i1 &&& (255 : Int32)) else (34 : Int32)), vI (if ((i4 >>> ((3 : Int32) &&& 31)) &&& (1 : Int32)) = (0 : Int32) then (i2 &&& (255 : Int32)) else (34 : Int32)), vI ((i4 >>> ((4 : Int32) &&& 31)) &&& (3 : Int32)), vI (if (i3 &&& (255 : Int32)) = (34 : Int32) then (120 : Int32) else (i3 &&& (255 : Int32))), vI (if (if ((i4 >>> ((2 : Int32) &&& 31)) &&& (1 : Int32)) = (0 : Int32) then (i1 &&& (255 : Int32)) else (34 : Int32)) = (34 : Int32) then (2 : Int32) else (1 : Int32)), vI (if (if ((i4 >>> ((3 : Int32) &&& 31)) &&& (1 : Int32)) = (0 : Int32) then (i2 &&& (255 : Int32)) else (34 : Int32)) = (34 : Int32) then (2 : Int32) else (1 : Int32)), vI ((if ((i4 &&& (3 : Int32)) % (3 : Int32)) < (1 : Int32) then (0 : Int32) else (if (if ((i4 >>> ((2 : Int32) &&& 31)) &&& (1 : Int32)) = (0 : Int32) then (i1 &&& (255 : Int32)) else (34 : Int32)) = (34 : Int32) then (2 : Int32) else (1 : Int32))) + (if ((i4 &&& (3 : Int32)) % (3 : Int32)) < (2 : Int32) then (0 : Int32) else (if (if ((i4 >>> ((3 : Int32) &&& 31)) &&& (1 : Int32)) = (0 : Int32) then (i2 &&& (255 : Int32)) else (34 : Int32)) = (34 : Int32) then (2 : Int32) else (1 : Int32)))), uS, uS, uS, uS, uS, uS, uS, uS] [(.int (if ((i4 >>> ((4 : Int32) &&& 31)) &&& (3 : Int32)) = (1 : Int32) then (1 : Int32) else (2 : Int32))), (.int ((1 : Int32) + ((if ((i4 &&& (3 : Int32)) % (3 : Int32)) < (1 : Int32) then (0 : Int32) else (if (if ((i4 >>> ((2 : Int32) &&& 31)) &&& (1 : Int32)) = (0 : Int32) then (i1 &&& (255 : Int32)) else (34 : Int32)) = (34 : Int32) then (2 : Int32) else (1 : Int32))) + (if ((i4 &&& (3 : Int32)) % (3 : Int32)) < (2 : Int32) then (0 : Int32) else (if (if ((i4 >>> ((3 : Int32) &&& 31)) &&& (1 : Int32)) = (0 : Int32) then (i2 &&& (255 : Int32)) else (34 : Int32)) = (34 : Int32) then (2 : Int32) else (1 : Int32))))))]) (Q_law Z i0 i1 i2 i3 i4 fm cs em h0) room_1.cells room_1.slots true by
   by_cases c151_17 : ((i4 >>> ((4 : Int32) &&& 31)) &&& (3 : Int32)) = (1 : Int32)
   simp only [if_pos c151_17] at J18
   refine o_icmp_ne_f K X0 at_151 rfl c151_17 ?_
   refine o_iconst K X0 at_154 rfl (z := 1) rfl ?_
   refine o_goto K X0 at_155 (by decide) (pc' := 159) (by decide) ?_
   exact J18
   simp only [if_neg c151_17] at J18
   refine o_icmp_ne_t K X0 at_151 (by decide) (pc' := 158) (by decide) c151_17 ?_
   refine o_iconst K X0 at_158 rfl (z := 2) rfl ?_
   exact J18
  exact J16
 refine o_iadd K X0 at_159 rfl (z := (((1 : Int32) + ((if ((i4 &&& (3 : Int32)) % (3 : Int32)) < (1 : Int32) then (0 : Int32) else (if (if ((i4 >>> ((2 : Int32) &&& 31)) &&& (1 : Int32)) = (0 : Int32) then (i1 &&& (255 : Int32)) else (34 : Int32)) = (34 : Int32) then (2 : Int32) else (1 : Int32))) + (if ((i4 &&& (3 : Int32)) % (3 : Int32)) < (2 : Int32) then (0 : Int32) else (if (if ((i4 >>> ((3 : Int32) &&& 31)) &&& (1 : Int32)) = (0 : Int32) then (i2 &&& (255 : Int32)) else (34 : Int32)) = (34 : Int32) then (2 : Int32) else (1 : Int32))))) + (if ((i4 >>> ((4 : Int32) &&& 31)) &&& (3 : Int32)) = (0 : Int32) then (0 : Int32) else (if ((i4 >>> ((4 : Int32) &&& 31)) &&& (3 : Int32)) = (1 : Int32) then (1 : Int32) else (2 : Int32))))) rfl ?_
 refine o_istore K X0 at_160 rfl (L' := #[vJ i0, sS, vI i1, vI i2, vI i3, vI i4, vI ((i4 &&& (3 : Int32)) % (3 : Int32)), vI (if ((i4 >>> ((2 : Int32) &&& 31)) &&& (1 : Int32)) = (0 : Int32) then (i1 &&& (255 : Int32)) else (34 : Int32)), vI (if ((i4 >>> ((3 : Int32) &&& 31)) &&& (1 : Int32)) = (0 : Int32) then (i2 &&& (255 : Int32)) else (34 : Int32)), vI ((i4 >>> ((4 : Int32) &&& 31)) &&& (3 : Int32)), vI (if (i3 &&& (255 : Int32)) = (34 : Int32) then (120 : Int32) else (i3 &&& (255 : Int32))), vI (if (if ((i4 >>> ((2 : Int32) &&& 31)) &&& (1 : Int32)) = (0 : Int32) then (i1 &&& (255 : Int32)) else (34 : Int32)) = (34 : Int32) then (2 : Int32) else (1 : Int32)), vI (if (if ((i4 >>> ((3 : Int32) &&& 31)) &&& (1 : Int32)) = (0 : Int32) then (i2 &&& (255 : Int32)) else (34 : Int32)) = (34 : Int32) then (2 : Int32) else (1 : Int32)), vI ((if ((i4 &&& (3 : Int32)) % (3 : Int32)) < (1 : Int32) then (0 : Int32) else (if (if ((i4 >>> ((2 : Int32) &&& 31)) &&& (1 : Int32)) = (0 : Int32) then (i1 &&& (255 : Int32)) else (34 : Int32)) = (34 : Int32) then (2 : Int32) else (1 : Int32))) + (if ((i4 &&& (3 : Int32)) % (3 : Int32)) < (2 : Int32) then (0 : Int32) else (if (if ((i4 >>> ((3 : Int32) &&& 31)) &&& (1 : Int32)) = (0 : Int32) then (i2 &&& (255 : Int32)) else (34 : Int32)) = (34 : Int32) then (2 : Int32) else (1 : Int32)))), vI (((1 : Int32) + ((if ((i4 &&& (3 : Int32)) % (3 : Int32)) < (1 : Int32) then (0 : Int32) else (if (if ((i4 >>> ((2 : Int32) &&& 31)) &&& (1 : Int32)) = (0 : Int32) then (i1 &&& (255 : Int32)) else (34 : Int32)) = (34 : Int32) then (2 : Int32) else (1 : Int32))) + (if ((i4 &&& (3 : Int32)) % (3 : Int32)) < (2 : Int32) then (0 : Int32) else (if (if ((i4 >>> ((3 : Int32) &&& 31)) &&& (1 : Int32)) = (0 : Int32) then (i2 &&& (255 : Int32)) else (34 : Int32)) = (34 : Int32) then (2 : Int32) else (1 : Int32))))) + (if ((i4 >>> ((4 : Int32) &&& 31)) &&& (3 : Int32)) = (0 : Int32) then (0 : Int32) else (if ((i4 >>> ((4 : Int32) &&& 31)) &&& (3 : Int32)) = (1 : Int32) then (1 : Int32) else (2 : Int32)))), uS, uS, uS, uS, uS, uS, uS]) rfl ?_
 refine o_bipush K X0 at_162 rfl (z := 7) rfl ?_
 refine o_iload K X0 at_164 rfl rfl ?_
 refine o_isub K X0 at_166 rfl (z := ((7 : Int32) - (((1 : Int32) + ((if ((i4 &&& (3 : Int32)) % (3 : Int32)) < (1 : Int32) then (0 : Int32) else (if (if ((i4 >>> ((2 : Int32) &&& 31)) &&& (1 : Int32)) = (0 : Int32) then (i1 &&& (255 : Int32)) else (34 : Int32)) = (34 : Int32) then (2 : Int32) else (1 : Int32))) + (if ((i4 &&& (3 : Int32)) % (3 : Int32)) < (2 : Int32) then (0 : Int32) else (if (if ((i4 >>> ((3 : Int32) &&& 31)) &&& (1 : Int32)) = (0 : Int32) then (i2 &&& (255 : Int32)) else (34 : Int32)) = (34 : Int32) then (2 : Int32) else (1 : Int32))))) + (if ((i4 >>> ((4 : Int32) &&& 31)) &&& (3 : Int32)) = (0 : Int32) then (0 : Int32) else (if ((i4 >>> ((4 : Int32) &&& 31)) &&& (3 : Int32)) = (1 : Int32) then (1 : Int32) else (2 : Int32)))))) rfl ?_
 refine o_istore K X0 at_167 rfl (L' := #[vJ i0, sS, vI i1, vI i2, vI i3, vI i4, vI ((i4 &&& (3 : Int32)) % (3 : Int32)), vI (if ((i4 >>> ((2 : Int32) &&& 31)) &&& (1 : Int32)) = (0 : Int32) then (i1 &&& (255 : Int32)) else (34 : Int32)), vI (if ((i4 >>> ((3 : Int32) &&& 31)) &&& (1 : Int32)) = (0 : Int32) then (i2 &&& (255 : Int32)) else (34 : Int32)), vI ((i4 >>> ((4 : Int32) &&& 31)) &&& (3 : Int32)), vI (if (i3 &&& (255 : Int32)) = (34 : Int32) then (120 : Int32) else (i3 &&& (255 : Int32))), vI (if (if ((i4 >>> ((2 : Int32) &&& 31)) &&& (1 : Int32)) = (0 : Int32) then (i1 &&& (255 : Int32)) else (34 : Int32)) = (34 : Int32) then (2 : Int32) else (1 : Int32)), vI (if (if ((i4 >>> ((3 : Int32) &&& 31)) &&& (1 : Int32)) = (0 : Int32) then (i2 &&& (255 : Int32)) else (34 : Int32)) = (34 : Int32) then (2 : Int32) else (1 : Int32)), vI ((if ((i4 &&& (3 : Int32)) % (3 : Int32)) < (1 : Int32) then (0 : Int32) else (if (if ((i4 >>> ((2 : Int32) &&& 31)) &&& (1 : Int32)) = (0 : Int32) then (i1 &&& (255 : Int32)) else (34 : Int32)) = (34 : Int32) then (2 : Int32) else (1 : Int32))) + (if ((i4 &&& (3 : Int32)) % (3 : Int32)) < (2 : Int32) then (0 : Int32) else (if (if ((i4 >>> ((3 : Int32) &&& 31)) &&& (1 : Int32)) = (0 : Int32) then (i2 &&& (255 : Int32)) else (34 : Int32)) = (34 : Int32) then (2 : Int32) else (1 : Int32)))), vI (((1 : Int32) + ((if ((i4 &&& (3 : Int32)) % (3 : Int32)) < (1 : Int32) then (0 : Int32) else (if (if ((i4 >>> ((2 : Int32) &&& 31)) &&& (1 : Int32)) = (0 : Int32) then (i1 &&& (255 : Int32)) else (34 : Int32)) = (34 : Int32) then (2 : Int32) else (1 : Int32))) + (if ((i4 &&& (3 : Int32)) % (3 : Int32)) < (2 : Int32) then (0 : Int32) else (if (if ((i4 >>> ((3 : Int32) &&& 31)) &&& (1 : Int32)) = (0 : Int32) then (i2 &&& (255 : Int32)) else (34 : Int32)) = (34 : Int32) then (2 : Int32) else (1 : Int32))))) + (if ((i4 >>> ((4 : Int32) &&& 31)) &&& (3 : Int32)) = (0 : Int32) then (0 : Int32) else (if ((i4 >>> ((4 : Int32) &&& 31)) &&& (3 : Int32)) = (1 : Int32) then (1 : Int32) else (2 : Int32)))), vI ((7 : Int32) - (((1 : Int32) + ((if ((i4 &&& (3 : Int32)) % (3 : Int32)) < (1 : Int32) then (0 : Int32) else (if (if ((i4 >>> ((2 : Int32) &&& 31)) &&& (1 : Int32)) = (0 : Int32) then (i1 &&& (255 : Int32)) else (34 : Int32)) = (34 : Int32) then (2 : Int32) else (1 : Int32))) + (if ((i4 &&& (3 : Int32)) % (3 : Int32)) < (2 : Int32) then (0 : Int32) else (if (if ((i4 >>> ((3 : Int32) &&& 31)) &&& (1 : Int32)) = (0 : Int32) then (i2 &&& (255 : Int32)) else (34 : Int32)) = (34 : Int32) then (2 : Int32) else (1 : Int32))))) + (if ((i4 >>> ((4 : Int32) &&& 31)) &&& (3 : Int32)) = (0 : Int32) then (0 : Int32) else (if ((i4 >>> ((4 : Int32) &&& 31)) &&& (3 : Int32)) = (1 : Int32) then (1 : Int32) else (2 : Int32))))), uS, uS, uS, uS, uS, uS]) rfl ?_
 obtain ⟨k, e_k⟩ : ∃ x : Int32, x = ((i4 &&& (3 : Int32)) % (3 : Int32)) := ⟨_, rfl⟩
 rw [← e_k]
 obtain ⟨sv0, e_sv0⟩ : ∃ x : Int32, x = (if ((i4 >>> ((2 : Int32) &&& 31)) &&& (1 : Int32)) = (0 : Int32) then (i1 &&& (255 : Int32)) else (34 : Int32)) := ⟨_, rfl⟩
 rw [← e_sv0]
 have c_sv0 : oCh sv0 := by rw [e_sv0]; exact (oChI (oChM _) oCh34)
 obtain ⟨sv1, e_sv1⟩ : ∃ x : Int32, x = (if ((i4 >>> ((3 : Int32) &&& 31)) &&& (1 : Int32)) = (0 : Int32) then (i2 &&& (255 : Int32)) else (34 : Int32)) := ⟨_, rfl⟩
 rw [← e_sv1]
 have c_sv1 : oCh sv1 := by rw [e_sv1]; exact (oChI (oChM _) oCh34)
 obtain ⟨mode, e_mode⟩ : ∃ x : Int32, x = ((i4 >>> ((4 : Int32) &&& 31)) &&& (3 : Int32)) := ⟨_, rfl⟩
 rw [← e_mode]
 obtain ⟨tc, e_tc⟩ : ∃ x : Int32, x = (if (i3 &&& (255 : Int32)) = (34 : Int32) then (120 : Int32) else (i3 &&& (255 : Int32))) := ⟨_, rfl⟩
 rw [← e_tc]
 have c_tc : oCh tc := by rw [e_tc]; exact (oChI oCh120 (oChM _))
 have n_tc : ¬ (tc = (34 : Int32)) := by rw [e_tc]; exact oTc _
 obtain ⟨ww0, e_ww0⟩ : ∃ x : Int32, x = (if sv0 = (34 : Int32) then (2 : Int32) else (1 : Int32)) := ⟨_, rfl⟩
 rw [← e_ww0]
 obtain ⟨ww1, e_ww1⟩ : ∃ x : Int32, x = (if sv1 = (34 : Int32) then (2 : Int32) else (1 : Int32)) := ⟨_, rfl⟩
 rw [← e_ww1]
 obtain ⟨enc, e_enc⟩ : ∃ x : Int32, x = ((if k < (1 : Int32) then (0 : Int32) else ww0) + (if k < (2 : Int32) then (0 : Int32) else ww1)) := ⟨_, rfl⟩
 rw [← e_enc]
 obtain ⟨rest, e_rest⟩ : ∃ x : Int32, x = (((1 : Int32) + enc) + (if mode = (0 : Int32) then (0 : Int32) else (if mode = (1 : Int32) then (1 : Int32) else (2 : Int32)))) := ⟨_, rfl⟩
 rw [← e_rest]
 obtain ⟨start, e_start⟩ : ∃ x : Int32, x = ((7 : Int32) - rest) := ⟨_, rfl⟩
 rw [← e_start]
 refine o_bipush K X0 at_169 rfl (z := 7) rfl ?_
 refine o_newarray K X0 (aty := .char) 7 (w0 hw) (ad := "[C") (by decide +kernel) (by decide) (by decide) (by decide) rfl at_171 rfl (by decide) (by decide) ?_
 intro T19 h19 b19 k19 X19 g19 E19 A19 B19 G19
 replace A19 : oArr Z h19 b19 k19 .char [.int 0, .int 0, .int 0, .int 0, .int 0, .int 0, .int 0] := A19
 refine o_astore K X19 at_173 rfl rfl (L' := #[vJ i0, sS, vI i1, vI i2, vI i3, vI i4, vI k, vI sv0, vI sv1, vI mode, vI tc, vI ww0, vI ww1, vI enc, vI rest, vI start, vR b19, uS, uS, uS, uS, uS]) rfl ?_
 refine o_aload K X19 at_175 rfl rfl rfl ?_
 refine o_iconst K X19 at_177 rfl (z := 0) rfl ?_
 refine o_lloadN K X19 at_178 rfl rfl ?_
 refine o_ldc2 K X19 (w1 hw) at_179 rfl ?_
 refine o_land K X19 at_182 rfl (z := (i0 &&& (255 : Int64))) rfl ?_
 refine o_l2i K X19 at_183 rfl (z := ((i0 &&& (255 : Int64)).toInt32)) rfl ?_
 refine o_i2c K X19 at_184 rfl (z := (((i0 &&& (255 : Int64)).toInt32).toUInt32.toUInt16.toUInt32.toInt32)) rfl ?_
 refine o_castore K X19 A19 (by decide) (show (0 : Int32).toNatClampNeg < 7 from (by decide)) G19 me0 (z := (.int (((i0 &&& (255 : Int64)).toInt32).toUInt32.toUInt16.toUInt32.toInt32))) (congrArg Value.int (oNarIdemchar _)) at_185 rfl ?_
 intro T20 h20 X20 W20 A20
 replace A20 : oArr Z h20 b19 k19 .char [(.int (((i0 &&& (255 : Int64)).toInt32).toUInt32.toUInt16.toUInt32.toInt32)), .int 0, .int 0, .int 0, .int 0, .int 0, .int 0] := A20
 refine o_aload K X20 at_186 rfl rfl rfl ?_
 refine o_iconst K X20 at_188 rfl (z := 1) rfl ?_
 refine o_lloadN K X20 at_189 rfl rfl ?_
 refine o_bipush K X20 at_190 rfl (z := 8) rfl ?_
 refine o_lushr K X20 at_192 rfl (z := ((i0.toUInt64 >>> ((8 : Int32) &&& 0x3f).toInt64.toUInt64).toInt64)) rfl ?_
 refine o_ldc2 K X20 (w1 hw) at_193 rfl ?_
 refine o_land K X20 at_196 rfl (z := (((i0.toUInt64 >>> ((8 : Int32) &&& 0x3f).toInt64.toUInt64).toInt64) &&& (255 : Int64))) rfl ?_
 refine o_l2i K X20 at_197 rfl (z := ((((i0.toUInt64 >>> ((8 : Int32) &&& 0x3f).toInt64.toUInt64).toInt64) &&& (255 : Int64)).toInt32)) rfl ?_
 refine o_i2c K X20 at_198 rfl (z := (((((i0.toUInt64 >>> ((8 : Int32) &&& 0x3f).toInt64.toUInt64).toInt64) &&& (255 : Int64)).toInt32).toUInt32.toUInt16.toUInt32.toInt32)) rfl ?_
 refine o_castore K X20 A20 (by decide) (show (1 : Int32).toNatClampNeg < 7 from (by decide)) G19 me0 (z := (.int (((((i0.toUInt64 >>> ((8 : Int32) &&& 0x3f).toInt64.toUInt64).toInt64) &&& (255 : Int64)).toInt32).toUInt32.toUInt16.toUInt32.toInt32))) (congrArg Value.int (oNarIdemchar _)) at_199 rfl ?_
 intro T21 h21 X21 W21 A21
 replace A21 : oArr Z h21 b19 k19 .char [(.int (((i0 &&& (255 : Int64)).toInt32).toUInt32.toUInt16.toUInt32.toInt32)), (.int (((((i0.toUInt64 >>> ((8 : Int32) &&& 0x3f).toInt64.toUInt64).toInt64) &&& (255 : Int64)).toInt32).toUInt32.toUInt16.toUInt32.toInt32)), .int 0, .int 0, .int 0, .int 0, .int 0] := A21
 refine o_aload K X21 at_200 rfl rfl rfl ?_
 refine o_iconst K X21 at_202 rfl (z := 2) rfl ?_
 refine o_lloadN K X21 at_203 rfl rfl ?_
 refine o_bipush K X21 at_204 rfl (z := 16) rfl ?_
 refine o_lushr K X21 at_206 rfl (z := ((i0.toUInt64 >>> ((16 : Int32) &&& 0x3f).toInt64.toUInt64).toInt64)) rfl ?_
 refine o_ldc2 K X21 (w1 hw) at_207 rfl ?_
 refine o_land K X21 at_210 rfl (z := (((i0.toUInt64 >>> ((16 : Int32) &&& 0x3f).toInt64.toUInt64).toInt64) &&& (255 : Int64))) rfl ?_
 refine o_l2i K X21 at_211 rfl (z := ((((i0.toUInt64 >>> ((16 : Int32) &&& 0x3f).toInt64.toUInt64).toInt64) &&& (255 : Int64)).toInt32)) rfl ?_
 refine o_i2c K X21 at_212 rfl (z := (((((i0.toUInt64 >>> ((16 : Int32) &&& 0x3f).toInt64.toUInt64).toInt64) &&& (255 : Int64)).toInt32).toUInt32.toUInt16.toUInt32.toInt32)) rfl ?_
 refine o_castore K X21 A21 (by decide) (show (2 : Int32).toNatClampNeg < 7 from (by decide)) G19 me0 (z := (.int (((((i0.toUInt64 >>> ((16 : Int32) &&& 0x3f).toInt64.toUInt64).toInt64) &&& (255 : Int64)).toInt32).toUInt32.toUInt16.toUInt32.toInt32))) (congrArg Value.int (oNarIdemchar _)) at_213 rfl ?_
 intro T22 h22 X22 W22 A22
 replace A22 : oArr Z h22 b19 k19 .char [(.int (((i0 &&& (255 : Int64)).toInt32).toUInt32.toUInt16.toUInt32.toInt32)), (.int (((((i0.toUInt64 >>> ((8 : Int32) &&& 0x3f).toInt64.toUInt64).toInt64) &&& (255 : Int64)).toInt32).toUInt32.toUInt16.toUInt32.toInt32)), (.int (((((i0.toUInt64 >>> ((16 : Int32) &&& 0x3f).toInt64.toUInt64).toInt64) &&& (255 : Int64)).toInt32).toUInt32.toUInt16.toUInt32.toInt32)), .int 0, .int 0, .int 0, .int 0] := A22
 refine o_aload K X22 at_214 rfl rfl rfl ?_
 refine o_iconst K X22 at_216 rfl (z := 3) rfl ?_
 refine o_lloadN K X22 at_217 rfl rfl ?_
 refine o_bipush K X22 at_218 rfl (z := 24) rfl ?_
 refine o_lushr K X22 at_220 rfl (z := ((i0.toUInt64 >>> ((24 : Int32) &&& 0x3f).toInt64.toUInt64).toInt64)) rfl ?_
 refine o_ldc2 K X22 (w1 hw) at_221 rfl ?_
 refine o_land K X22 at_224 rfl (z := (((i0.toUInt64 >>> ((24 : Int32) &&& 0x3f).toInt64.toUInt64).toInt64) &&& (255 : Int64))) rfl ?_
 refine o_l2i K X22 at_225 rfl (z := ((((i0.toUInt64 >>> ((24 : Int32) &&& 0x3f).toInt64.toUInt64).toInt64) &&& (255 : Int64)).toInt32)) rfl ?_
 refine o_i2c K X22 at_226 rfl (z := (((((i0.toUInt64 >>> ((24 : Int32) &&& 0x3f).toInt64.toUInt64).toInt64) &&& (255 : Int64)).toInt32).toUInt32.toUInt16.toUInt32.toInt32)) rfl ?_
 refine o_castore K X22 A22 (by decide) (show (3 : Int32).toNatClampNeg < 7 from (by decide)) G19 me0 (z := (.int (((((i0.toUInt64 >>> ((24 : Int32) &&& 0x3f).toInt64.toUInt64).toInt64) &&& (255 : Int64)).toInt32).toUInt32.toUInt16.toUInt32.toInt32))) (congrArg Value.int (oNarIdemchar _)) at_227 rfl ?_
 intro T23 h23 X23 W23 A23
 replace A23 : oArr Z h23 b19 k19 .char [(.int (((i0 &&& (255 : Int64)).toInt32).toUInt32.toUInt16.toUInt32.toInt32)), (.int (((((i0.toUInt64 >>> ((8 : Int32) &&& 0x3f).toInt64.toUInt64).toInt64) &&& (255 : Int64)).toInt32).toUInt32.toUInt16.toUInt32.toInt32)), (.int (((((i0.toUInt64 >>> ((16 : Int32) &&& 0x3f).toInt64.toUInt64).toInt64) &&& (255 : Int64)).toInt32).toUInt32.toUInt16.toUInt32.toInt32)), (.int (((((i0.toUInt64 >>> ((24 : Int32) &&& 0x3f).toInt64.toUInt64).toInt64) &&& (255 : Int64)).toInt32).toUInt32.toUInt16.toUInt32.toInt32)), .int 0, .int 0, .int 0] := A23
 refine o_aload K X23 at_228 rfl rfl rfl ?_
 refine o_iconst K X23 at_230 rfl (z := 4) rfl ?_
 refine o_lloadN K X23 at_231 rfl rfl ?_
 refine o_bipush K X23 at_232 rfl (z := 32) rfl ?_
 refine o_lushr K X23 at_234 rfl (z := ((i0.toUInt64 >>> ((32 : Int32) &&& 0x3f).toInt64.toUInt64).toInt64)) rfl ?_
 refine o_ldc2 K X23 (w1 hw) at_235 rfl ?_
 refine o_land K X23 at_238 rfl (z := (((i0.toUInt64 >>> ((32 : Int32) &&& 0x3f).toInt64.toUInt64).toInt64) &&& (255 : Int64))) rfl ?_
 refine o_l2i K X23 at_239 rfl (z := ((((i0.toUInt64 >>> ((32 : Int32) &&& 0x3f).toInt64.toUInt64).toInt64) &&& (255 : Int64)).toInt32)) rfl ?_
 refine o_i2c K X23 at_240 rfl (z := (((((i0.toUInt64 >>> ((32 : Int32) &&& 0x3f).toInt64.toUInt64).toInt64) &&& (255 : Int64)).toInt32).toUInt32.toUInt16.toUInt32.toInt32)) rfl ?_
 refine o_castore K X23 A23 (by decide) (show (4 : Int32).toNatClampNeg < 7 from (by decide)) G19 me0 (z := (.int (((((i0.toUInt64 >>> ((32 : Int32) &&& 0x3f).toInt64.toUInt64).toInt64) &&& (255 : Int64)).toInt32).toUInt32.toUInt16.toUInt32.toInt32))) (congrArg Value.int (oNarIdemchar _)) at_241 rfl ?_
 intro T24 h24 X24 W24 A24
 replace A24 : oArr Z h24 b19 k19 .char [(.int (((i0 &&& (255 : Int64)).toInt32).toUInt32.toUInt16.toUInt32.toInt32)), (.int (((((i0.toUInt64 >>> ((8 : Int32) &&& 0x3f).toInt64.toUInt64).toInt64) &&& (255 : Int64)).toInt32).toUInt32.toUInt16.toUInt32.toInt32)), (.int (((((i0.toUInt64 >>> ((16 : Int32) &&& 0x3f).toInt64.toUInt64).toInt64) &&& (255 : Int64)).toInt32).toUInt32.toUInt16.toUInt32.toInt32)), (.int (((((i0.toUInt64 >>> ((24 : Int32) &&& 0x3f).toInt64.toUInt64).toInt64) &&& (255 : Int64)).toInt32).toUInt32.toUInt16.toUInt32.toInt32)), (.int (((((i0.toUInt64 >>> ((32 : Int32) &&& 0x3f).toInt64.toUInt64).toInt64) &&& (255 : Int64)).toInt32).toUInt32.toUInt16.toUInt32.toInt32)), .int 0, .int 0] := A24
 refine o_aload K X24 at_242 rfl rfl rfl ?_
 refine o_iconst K X24 at_244 rfl (z := 5) rfl ?_
 refine o_lloadN K X24 at_245 rfl rfl ?_
 refine o_bipush K X24 at_246 rfl (z := 40) rfl ?_
 refine o_lushr K X24 at_248 rfl (z := ((i0.toUInt64 >>> ((40 : Int32) &&& 0x3f).toInt64.toUInt64).toInt64)) rfl ?_
 refine o_ldc2 K X24 (w1 hw) at_249 rfl ?_
 refine o_land K X24 at_252 rfl (z := (((i0.toUInt64 >>> ((40 : Int32) &&& 0x3f).toInt64.toUInt64).toInt64) &&& (255 : Int64))) rfl ?_
 refine o_l2i K X24 at_253 rfl (z := ((((i0.toUInt64 >>> ((40 : Int32) &&& 0x3f).toInt64.toUInt64).toInt64) &&& (255 : Int64)).toInt32)) rfl ?_
 refine o_i2c K X24 at_254 rfl (z := (((((i0.toUInt64 >>> ((40 : Int32) &&& 0x3f).toInt64.toUInt64).toInt64) &&& (255 : Int64)).toInt32).toUInt32.toUInt16.toUInt32.toInt32)) rfl ?_
 refine o_castore K X24 A24 (by decide) (show (5 : Int32).toNatClampNeg < 7 from (by decide)) G19 me0 (z := (.int (((((i0.toUInt64 >>> ((40 : Int32) &&& 0x3f).toInt64.toUInt64).toInt64) &&& (255 : Int64)).toInt32).toUInt32.toUInt16.toUInt32.toInt32))) (congrArg Value.int (oNarIdemchar _)) at_255 rfl ?_
 intro T25 h25 X25 W25 A25
 replace A25 : oArr Z h25 b19 k19 .char [(.int (((i0 &&& (255 : Int64)).toInt32).toUInt32.toUInt16.toUInt32.toInt32)), (.int (((((i0.toUInt64 >>> ((8 : Int32) &&& 0x3f).toInt64.toUInt64).toInt64) &&& (255 : Int64)).toInt32).toUInt32.toUInt16.toUInt32.toInt32)), (.int (((((i0.toUInt64 >>> ((16 : Int32) &&& 0x3f).toInt64.toUInt64).toInt64) &&& (255 : Int64)).toInt32).toUInt32.toUInt16.toUInt32.toInt32)), (.int (((((i0.toUInt64 >>> ((24 : Int32) &&& 0x3f).toInt64.toUInt64).toInt64) &&& (255 : Int64)).toInt32).toUInt32.toUInt16.toUInt32.toInt32)), (.int (((((i0.toUInt64 >>> ((32 : Int32) &&& 0x3f).toInt64.toUInt64).toInt64) &&& (255 : Int64)).toInt32).toUInt32.toUInt16.toUInt32.toInt32)), (.int (((((i0.toUInt64 >>> ((40 : Int32) &&& 0x3f).toInt64.toUInt64).toInt64) &&& (255 : Int64)).toInt32).toUInt32.toUInt16.toUInt32.toInt32)), .int 0] := A25
 refine o_aload K X25 at_256 rfl rfl rfl ?_
 refine o_bipush K X25 at_258 rfl (z := 6) rfl ?_
 refine o_lloadN K X25 at_260 rfl rfl ?_
 refine o_bipush K X25 at_261 rfl (z := 48) rfl ?_
 refine o_lushr K X25 at_263 rfl (z := ((i0.toUInt64 >>> ((48 : Int32) &&& 0x3f).toInt64.toUInt64).toInt64)) rfl ?_
 refine o_ldc2 K X25 (w1 hw) at_264 rfl ?_
 refine o_land K X25 at_267 rfl (z := (((i0.toUInt64 >>> ((48 : Int32) &&& 0x3f).toInt64.toUInt64).toInt64) &&& (255 : Int64))) rfl ?_
 refine o_l2i K X25 at_268 rfl (z := ((((i0.toUInt64 >>> ((48 : Int32) &&& 0x3f).toInt64.toUInt64).toInt64) &&& (255 : Int64)).toInt32)) rfl ?_
 refine o_i2c K X25 at_269 rfl (z := (((((i0.toUInt64 >>> ((48 : Int32) &&& 0x3f).toInt64.toUInt64).toInt64) &&& (255 : Int64)).toInt32).toUInt32.toUInt16.toUInt32.toInt32)) rfl ?_
 refine o_castore K X25 A25 (by decide) (show (6 : Int32).toNatClampNeg < 7 from (by decide)) G19 me0 (z := (.int (((((i0.toUInt64 >>> ((48 : Int32) &&& 0x3f).toInt64.toUInt64).toInt64) &&& (255 : Int64)).toInt32).toUInt32.toUInt16.toUInt32.toInt32))) (congrArg Value.int (oNarIdemchar _)) at_270 rfl ?_
 intro T26 h26 X26 W26 A26
 replace A26 : oArr Z h26 b19 k19 .char [(.int (((i0 &&& (255 : Int64)).toInt32).toUInt32.toUInt16.toUInt32.toInt32)), (.int (((((i0.toUInt64 >>> ((8 : Int32) &&& 0x3f).toInt64.toUInt64).toInt64) &&& (255 : Int64)).toInt32).toUInt32.toUInt16.toUInt32.toInt32)), (.int (((((i0.toUInt64 >>> ((16 : Int32) &&& 0x3f).toInt64.toUInt64).toInt64) &&& (255 : Int64)).toInt32).toUInt32.toUInt16.toUInt32.toInt32)), (.int (((((i0.toUInt64 >>> ((24 : Int32) &&& 0x3f).toInt64.toUInt64).toInt64) &&& (255 : Int64)).toInt32).toUInt32.toUInt16.toUInt32.toInt32)), (.int (((((i0.toUInt64 >>> ((32 : Int32) &&& 0x3f).toInt64.toUInt64).toInt64) &&& (255 : Int64)).toInt32).toUInt32.toUInt16.toUInt32.toInt32)), (.int (((((i0.toUInt64 >>> ((40 : Int32) &&& 0x3f).toInt64.toUInt64).toInt64) &&& (255 : Int64)).toInt32).toUInt32.toUInt16.toUInt32.toInt32)), (.int (((((i0.toUInt64 >>> ((48 : Int32) &&& 0x3f).toInt64.toUInt64).toInt64) &&& (255 : Int64)).toInt32).toUInt32.toUInt16.toUInt32.toInt32))] := A26
 obtain ⟨p0, ep0⟩ : ∃ x : Int32, x = (((i0 &&& (255 : Int64)).toInt32).toUInt32.toUInt16.toUInt32.toInt32) := ⟨_, rfl⟩
 have c_p0 : oCh p0 := by rw [ep0]; exact oPre _
 obtain ⟨p1, ep1⟩ : ∃ x : Int32, x = (((((i0.toUInt64 >>> ((8 : Int32) &&& 0x3f).toInt64.toUInt64).toInt64) &&& (255 : Int64)).toInt32).toUInt32.toUInt16.toUInt32.toInt32) := ⟨_, rfl⟩
 have c_p1 : oCh p1 := by rw [ep1]; exact oPre _
 obtain ⟨p2, ep2⟩ : ∃ x : Int32, x = (((((i0.toUInt64 >>> ((16 : Int32) &&& 0x3f).toInt64.toUInt64).toInt64) &&& (255 : Int64)).toInt32).toUInt32.toUInt16.toUInt32.toInt32) := ⟨_, rfl⟩
 have c_p2 : oCh p2 := by rw [ep2]; exact oPre _
 obtain ⟨p3, ep3⟩ : ∃ x : Int32, x = (((((i0.toUInt64 >>> ((24 : Int32) &&& 0x3f).toInt64.toUInt64).toInt64) &&& (255 : Int64)).toInt32).toUInt32.toUInt16.toUInt32.toInt32) := ⟨_, rfl⟩
 have c_p3 : oCh p3 := by rw [ep3]; exact oPre _
 obtain ⟨p4, ep4⟩ : ∃ x : Int32, x = (((((i0.toUInt64 >>> ((32 : Int32) &&& 0x3f).toInt64.toUInt64).toInt64) &&& (255 : Int64)).toInt32).toUInt32.toUInt16.toUInt32.toInt32) := ⟨_, rfl⟩
 have c_p4 : oCh p4 := by rw [ep4]; exact oPre _
 obtain ⟨p5, ep5⟩ : ∃ x : Int32, x = (((((i0.toUInt64 >>> ((40 : Int32) &&& 0x3f).toInt64.toUInt64).toInt64) &&& (255 : Int64)).toInt32).toUInt32.toUInt16.toUInt32.toInt32) := ⟨_, rfl⟩
 have c_p5 : oCh p5 := by rw [ep5]; exact oPre _
 obtain ⟨p6, ep6⟩ : ∃ x : Int32, x = (((((i0.toUInt64 >>> ((48 : Int32) &&& 0x3f).toInt64.toUInt64).toInt64) &&& (255 : Int64)).toInt32).toUInt32.toUInt16.toUInt32.toInt32) := ⟨_, rfl⟩
 have c_p6 : oCh p6 := by rw [ep6]; exact oPre _
 rw [← ep0, ← ep1, ← ep2, ← ep3, ← ep4, ← ep5, ← ep6] at A26
 rcases oK3 i4 with ek | ek | ek
 obtain rfl : k = (0 : Int32) := e_k.trans ek
 rcases oM4 (i4 >>> ((4 : Int32) &&& 31)) with eM | eM | ⟨eM0, eM1, eM2⟩
 obtain rfl : mode = (0 : Int32) := e_mode.trans eM
 obtain rfl : enc = (0 : Int32) := e_enc.trans (by simp +decide)
 obtain rfl : rest = (1 : Int32) := e_rest.trans (by decide)
 obtain rfl : start = (6 : Int32) := e_start.trans (by decide)
 refine o_iload K X26 at_271 rfl rfl ?_
 refine o_istore K X26 at_273 rfl (L' := #[vJ i0, sS, vI i1, vI i2, vI i3, vI i4, vI 0, vI sv0, vI sv1, vI 0, vI tc, vI ww0, vI ww1, vI 0, vI 1, vI 6, vR b19, vI 6, uS, uS, uS, uS]) rfl ?_
 refine o_aload K X26 at_275 rfl rfl rfl ?_
 refine o_iload K X26 at_277 rfl rfl ?_
 refine o_bipush K X26 at_279 rfl (z := 34) rfl ?_
 refine o_castore K X26 A26 (by decide) (show (6 : Int32).toNatClampNeg < 7 from (by decide)) G19 me0 (z := (.int 34)) (congrArg Value.int (by decide)) at_281 rfl ?_
 intro T27 h27 X27 W27 A27
 replace A27 : oArr Z h27 b19 k19 .char [.int p0, .int p1, .int p2, .int p3, .int p4, .int p5, .int 34] := A27
 refine o_iinc K X27 at_282 rfl rfl (L' := #[vJ i0, sS, vI i1, vI i2, vI i3, vI i4, vI 0, vI sv0, vI sv1, vI 0, vI tc, vI ww0, vI ww1, vI 0, vI 1, vI 6, vR b19, vI 7, uS, uS, uS, uS]) (by rw [show (6 : Int32) + Int32.ofInt 1 = (7 : Int32) from (by decide)]; rfl) ?_
 refine o_iload K X27 at_285 rfl rfl ?_
 refine o_iconst K X27 at_287 rfl (z := 1) rfl ?_
 refine o_icmp_lt_t K X27 at_288 (by decide) (pc' := 318) (by decide) (by decide) ?_
 refine o_iload K X27 at_318 rfl rfl ?_
 refine o_iconst K X27 at_320 rfl (z := 2) rfl ?_
 refine o_icmp_lt_t K X27 at_321 (by decide) (pc' := 351) (by decide) (by decide) ?_
 refine o_iload K X27 at_351 rfl rfl ?_
 refine o_if_eq_t K X27 at_353 (by decide) (pc' := 382) (by decide) (by decide) ?_
 refine o_new K X27 (w2 hw) (w3 hw) (w4 hw) at_382 rfl (by decide) (by decide) ?_
 intro T28 h28 b28 X28 g28 E28 A28 D28 G28
 have F28_coder : Fld Z h28 b28 z0 "coder" "B" (.int 0) := (D28 (Or.inr (w28 hw)) (ty := .byte) (by decide))
 have F28_value : Fld Z h28 b28 z0 "value" "[B" .null := (D28 (Or.inr (w30 hw)) (ty := (.array .byte)) (by decide))
 refine o_dup K X28 at_385 rfl rfl ?_
 refine o_aload K X28 at_386 rfl rfl rfl ?_
 have m29 := (A27.ext E28)
 refine o_special K X28 (y := (⟨z0, "<init>", "([C)V"⟩ : MethodName)) rfl (w5 hw) (w6 hw) (w4 hw) (w7 hw) (by decide) (rm_str_7 l Z a0 hw b28 b19 k19 cs p0 p1 p2 p3 p4 p5 34 h28 A28 F28_value F28_coder G28 m29 q2 q3 c_p0.2 c_p1.2 c_p2.2 c_p3.2 c_p4.2 c_p5.2 (by decide)) (allS me0 all0) (by decide) rfl (argsL := [.ref b19]) rfl (lenOf pd33 rfl) (W := 1) rfl (by decide) (by decide) (by decide) at_388 rfl ?_
 intro v30 T30 h30 FX30 U30
 obtain ⟨vb_30, k_30, rfl, u30_0, u30_1, u30_2, u30_3, u30_4, u30_5⟩ := U30
 have G30_vb : Z.heap.size ≤ vb_30 := Nat.le_trans X28.ext0.1 u30_4
 have X30 := FX30 [vb_30] (Or.inl rfl) (allS ⟨u30_4, u30_5.lt⟩ all0)
 show oGoes pp ee bb ss Z T30 (mkF mm 391 _ [.ref b28]) _ _ _ _
 refine o_astore K X30 at_391 rfl rfl (L' := #[vJ i0, sS, vI i1, vI i2, vI i3, vI i4, vI 0, vI sv0, vI sv1, vI 0, vI tc, vI ww0, vI ww1, vI 0, vI 1, vI 6, vR b19, vI 7, vR b28, uS, uS, uS]) rfl ?_
 refine o_aload K X30 at_393 rfl rfl rfl ?_
 refine o_iload K X30 at_395 rfl rfl ?_
 refine o_static K X30  (w31 hw) (w32 hw) (w33 hw) (w34 hw) (by decide) (rm_read_e_0 l Z a0 hw b28 vb_30 k_30 p0 p1 p2 p3 p4 p5 34 fm cs em h30 u30_1 u30_2 u30_3 u30_5 q0 q1 q2 q3 q4) all0 (by decide) rfl (argsL := [.ref b28, .int 6]) rfl (lenOf pd34 rfl) (W := 0) rfl (by decide) (by decide) (by decide) at_397 rfl ?_
 intro v31 T31 h31 FX31 U31
 obtain ⟨rfl, u31_0⟩ := U31
 have X31 := FX31 [] (Or.inl rfl) all0
 show oGoes pp ee bb ss Z T31 (mkF mm 400 _ [.ref em]) _ _ _ _
 refine tl_lwe l Z a0 hw i0 i1 i2 i3 i4 0 sv0 sv1 tc ww0 ww1 0 1 6 7 b19 b28 em h31 q5 q6 (fun v32 h32 U32 => ?_) K (X31.mono (by decide) (by decide) (by decide) all0)
 obtain rfl : v32 = some (.int 1) := U32
 exact rfl
 obtain rfl : mode = (1 : Int32) := e_mode.trans eM
 obtain rfl : enc = (0 : Int32) := e_enc.trans (by simp +decide)
 obtain rfl : rest = (2 : Int32) := e_rest.trans (by decide)
 obtain rfl : start = (5 : Int32) := e_start.trans (by decide)
 refine o_iload K X26 at_271 rfl rfl ?_
 refine o_istore K X26 at_273 rfl (L' := #[vJ i0, sS, vI i1, vI i2, vI i3, vI i4, vI 0, vI sv0, vI sv1, vI 1, vI tc, vI ww0, vI ww1, vI 0, vI 2, vI 5, vR b19, vI 5, uS, uS, uS, uS]) rfl ?_
 refine o_aload K X26 at_275 rfl rfl rfl ?_
 refine o_iload K X26 at_277 rfl rfl ?_
 refine o_bipush K X26 at_279 rfl (z := 34) rfl ?_
 refine o_castore K X26 A26 (by decide) (show (5 : Int32).toNatClampNeg < 7 from (by decide)) G19 me0 (z := (.int 34)) (congrArg Value.int (by decide)) at_281 rfl ?_
 intro T33 h33 X33 W33 A33
 replace A33 : oArr Z h33 b19 k19 .char [.int p0, .int p1, .int p2, .int p3, .int p4, .int 34, .int p6] := A33
 refine o_iinc K X33 at_282 rfl rfl (L' := #[vJ i0, sS, vI i1, vI i2, vI i3, vI i4, vI 0, vI sv0, vI sv1, vI 1, vI tc, vI ww0, vI ww1, vI 0, vI 2, vI 5, vR b19, vI 6, uS, uS, uS, uS]) (by rw [show (5 : Int32) + Int32.ofInt 1 = (6 : Int32) from (by decide)]; rfl) ?_
 refine o_iload K X33 at_285 rfl rfl ?_
 refine o_iconst K X33 at_287 rfl (z := 1) rfl ?_
 refine o_icmp_lt_t K X33 at_288 (by decide) (pc' := 318) (by decide) (by decide) ?_
 refine o_iload K X33 at_318 rfl rfl ?_
 refine o_iconst K X33 at_320 rfl (z := 2) rfl ?_
 refine o_icmp_lt_t K X33 at_321 (by decide) (pc' := 351) (by decide) (by decide) ?_
 refine o_iload K X33 at_351 rfl rfl ?_
 refine o_if_eq_f K X33 at_353 rfl (by decide) ?_
 refine o_aload K X33 at_356 rfl rfl rfl ?_
 refine o_iload K X33 at_358 rfl rfl ?_
 refine o_bipush K X33 at_360 rfl (z := 34) rfl ?_
 refine o_castore K X33 A33 (by decide) (show (6 : Int32).toNatClampNeg < 7 from (by decide)) G19 me0 (z := (.int 34)) (congrArg Value.int (by decide)) at_362 rfl ?_
 intro T34 h34 X34 W34 A34
 replace A34 : oArr Z h34 b19 k19 .char [.int p0, .int p1, .int p2, .int p3, .int p4, .int 34, .int 34] := A34
 refine o_iinc K X34 at_363 rfl rfl (L' := #[vJ i0, sS, vI i1, vI i2, vI i3, vI i4, vI 0, vI sv0, vI sv1, vI 1, vI tc, vI ww0, vI ww1, vI 0, vI 2, vI 5, vR b19, vI 7, uS, uS, uS, uS]) (by rw [show (6 : Int32) + Int32.ofInt 1 = (7 : Int32) from (by decide)]; rfl) ?_
 refine o_iload K X34 at_366 rfl rfl ?_
 refine o_iconst K X34 at_368 rfl (z := 2) rfl ?_
 refine o_icmp_lt_t K X34 at_369 (by decide) (pc' := 382) (by decide) (by decide) ?_
 refine o_new K X34 (w2 hw) (w3 hw) (w4 hw) at_382 rfl (by decide) (by decide) ?_
 intro T35 h35 b35 X35 g35 E35 A35 D35 G35
 have F35_coder : Fld Z h35 b35 z0 "coder" "B" (.int 0) := (D35 (Or.inr (w28 hw)) (ty := .byte) (by decide))
 have F35_value : Fld Z h35 b35 z0 "value" "[B" .null := (D35 (Or.inr (w30 hw)) (ty := (.array .byte)) (by decide))
 refine o_dup K X35 at_385 rfl rfl ?_
 refine o_aload K X35 at_386 rfl rfl rfl ?_
 have m36 := (A34.ext E35)
 refine o_special K X35 (y := (⟨z0, "<init>", "([C)V"⟩ : MethodName)) rfl (w5 hw) (w6 hw) (w4 hw) (w7 hw) (by decide) (rm_str_7 l Z a0 hw b35 b19 k19 cs p0 p1 p2 p3 p4 34 34 h35 A35 F35_value F35_coder G35 m36 q2 q3 c_p0.2 c_p1.2 c_p2.2 c_p3.2 c_p4.2 (by decide) (by decide)) (allS me0 all0) (by decide) rfl (argsL := [.ref b19]) rfl (lenOf pd33 rfl) (W := 1) rfl (by decide) (by decide) (by decide) at_388 rfl ?_
 intro v37 T37 h37 FX37 U37
 obtain ⟨vb_37, k_37, rfl, u37_0, u37_1, u37_2, u37_3, u37_4, u37_5⟩ := U37
 have G37_vb : Z.heap.size ≤ vb_37 := Nat.le_trans X35.ext0.1 u37_4
 have X37 := FX37 [vb_37] (Or.inl rfl) (allS ⟨u37_4, u37_5.lt⟩ all0)
 show oGoes pp ee bb ss Z T37 (mkF mm 391 _ [.ref b35]) _ _ _ _
 refine o_astore K X37 at_391 rfl rfl (L' := #[vJ i0, sS, vI i1, vI i2, vI i3, vI i4, vI 0, vI sv0, vI sv1, vI 1, vI tc, vI ww0, vI ww1, vI 0, vI 2, vI 5, vR b19, vI 7, vR b35, uS, uS, uS]) rfl ?_
 refine o_aload K X37 at_393 rfl rfl rfl ?_
 refine o_iload K X37 at_395 rfl rfl ?_
 refine o_static K X37  (w31 hw) (w32 hw) (w33 hw) (w34 hw) (by decide) (rm_read_e_1 l Z a0 hw b35 vb_37 k_37 p0 p1 p2 p3 p4 34 34 fm cs em h37 u37_1 u37_2 u37_3 u37_5 (by decide) oCh34 q0 q1 q2 q3 q4) all0 (by decide) rfl (argsL := [.ref b35, .int 5]) rfl (lenOf pd34 rfl) (W := 0) rfl (by decide) (by decide) (by decide) at_397 rfl ?_
 intro v38 T38 h38 FX38 U38
 obtain ⟨r_38, qt_38, s_38, sv_38, ks_38, rfl, u38_0, u38_1, u38_2, u38_3, u38_4, u38_5, u38_6, u38_7, u38_8, u38_9, u38_10, u38_11⟩ := U38
 have G38_r : Z.heap.size ≤ r_38 := Nat.le_trans X37.ext0.1 u38_1
 have G38_s : Z.heap.size ≤ s_38 := Nat.le_trans X37.ext0.1 u38_7
 have X38 := FX38 [r_38, s_38] (Or.inl rfl) (allS ⟨u38_1, u38_2.lt⟩ (allS ⟨u38_7, u38_8.lt⟩ all0))
 show oGoes pp ee bb ss Z T38 (mkF mm 400 _ [.ref r_38]) _ _ _ _
 refine tl_lw0 l Z a0 hw i0 i1 i2 i3 i4 sv0 sv1 1 tc ww0 ww1 0 2 5 7 b19 b35 r_38 qt_38 s_38 sv_38 ks_38 7 cs h38 u38_2 u38_3 u38_4 u38_5 u38_6 u38_8 u38_9 u38_10 u38_11 (by decide) (by decide) G38_s q2 q3 (fun v39 h39 U39 => ?_) K (X38.mono (by decide) (by decide) (by decide) (allS me1 all0))
 obtain rfl : v39 = some (.int 1) := U39
 exact rfl
 have mo0 : ¬ (mode = (0 : Int32)) := by rw [e_mode]; exact eM0
 have mo1 : ¬ (mode = (1 : Int32)) := by rw [e_mode]; exact eM1
 have mo2 : ¬ (mode < (2 : Int32)) := by rw [e_mode]; exact eM2
 obtain rfl : enc = (0 : Int32) := e_enc.trans (by simp +decide)
 obtain rfl : rest = (3 : Int32) := e_rest.trans (by rw [if_neg mo0, if_neg mo1]; decide)
 obtain rfl : start = (4 : Int32) := e_start.trans (by decide)
 refine o_iload K X26 at_271 rfl rfl ?_
 refine o_istore K X26 at_273 rfl (L' := #[vJ i0, sS, vI i1, vI i2, vI i3, vI i4, vI 0, vI sv0, vI sv1, vI mode, vI tc, vI ww0, vI ww1, vI 0, vI 3, vI 4, vR b19, vI 4, uS, uS, uS, uS]) rfl ?_
 refine o_aload K X26 at_275 rfl rfl rfl ?_
 refine o_iload K X26 at_277 rfl rfl ?_
 refine o_bipush K X26 at_279 rfl (z := 34) rfl ?_
 refine o_castore K X26 A26 (by decide) (show (4 : Int32).toNatClampNeg < 7 from (by decide)) G19 me0 (z := (.int 34)) (congrArg Value.int (by decide)) at_281 rfl ?_
 intro T40 h40 X40 W40 A40
 replace A40 : oArr Z h40 b19 k19 .char [.int p0, .int p1, .int p2, .int p3, .int 34, .int p5, .int p6] := A40
 refine o_iinc K X40 at_282 rfl rfl (L' := #[vJ i0, sS, vI i1, vI i2, vI i3, vI i4, vI 0, vI sv0, vI sv1, vI mode, vI tc, vI ww0, vI ww1, vI 0, vI 3, vI 4, vR b19, vI 5, uS, uS, uS, uS]) (by rw [show (4 : Int32) + Int32.ofInt 1 = (5 : Int32) from (by decide)]; rfl) ?_
 refine o_iload K X40 at_285 rfl rfl ?_
 refine o_iconst K X40 at_287 rfl (z := 1) rfl ?_
 refine o_icmp_lt_t K X40 at_288 (by decide) (pc' := 318) (by decide) (by decide) ?_
 refine o_iload K X40 at_318 rfl rfl ?_
 refine o_iconst K X40 at_320 rfl (z := 2) rfl ?_
 refine o_icmp_lt_t K X40 at_321 (by decide) (pc' := 351) (by decide) (by decide) ?_
 refine o_iload K X40 at_351 rfl rfl ?_
 refine o_if_eq_f K X40 at_353 rfl mo0 ?_
 refine o_aload K X40 at_356 rfl rfl rfl ?_
 refine o_iload K X40 at_358 rfl rfl ?_
 refine o_bipush K X40 at_360 rfl (z := 34) rfl ?_
 refine o_castore K X40 A40 (by decide) (show (5 : Int32).toNatClampNeg < 7 from (by decide)) G19 me0 (z := (.int 34)) (congrArg Value.int (by decide)) at_362 rfl ?_
 intro T41 h41 X41 W41 A41
 replace A41 : oArr Z h41 b19 k19 .char [.int p0, .int p1, .int p2, .int p3, .int 34, .int 34, .int p6] := A41
 refine o_iinc K X41 at_363 rfl rfl (L' := #[vJ i0, sS, vI i1, vI i2, vI i3, vI i4, vI 0, vI sv0, vI sv1, vI mode, vI tc, vI ww0, vI ww1, vI 0, vI 3, vI 4, vR b19, vI 6, uS, uS, uS, uS]) (by rw [show (5 : Int32) + Int32.ofInt 1 = (6 : Int32) from (by decide)]; rfl) ?_
 refine o_iload K X41 at_366 rfl rfl ?_
 refine o_iconst K X41 at_368 rfl (z := 2) rfl ?_
 refine o_icmp_lt_f K X41 at_369 rfl mo2 ?_
 refine o_aload K X41 at_372 rfl rfl rfl ?_
 refine o_iload K X41 at_374 rfl rfl ?_
 refine o_iload K X41 at_376 rfl rfl ?_
 refine o_castore K X41 A41 (by decide) (show (6 : Int32).toNatClampNeg < 7 from (by decide)) G19 me0 (z := (.int tc)) (congrArg Value.int (oChN c_tc)) at_378 rfl ?_
 intro T42 h42 X42 W42 A42
 replace A42 : oArr Z h42 b19 k19 .char [.int p0, .int p1, .int p2, .int p3, .int 34, .int 34, .int tc] := A42
 refine o_iinc K X42 at_379 rfl rfl (L' := #[vJ i0, sS, vI i1, vI i2, vI i3, vI i4, vI 0, vI sv0, vI sv1, vI mode, vI tc, vI ww0, vI ww1, vI 0, vI 3, vI 4, vR b19, vI 7, uS, uS, uS, uS]) (by rw [show (6 : Int32) + Int32.ofInt 1 = (7 : Int32) from (by decide)]; rfl) ?_
 refine o_new K X42 (w2 hw) (w3 hw) (w4 hw) at_382 rfl (by decide) (by decide) ?_
 intro T43 h43 b43 X43 g43 E43 A43 D43 G43
 have F43_coder : Fld Z h43 b43 z0 "coder" "B" (.int 0) := (D43 (Or.inr (w28 hw)) (ty := .byte) (by decide))
 have F43_value : Fld Z h43 b43 z0 "value" "[B" .null := (D43 (Or.inr (w30 hw)) (ty := (.array .byte)) (by decide))
 refine o_dup K X43 at_385 rfl rfl ?_
 refine o_aload K X43 at_386 rfl rfl rfl ?_
 have m44 := (A42.ext E43)
 refine o_special K X43 (y := (⟨z0, "<init>", "([C)V"⟩ : MethodName)) rfl (w5 hw) (w6 hw) (w4 hw) (w7 hw) (by decide) (rm_str_7 l Z a0 hw b43 b19 k19 cs p0 p1 p2 p3 34 34 tc h43 A43 F43_value F43_coder G43 m44 q2 q3 c_p0.2 c_p1.2 c_p2.2 c_p3.2 (by decide) (by decide) c_tc.2) (allS me0 all0) (by decide) rfl (argsL := [.ref b19]) rfl (lenOf pd33 rfl) (W := 1) rfl (by decide) (by decide) (by decide) at_388 rfl ?_
 intro v45 T45 h45 FX45 U45
 obtain ⟨vb_45, k_45, rfl, u45_0, u45_1, u45_2, u45_3, u45_4, u45_5⟩ := U45
 have G45_vb : Z.heap.size ≤ vb_45 := Nat.le_trans X43.ext0.1 u45_4
 have X45 := FX45 [vb_45] (Or.inl rfl) (allS ⟨u45_4, u45_5.lt⟩ all0)
 show oGoes pp ee bb ss Z T45 (mkF mm 391 _ [.ref b43]) _ _ _ _
 refine o_astore K X45 at_391 rfl rfl (L' := #[vJ i0, sS, vI i1, vI i2, vI i3, vI i4, vI 0, vI sv0, vI sv1, vI mode, vI tc, vI ww0, vI ww1, vI 0, vI 3, vI 4, vR b19, vI 7, vR b43, uS, uS, uS]) rfl ?_
 refine o_aload K X45 at_393 rfl rfl rfl ?_
 refine o_iload K X45 at_395 rfl rfl ?_
 refine o_static K X45  (w31 hw) (w32 hw) (w33 hw) (w34 hw) (by decide) (rm_read_e_2 l Z a0 hw b43 vb_45 k_45 p0 p1 p2 p3 34 34 tc fm cs em h45 u45_1 u45_2 u45_3 u45_5 (by decide) n_tc oCh34 c_tc c_tc.2 q0 q1 q2 q3 q4) all0 (by decide) rfl (argsL := [.ref b43, .int 4]) rfl (lenOf pd34 rfl) (W := 0) rfl (by decide) (by decide) (by decide) at_397 rfl ?_
 intro v46 T46 h46 FX46 U46
 obtain ⟨r_46, qt_46, s_46, sv_46, ks_46, rfl, u46_0, u46_1, u46_2, u46_3, u46_4, u46_5, u46_6, u46_7, u46_8, u46_9, u46_10, u46_11⟩ := U46
 have G46_r : Z.heap.size ≤ r_46 := Nat.le_trans X45.ext0.1 u46_1
 have G46_s : Z.heap.size ≤ s_46 := Nat.le_trans X45.ext0.1 u46_7
 have X46 := FX46 [r_46, s_46] (Or.inl rfl) (allS ⟨u46_1, u46_2.lt⟩ (allS ⟨u46_7, u46_8.lt⟩ all0))
 show oGoes pp ee bb ss Z T46 (mkF mm 400 _ [.ref r_46]) _ _ _ _
 refine tl_lw0 l Z a0 hw i0 i1 i2 i3 i4 sv0 sv1 mode tc ww0 ww1 0 3 4 7 b19 b43 r_46 qt_46 s_46 sv_46 ks_46 6 cs h46 u46_2 u46_3 u46_4 u46_5 u46_6 u46_8 u46_9 u46_10 u46_11 mo0 (by decide) G46_s q2 q3 (fun v47 h47 U47 => ?_) K (X46.mono (by decide) (by decide) (by decide) (allS me1 all0))
 obtain rfl : v47 = some (.int 1) := U47
 exact rfl
 obtain rfl : k = (1 : Int32) := e_k.trans ek
 rcases oM4 (i4 >>> ((4 : Int32) &&& 31)) with eM | eM | ⟨eM0, eM1, eM2⟩
 obtain rfl : mode = (0 : Int32) := e_mode.trans eM
 by_cases c271_48 : sv0 = (34 : Int32)
 obtain rfl : ww0 = (2 : Int32) := e_ww0.trans (if_pos c271_48)
 obtain rfl : enc = (2 : Int32) := e_enc.trans (by simp +decide)
 obtain rfl : rest = (3 : Int32) := e_rest.trans (by decide)
 obtain rfl : start = (4 : Int32) := e_start.trans (by decide)
 refine o_iload K X26 at_271 rfl rfl ?_
 refine o_istore K X26 at_273 rfl (L' := #[vJ i0, sS, vI i1, vI i2, vI i3, vI i4, vI 1, vI sv0, vI sv1, vI 0, vI tc, vI 2, vI ww1, vI 2, vI 3, vI 4, vR b19, vI 4, uS, uS, uS, uS]) rfl ?_
 refine o_aload K X26 at_275 rfl rfl rfl ?_
 refine o_iload K X26 at_277 rfl rfl ?_
 refine o_bipush K X26 at_279 rfl (z := 34) rfl ?_
 refine o_castore K X26 A26 (by decide) (show (4 : Int32).toNatClampNeg < 7 from (by decide)) G19 me0 (z := (.int 34)) (congrArg Value.int (by decide)) at_281 rfl ?_
 intro T49 h49 X49 W49 A49
 replace A49 : oArr Z h49 b19 k19 .char [.int p0, .int p1, .int p2, .int p3, .int 34, .int p5, .int p6] := A49
 refine o_iinc K X49 at_282 rfl rfl (L' := #[vJ i0, sS, vI i1, vI i2, vI i3, vI i4, vI 1, vI sv0, vI sv1, vI 0, vI tc, vI 2, vI ww1, vI 2, vI 3, vI 4, vR b19, vI 5, uS, uS, uS, uS]) (by rw [show (4 : Int32) + Int32.ofInt 1 = (5 : Int32) from (by decide)]; rfl) ?_
 refine o_iload K X49 at_285 rfl rfl ?_
 refine o_iconst K X49 at_287 rfl (z := 1) rfl ?_
 refine o_icmp_lt_f K X49 at_288 rfl (by decide) ?_
 refine o_aload K X49 at_291 rfl rfl rfl ?_
 refine o_iload K X49 at_293 rfl rfl ?_
 refine o_iload K X49 at_295 rfl rfl ?_
 refine o_castore K X49 A49 (by decide) (show (5 : Int32).toNatClampNeg < 7 from (by decide)) G19 me0 (z := (.int sv0)) (congrArg Value.int (oChN c_sv0)) at_297 rfl ?_
 intro T50 h50 X50 W50 A50
 replace A50 : oArr Z h50 b19 k19 .char [.int p0, .int p1, .int p2, .int p3, .int 34, .int sv0, .int p6] := A50
 refine o_iinc K X50 at_298 rfl rfl (L' := #[vJ i0, sS, vI i1, vI i2, vI i3, vI i4, vI 1, vI sv0, vI sv1, vI 0, vI tc, vI 2, vI ww1, vI 2, vI 3, vI 4, vR b19, vI 6, uS, uS, uS, uS]) (by rw [show (5 : Int32) + Int32.ofInt 1 = (6 : Int32) from (by decide)]; rfl) ?_
 refine o_iload K X50 at_301 rfl rfl ?_
 refine o_bipush K X50 at_303 rfl (z := 34) rfl ?_
 refine o_icmp_ne_f K X50 at_305 rfl c271_48 ?_
 refine o_aload K X50 at_308 rfl rfl rfl ?_
 refine o_iload K X50 at_310 rfl rfl ?_
 refine o_bipush K X50 at_312 rfl (z := 34) rfl ?_
 refine o_castore K X50 A50 (by decide) (show (6 : Int32).toNatClampNeg < 7 from (by decide)) G19 me0 (z := (.int 34)) (congrArg Value.int (by decide)) at_314 rfl ?_
 intro T51 h51 X51 W51 A51
 replace A51 : oArr Z h51 b19 k19 .char [.int p0, .int p1, .int p2, .int p3, .int 34, .int sv0, .int 34] := A51
 refine o_iinc K X51 at_315 rfl rfl (L' := #[vJ i0, sS, vI i1, vI i2, vI i3, vI i4, vI 1, vI sv0, vI sv1, vI 0, vI tc, vI 2, vI ww1, vI 2, vI 3, vI 4, vR b19, vI 7, uS, uS, uS, uS]) (by rw [show (6 : Int32) + Int32.ofInt 1 = (7 : Int32) from (by decide)]; rfl) ?_
 refine o_iload K X51 at_318 rfl rfl ?_
 refine o_iconst K X51 at_320 rfl (z := 2) rfl ?_
 refine o_icmp_lt_t K X51 at_321 (by decide) (pc' := 351) (by decide) (by decide) ?_
 refine o_iload K X51 at_351 rfl rfl ?_
 refine o_if_eq_t K X51 at_353 (by decide) (pc' := 382) (by decide) (by decide) ?_
 refine o_new K X51 (w2 hw) (w3 hw) (w4 hw) at_382 rfl (by decide) (by decide) ?_
 intro T52 h52 b52 X52 g52 E52 A52 D52 G52
 have F52_coder : Fld Z h52 b52 z0 "coder" "B" (.int 0) := (D52 (Or.inr (w28 hw)) (ty := .byte) (by decide))
 have F52_value : Fld Z h52 b52 z0 "value" "[B" .null := (D52 (Or.inr (w30 hw)) (ty := (.array .byte)) (by decide))
 refine o_dup K X52 at_385 rfl rfl ?_
 refine o_aload K X52 at_386 rfl rfl rfl ?_
 have m53 := (A51.ext E52)
 refine o_special K X52 (y := (⟨z0, "<init>", "([C)V"⟩ : MethodName)) rfl (w5 hw) (w6 hw) (w4 hw) (w7 hw) (by decide) (rm_str_7 l Z a0 hw b52 b19 k19 cs p0 p1 p2 p3 34 sv0 34 h52 A52 F52_value F52_coder G52 m53 q2 q3 c_p0.2 c_p1.2 c_p2.2 c_p3.2 (by decide) c_sv0.2 (by decide)) (allS me0 all0) (by decide) rfl (argsL := [.ref b19]) rfl (lenOf pd33 rfl) (W := 1) rfl (by decide) (by decide) (by decide) at_388 rfl ?_
 intro v54 T54 h54 FX54 U54
 obtain ⟨vb_54, k_54, rfl, u54_0, u54_1, u54_2, u54_3, u54_4, u54_5⟩ := U54
 have G54_vb : Z.heap.size ≤ vb_54 := Nat.le_trans X52.ext0.1 u54_4
 have X54 := FX54 [vb_54] (Or.inl rfl) (allS ⟨u54_4, u54_5.lt⟩ all0)
 show oGoes pp ee bb ss Z T54 (mkF mm 391 _ [.ref b52]) _ _ _ _
 refine o_astore K X54 at_391 rfl rfl (L' := #[vJ i0, sS, vI i1, vI i2, vI i3, vI i4, vI 1, vI sv0, vI sv1, vI 0, vI tc, vI 2, vI ww1, vI 2, vI 3, vI 4, vR b19, vI 7, vR b52, uS, uS, uS]) rfl ?_
 refine o_aload K X54 at_393 rfl rfl rfl ?_
 refine o_iload K X54 at_395 rfl rfl ?_
 refine o_static K X54  (w31 hw) (w32 hw) (w33 hw) (w34 hw) (by decide) (rm_read_q_0 l Z a0 hw b52 vb_54 k_54 p0 p1 p2 p3 34 sv0 34 fm cs em h54 u54_1 u54_2 u54_3 u54_5 c271_48 (by decide) c_sv0 oCh34 q0 q1 q2 q3 q4) all0 (by decide) rfl (argsL := [.ref b52, .int 4]) rfl (lenOf pd34 rfl) (W := 0) rfl (by decide) (by decide) (by decide) at_397 rfl ?_
 intro v55 T55 h55 FX55 U55
 obtain ⟨rfl, u55_0⟩ := U55
 have X55 := FX55 [] (Or.inl rfl) all0
 show oGoes pp ee bb ss Z T55 (mkF mm 400 _ [.ref em]) _ _ _ _
 refine tl_lwe l Z a0 hw i0 i1 i2 i3 i4 1 sv0 sv1 tc 2 ww1 2 3 4 7 b19 b52 em h55 q5 q6 (fun v56 h56 U56 => ?_) K (X55.mono (by decide) (by decide) (by decide) all0)
 obtain rfl : v56 = some (.int 1) := U56
 exact rfl
 obtain rfl : ww0 = (1 : Int32) := e_ww0.trans (if_neg c271_48)
 obtain rfl : enc = (1 : Int32) := e_enc.trans (by simp +decide)
 obtain rfl : rest = (2 : Int32) := e_rest.trans (by decide)
 obtain rfl : start = (5 : Int32) := e_start.trans (by decide)
 refine o_iload K X26 at_271 rfl rfl ?_
 refine o_istore K X26 at_273 rfl (L' := #[vJ i0, sS, vI i1, vI i2, vI i3, vI i4, vI 1, vI sv0, vI sv1, vI 0, vI tc, vI 1, vI ww1, vI 1, vI 2, vI 5, vR b19, vI 5, uS, uS, uS, uS]) rfl ?_
 refine o_aload K X26 at_275 rfl rfl rfl ?_
 refine o_iload K X26 at_277 rfl rfl ?_
 refine o_bipush K X26 at_279 rfl (z := 34) rfl ?_
 refine o_castore K X26 A26 (by decide) (show (5 : Int32).toNatClampNeg < 7 from (by decide)) G19 me0 (z := (.int 34)) (congrArg Value.int (by decide)) at_281 rfl ?_
 intro T57 h57 X57 W57 A57
 replace A57 : oArr Z h57 b19 k19 .char [.int p0, .int p1, .int p2, .int p3, .int p4, .int 34, .int p6] := A57
 refine o_iinc K X57 at_282 rfl rfl (L' := #[vJ i0, sS, vI i1, vI i2, vI i3, vI i4, vI 1, vI sv0, vI sv1, vI 0, vI tc, vI 1, vI ww1, vI 1, vI 2, vI 5, vR b19, vI 6, uS, uS, uS, uS]) (by rw [show (5 : Int32) + Int32.ofInt 1 = (6 : Int32) from (by decide)]; rfl) ?_
 refine o_iload K X57 at_285 rfl rfl ?_
 refine o_iconst K X57 at_287 rfl (z := 1) rfl ?_
 refine o_icmp_lt_f K X57 at_288 rfl (by decide) ?_
 refine o_aload K X57 at_291 rfl rfl rfl ?_
 refine o_iload K X57 at_293 rfl rfl ?_
 refine o_iload K X57 at_295 rfl rfl ?_
 refine o_castore K X57 A57 (by decide) (show (6 : Int32).toNatClampNeg < 7 from (by decide)) G19 me0 (z := (.int sv0)) (congrArg Value.int (oChN c_sv0)) at_297 rfl ?_
 intro T58 h58 X58 W58 A58
 replace A58 : oArr Z h58 b19 k19 .char [.int p0, .int p1, .int p2, .int p3, .int p4, .int 34, .int sv0] := A58
 refine o_iinc K X58 at_298 rfl rfl (L' := #[vJ i0, sS, vI i1, vI i2, vI i3, vI i4, vI 1, vI sv0, vI sv1, vI 0, vI tc, vI 1, vI ww1, vI 1, vI 2, vI 5, vR b19, vI 7, uS, uS, uS, uS]) (by rw [show (6 : Int32) + Int32.ofInt 1 = (7 : Int32) from (by decide)]; rfl) ?_
 refine o_iload K X58 at_301 rfl rfl ?_
 refine o_bipush K X58 at_303 rfl (z := 34) rfl ?_
 refine o_icmp_ne_t K X58 at_305 (by decide) (pc' := 318) (by decide) c271_48 ?_
 refine o_iload K X58 at_318 rfl rfl ?_
 refine o_iconst K X58 at_320 rfl (z := 2) rfl ?_
 refine o_icmp_lt_t K X58 at_321 (by decide) (pc' := 351) (by decide) (by decide) ?_
 refine o_iload K X58 at_351 rfl rfl ?_
 refine o_if_eq_t K X58 at_353 (by decide) (pc' := 382) (by decide) (by decide) ?_
 refine o_new K X58 (w2 hw) (w3 hw) (w4 hw) at_382 rfl (by decide) (by decide) ?_
 intro T59 h59 b59 X59 g59 E59 A59 D59 G59
 have F59_coder : Fld Z h59 b59 z0 "coder" "B" (.int 0) := (D59 (Or.inr (w28 hw)) (ty := .byte) (by decide))
 have F59_value : Fld Z h59 b59 z0 "value" "[B" .null := (D59 (Or.inr (w30 hw)) (ty := (.array .byte)) (by decide))
 refine o_dup K X59 at_385 rfl rfl ?_
 refine o_aload K X59 at_386 rfl rfl rfl ?_
 have m60 := (A58.ext E59)
 refine o_special K X59 (y := (⟨z0, "<init>", "([C)V"⟩ : MethodName)) rfl (w5 hw) (w6 hw) (w4 hw) (w7 hw) (by decide) (rm_str_7 l Z a0 hw b59 b19 k19 cs p0 p1 p2 p3 p4 34 sv0 h59 A59 F59_value F59_coder G59 m60 q2 q3 c_p0.2 c_p1.2 c_p2.2 c_p3.2 c_p4.2 (by decide) c_sv0.2) (allS me0 all0) (by decide) rfl (argsL := [.ref b19]) rfl (lenOf pd33 rfl) (W := 1) rfl (by decide) (by decide) (by decide) at_388 rfl ?_
 intro v61 T61 h61 FX61 U61
 obtain ⟨vb_61, k_61, rfl, u61_0, u61_1, u61_2, u61_3, u61_4, u61_5⟩ := U61
 have G61_vb : Z.heap.size ≤ vb_61 := Nat.le_trans X59.ext0.1 u61_4
 have X61 := FX61 [vb_61] (Or.inl rfl) (allS ⟨u61_4, u61_5.lt⟩ all0)
 show oGoes pp ee bb ss Z T61 (mkF mm 391 _ [.ref b59]) _ _ _ _
 refine o_astore K X61 at_391 rfl rfl (L' := #[vJ i0, sS, vI i1, vI i2, vI i3, vI i4, vI 1, vI sv0, vI sv1, vI 0, vI tc, vI 1, vI ww1, vI 1, vI 2, vI 5, vR b19, vI 7, vR b59, uS, uS, uS]) rfl ?_
 refine o_aload K X61 at_393 rfl rfl rfl ?_
 refine o_iload K X61 at_395 rfl rfl ?_
 refine o_static K X61  (w31 hw) (w32 hw) (w33 hw) (w34 hw) (by decide) (rm_read_n_0 l Z a0 hw b59 vb_61 k_61 p0 p1 p2 p3 p4 34 sv0 fm cs em h61 u61_1 u61_2 u61_3 u61_5 c271_48 c_sv0 c_sv0.2 q0 q1 q2 q3 q4) all0 (by decide) rfl (argsL := [.ref b59, .int 5]) rfl (lenOf pd34 rfl) (W := 0) rfl (by decide) (by decide) (by decide) at_397 rfl ?_
 intro v62 T62 h62 FX62 U62
 obtain ⟨rfl, u62_0⟩ := U62
 have X62 := FX62 [] (Or.inl rfl) all0
 show oGoes pp ee bb ss Z T62 (mkF mm 400 _ [.ref em]) _ _ _ _
 refine tl_lwe l Z a0 hw i0 i1 i2 i3 i4 1 sv0 sv1 tc 1 ww1 1 2 5 7 b19 b59 em h62 q5 q6 (fun v63 h63 U63 => ?_) K (X62.mono (by decide) (by decide) (by decide) all0)
 obtain rfl : v63 = some (.int 1) := U63
 exact rfl
 obtain rfl : mode = (1 : Int32) := e_mode.trans eM
 by_cases c271_64 : sv0 = (34 : Int32)
 obtain rfl : ww0 = (2 : Int32) := e_ww0.trans (if_pos c271_64)
 obtain rfl : enc = (2 : Int32) := e_enc.trans (by simp +decide)
 obtain rfl : rest = (4 : Int32) := e_rest.trans (by decide)
 obtain rfl : start = (3 : Int32) := e_start.trans (by decide)
 refine o_iload K X26 at_271 rfl rfl ?_
 refine o_istore K X26 at_273 rfl (L' := #[vJ i0, sS, vI i1, vI i2, vI i3, vI i4, vI 1, vI sv0, vI sv1, vI 1, vI tc, vI 2, vI ww1, vI 2, vI 4, vI 3, vR b19, vI 3, uS, uS, uS, uS]) rfl ?_
 refine o_aload K X26 at_275 rfl rfl rfl ?_
 refine o_iload K X26 at_277 rfl rfl ?_
 refine o_bipush K X26 at_279 rfl (z := 34) rfl ?_
 refine o_castore K X26 A26 (by decide) (show (3 : Int32).toNatClampNeg < 7 from (by decide)) G19 me0 (z := (.int 34)) (congrArg Value.int (by decide)) at_281 rfl ?_
 intro T65 h65 X65 W65 A65
 replace A65 : oArr Z h65 b19 k19 .char [.int p0, .int p1, .int p2, .int 34, .int p4, .int p5, .int p6] := A65
 refine o_iinc K X65 at_282 rfl rfl (L' := #[vJ i0, sS, vI i1, vI i2, vI i3, vI i4, vI 1, vI sv0, vI sv1, vI 1, vI tc, vI 2, vI ww1, vI 2, vI 4, vI 3, vR b19, vI 4, uS, uS, uS, uS]) (by rw [show (3 : Int32) + Int32.ofInt 1 = (4 : Int32) from (by decide)]; rfl) ?_
 refine o_iload K X65 at_285 rfl rfl ?_
 refine o_iconst K X65 at_287 rfl (z := 1) rfl ?_
 refine o_icmp_lt_f K X65 at_288 rfl (by decide) ?_
 refine o_aload K X65 at_291 rfl rfl rfl ?_
 refine o_iload K X65 at_293 rfl rfl ?_
 refine o_iload K X65 at_295 rfl rfl ?_
 refine o_castore K X65 A65 (by decide) (show (4 : Int32).toNatClampNeg < 7 from (by decide)) G19 me0 (z := (.int sv0)) (congrArg Value.int (oChN c_sv0)) at_297 rfl ?_
 intro T66 h66 X66 W66 A66
 replace A66 : oArr Z h66 b19 k19 .char [.int p0, .int p1, .int p2, .int 34, .int sv0, .int p5, .int p6] := A66
 refine o_iinc K X66 at_298 rfl rfl (L' := #[vJ i0, sS, vI i1, vI i2, vI i3, vI i4, vI 1, vI sv0, vI sv1, vI 1, vI tc, vI 2, vI ww1, vI 2, vI 4, vI 3, vR b19, vI 5, uS, uS, uS, uS]) (by rw [show (4 : Int32) + Int32.ofInt 1 = (5 : Int32) from (by decide)]; rfl) ?_
 refine o_iload K X66 at_301 rfl rfl ?_
 refine o_bipush K X66 at_303 rfl (z := 34) rfl ?_
 refine o_icmp_ne_f K X66 at_305 rfl c271_64 ?_
 refine o_aload K X66 at_308 rfl rfl rfl ?_
 refine o_iload K X66 at_310 rfl rfl ?_
 refine o_bipush K X66 at_312 rfl (z := 34) rfl ?_
 refine o_castore K X66 A66 (by decide) (show (5 : Int32).toNatClampNeg < 7 from (by decide)) G19 me0 (z := (.int 34)) (congrArg Value.int (by decide)) at_314 rfl ?_
 intro T67 h67 X67 W67 A67
 replace A67 : oArr Z h67 b19 k19 .char [.int p0, .int p1, .int p2, .int 34, .int sv0, .int 34, .int p6] := A67
 refine o_iinc K X67 at_315 rfl rfl (L' := #[vJ i0, sS, vI i1, vI i2, vI i3, vI i4, vI 1, vI sv0, vI sv1, vI 1, vI tc, vI 2, vI ww1, vI 2, vI 4, vI 3, vR b19, vI 6, uS, uS, uS, uS]) (by rw [show (5 : Int32) + Int32.ofInt 1 = (6 : Int32) from (by decide)]; rfl) ?_
 refine o_iload K X67 at_318 rfl rfl ?_
 refine o_iconst K X67 at_320 rfl (z := 2) rfl ?_
 refine o_icmp_lt_t K X67 at_321 (by decide) (pc' := 351) (by decide) (by decide) ?_
 refine o_iload K X67 at_351 rfl rfl ?_
 refine o_if_eq_f K X67 at_353 rfl (by decide) ?_
 refine o_aload K X67 at_356 rfl rfl rfl ?_
 refine o_iload K X67 at_358 rfl rfl ?_
 refine o_bipush K X67 at_360 rfl (z := 34) rfl ?_
 refine o_castore K X67 A67 (by decide) (show (6 : Int32).toNatClampNeg < 7 from (by decide)) G19 me0 (z := (.int 34)) (congrArg Value.int (by decide)) at_362 rfl ?_
 intro T68 h68 X68 W68 A68
 replace A68 : oArr Z h68 b19 k19 .char [.int p0, .int p1, .int p2, .int 34, .int sv0, .int 34, .int 34] := A68
 refine o_iinc K X68 at_363 rfl rfl (L' := #[vJ i0, sS, vI i1, vI i2, vI i3, vI i4, vI 1, vI sv0, vI sv1, vI 1, vI tc, vI 2, vI ww1, vI 2, vI 4, vI 3, vR b19, vI 7, uS, uS, uS, uS]) (by rw [show (6 : Int32) + Int32.ofInt 1 = (7 : Int32) from (by decide)]; rfl) ?_
 refine o_iload K X68 at_366 rfl rfl ?_
 refine o_iconst K X68 at_368 rfl (z := 2) rfl ?_
 refine o_icmp_lt_t K X68 at_369 (by decide) (pc' := 382) (by decide) (by decide) ?_
 refine o_new K X68 (w2 hw) (w3 hw) (w4 hw) at_382 rfl (by decide) (by decide) ?_
 intro T69 h69 b69 X69 g69 E69 A69 D69 G69
 have F69_coder : Fld Z h69 b69 z0 "coder" "B" (.int 0) := (D69 (Or.inr (w28 hw)) (ty := .byte) (by decide))
 have F69_value : Fld Z h69 b69 z0 "value" "[B" .null := (D69 (Or.inr (w30 hw)) (ty := (.array .byte)) (by decide))
 refine o_dup K X69 at_385 rfl rfl ?_
 refine o_aload K X69 at_386 rfl rfl rfl ?_
 have m70 := (A68.ext E69)
 refine o_special K X69 (y := (⟨z0, "<init>", "([C)V"⟩ : MethodName)) rfl (w5 hw) (w6 hw) (w4 hw) (w7 hw) (by decide) (rm_str_7 l Z a0 hw b69 b19 k19 cs p0 p1 p2 34 sv0 34 34 h69 A69 F69_value F69_coder G69 m70 q2 q3 c_p0.2 c_p1.2 c_p2.2 (by decide) c_sv0.2 (by decide) (by decide)) (allS me0 all0) (by decide) rfl (argsL := [.ref b19]) rfl (lenOf pd33 rfl) (W := 1) rfl (by decide) (by decide) (by decide) at_388 rfl ?_
 intro v71 T71 h71 FX71 U71
 obtain ⟨vb_71, k_71, rfl, u71_0, u71_1, u71_2, u71_3, u71_4, u71_5⟩ := U71
 have G71_vb : Z.heap.size ≤ vb_71 := Nat.le_trans X69.ext0.1 u71_4
 have X71 := FX71 [vb_71] (Or.inl rfl) (allS ⟨u71_4, u71_5.lt⟩ all0)
 show oGoes pp ee bb ss Z T71 (mkF mm 391 _ [.ref b69]) _ _ _ _
 refine o_astore K X71 at_391 rfl rfl (L' := #[vJ i0, sS, vI i1, vI i2, vI i3, vI i4, vI 1, vI sv0, vI sv1, vI 1, vI tc, vI 2, vI ww1, vI 2, vI 4, vI 3, vR b19, vI 7, vR b69, uS, uS, uS]) rfl ?_
 refine o_aload K X71 at_393 rfl rfl rfl ?_
 refine o_iload K X71 at_395 rfl rfl ?_
 refine o_static K X71  (w31 hw) (w32 hw) (w33 hw) (w34 hw) (by decide) (rm_read_q_1 l Z a0 hw b69 vb_71 k_71 p0 p1 p2 34 sv0 34 34 fm cs em h71 u71_1 u71_2 u71_3 u71_5 c271_64 (by decide) (by decide) c_sv0 oCh34 oCh34 q0 q1 q2 q3 q4) all0 (by decide) rfl (argsL := [.ref b69, .int 3]) rfl (lenOf pd34 rfl) (W := 0) rfl (by decide) (by decide) (by decide) at_397 rfl ?_
 intro v72 T72 h72 FX72 U72
 obtain ⟨r_72, qt_72, s_72, sv_72, ks_72, rfl, u72_0, u72_1, u72_2, u72_3, u72_4, u72_5, u72_6, u72_7, u72_8, u72_9, u72_10, u72_11⟩ := U72
 have G72_r : Z.heap.size ≤ r_72 := Nat.le_trans X71.ext0.1 u72_1
 have G72_s : Z.heap.size ≤ s_72 := Nat.le_trans X71.ext0.1 u72_7
 have X72 := FX72 [r_72, s_72] (Or.inl rfl) (allS ⟨u72_1, u72_2.lt⟩ (allS ⟨u72_7, u72_8.lt⟩ all0))
 show oGoes pp ee bb ss Z T72 (mkF mm 400 _ [.ref r_72]) _ _ _ _
 refine tl_lw1 l Z a0 hw i0 i1 i2 i3 i4 sv0 sv1 1 tc 2 ww1 2 4 3 7 b19 b69 r_72 qt_72 s_72 sv_72 ks_72 7 34 cs h72 u72_2 u72_3 u72_4 u72_5 u72_6 u72_8 u72_9 u72_10 u72_11 (by decide) (by decide) c271_64.symm c_sv0 (oChN c_sv0) G72_s q2 q3 (fun v73 h73 U73 => ?_) K (X72.mono (by decide) (by decide) (by decide) (allS me1 all0))
 obtain rfl : v73 = some (.int 1) := U73
 exact rfl
 obtain rfl : ww0 = (1 : Int32) := e_ww0.trans (if_neg c271_64)
 obtain rfl : enc = (1 : Int32) := e_enc.trans (by simp +decide)
 obtain rfl : rest = (3 : Int32) := e_rest.trans (by decide)
 obtain rfl : start = (4 : Int32) := e_start.trans (by decide)
 refine o_iload K X26 at_271 rfl rfl ?_
 refine o_istore K X26 at_273 rfl (L' := #[vJ i0, sS, vI i1, vI i2, vI i3, vI i4, vI 1, vI sv0, vI sv1, vI 1, vI tc, vI 1, vI ww1, vI 1, vI 3, vI 4, vR b19, vI 4, uS, uS, uS, uS]) rfl ?_
 refine o_aload K X26 at_275 rfl rfl rfl ?_
 refine o_iload K X26 at_277 rfl rfl ?_
 refine o_bipush K X26 at_279 rfl (z := 34) rfl ?_
 refine o_castore K X26 A26 (by decide) (show (4 : Int32).toNatClampNeg < 7 from (by decide)) G19 me0 (z := (.int 34)) (congrArg Value.int (by decide)) at_281 rfl ?_
 intro T74 h74 X74 W74 A74
 replace A74 : oArr Z h74 b19 k19 .char [.int p0, .int p1, .int p2, .int p3, .int 34, .int p5, .int p6] := A74
 refine o_iinc K X74 at_282 rfl rfl (L' := #[vJ i0, sS, vI i1, vI i2, vI i3, vI i4, vI 1, vI sv0, vI sv1, vI 1, vI tc, vI 1, vI ww1, vI 1, vI 3, vI 4, vR b19, vI 5, uS, uS, uS, uS]) (by rw [show (4 : Int32) + Int32.ofInt 1 = (5 : Int32) from (by decide)]; rfl) ?_
 refine o_iload K X74 at_285 rfl rfl ?_
 refine o_iconst K X74 at_287 rfl (z := 1) rfl ?_
 refine o_icmp_lt_f K X74 at_288 rfl (by decide) ?_
 refine o_aload K X74 at_291 rfl rfl rfl ?_
 refine o_iload K X74 at_293 rfl rfl ?_
 refine o_iload K X74 at_295 rfl rfl ?_
 refine o_castore K X74 A74 (by decide) (show (5 : Int32).toNatClampNeg < 7 from (by decide)) G19 me0 (z := (.int sv0)) (congrArg Value.int (oChN c_sv0)) at_297 rfl ?_
 intro T75 h75 X75 W75 A75
 replace A75 : oArr Z h75 b19 k19 .char [.int p0, .int p1, .int p2, .int p3, .int 34, .int sv0, .int p6] := A75
 refine o_iinc K X75 at_298 rfl rfl (L' := #[vJ i0, sS, vI i1, vI i2, vI i3, vI i4, vI 1, vI sv0, vI sv1, vI 1, vI tc, vI 1, vI ww1, vI 1, vI 3, vI 4, vR b19, vI 6, uS, uS, uS, uS]) (by rw [show (5 : Int32) + Int32.ofInt 1 = (6 : Int32) from (by decide)]; rfl) ?_
 refine o_iload K X75 at_301 rfl rfl ?_
 refine o_bipush K X75 at_303 rfl (z := 34) rfl ?_
 refine o_icmp_ne_t K X75 at_305 (by decide) (pc' := 318) (by decide) c271_64 ?_
 refine o_iload K X75 at_318 rfl rfl ?_
 refine o_iconst K X75 at_320 rfl (z := 2) rfl ?_
 refine o_icmp_lt_t K X75 at_321 (by decide) (pc' := 351) (by decide) (by decide) ?_
 refine o_iload K X75 at_351 rfl rfl ?_
 refine o_if_eq_f K X75 at_353 rfl (by decide) ?_
 refine o_aload K X75 at_356 rfl rfl rfl ?_
 refine o_iload K X75 at_358 rfl rfl ?_
 refine o_bipush K X75 at_360 rfl (z := 34) rfl ?_
 refine o_castore K X75 A75 (by decide) (show (6 : Int32).toNatClampNeg < 7 from (by decide)) G19 me0 (z := (.int 34)) (congrArg Value.int (by decide)) at_362 rfl ?_
 intro T76 h76 X76 W76 A76
 replace A76 : oArr Z h76 b19 k19 .char [.int p0, .int p1, .int p2, .int p3, .int 34, .int sv0, .int 34] := A76
 refine o_iinc K X76 at_363 rfl rfl (L' := #[vJ i0, sS, vI i1, vI i2, vI i3, vI i4, vI 1, vI sv0, vI sv1, vI 1, vI tc, vI 1, vI ww1, vI 1, vI 3, vI 4, vR b19, vI 7, uS, uS, uS, uS]) (by rw [show (6 : Int32) + Int32.ofInt 1 = (7 : Int32) from (by decide)]; rfl) ?_
 refine o_iload K X76 at_366 rfl rfl ?_
 refine o_iconst K X76 at_368 rfl (z := 2) rfl ?_
 refine o_icmp_lt_t K X76 at_369 (by decide) (pc' := 382) (by decide) (by decide) ?_
 refine o_new K X76 (w2 hw) (w3 hw) (w4 hw) at_382 rfl (by decide) (by decide) ?_
 intro T77 h77 b77 X77 g77 E77 A77 D77 G77
 have F77_coder : Fld Z h77 b77 z0 "coder" "B" (.int 0) := (D77 (Or.inr (w28 hw)) (ty := .byte) (by decide))
 have F77_value : Fld Z h77 b77 z0 "value" "[B" .null := (D77 (Or.inr (w30 hw)) (ty := (.array .byte)) (by decide))
 refine o_dup K X77 at_385 rfl rfl ?_
 refine o_aload K X77 at_386 rfl rfl rfl ?_
 have m78 := (A76.ext E77)
 refine o_special K X77 (y := (⟨z0, "<init>", "([C)V"⟩ : MethodName)) rfl (w5 hw) (w6 hw) (w4 hw) (w7 hw) (by decide) (rm_str_7 l Z a0 hw b77 b19 k19 cs p0 p1 p2 p3 34 sv0 34 h77 A77 F77_value F77_coder G77 m78 q2 q3 c_p0.2 c_p1.2 c_p2.2 c_p3.2 (by decide) c_sv0.2 (by decide)) (allS me0 all0) (by decide) rfl (argsL := [.ref b19]) rfl (lenOf pd33 rfl) (W := 1) rfl (by decide) (by decide) (by decide) at_388 rfl ?_
 intro v79 T79 h79 FX79 U79
 obtain ⟨vb_79, k_79, rfl, u79_0, u79_1, u79_2, u79_3, u79_4, u79_5⟩ := U79
 have G79_vb : Z.heap.size ≤ vb_79 := Nat.le_trans X77.ext0.1 u79_4
 have X79 := FX79 [vb_79] (Or.inl rfl) (allS ⟨u79_4, u79_5.lt⟩ all0)
 show oGoes pp ee bb ss Z T79 (mkF mm 391 _ [.ref b77]) _ _ _ _
 refine o_astore K X79 at_391 rfl rfl (L' := #[vJ i0, sS, vI i1, vI i2, vI i3, vI i4, vI 1, vI sv0, vI sv1, vI 1, vI tc, vI 1, vI ww1, vI 1, vI 3, vI 4, vR b19, vI 7, vR b77, uS, uS, uS]) rfl ?_
 refine o_aload K X79 at_393 rfl rfl rfl ?_
 refine o_iload K X79 at_395 rfl rfl ?_
 refine o_static K X79  (w31 hw) (w32 hw) (w33 hw) (w34 hw) (by decide) (rm_read_n_1 l Z a0 hw b77 vb_79 k_79 p0 p1 p2 p3 34 sv0 34 fm cs em h79 u79_1 u79_2 u79_3 u79_5 (by decide) c271_64 c_sv0 oCh34 c_sv0.2 q0 q1 q2 q3 q4) all0 (by decide) rfl (argsL := [.ref b77, .int 4]) rfl (lenOf pd34 rfl) (W := 0) rfl (by decide) (by decide) (by decide) at_397 rfl ?_
 intro v80 T80 h80 FX80 U80
 obtain ⟨r_80, qt_80, s_80, sv_80, ks_80, rfl, u80_0, u80_1, u80_2, u80_3, u80_4, u80_5, u80_6, u80_7, u80_8, u80_9, u80_10, u80_11⟩ := U80
 have G80_r : Z.heap.size ≤ r_80 := Nat.le_trans X79.ext0.1 u80_1
 have G80_s : Z.heap.size ≤ s_80 := Nat.le_trans X79.ext0.1 u80_7
 have X80 := FX80 [r_80, s_80] (Or.inl rfl) (allS ⟨u80_1, u80_2.lt⟩ (allS ⟨u80_7, u80_8.lt⟩ all0))
 show oGoes pp ee bb ss Z T80 (mkF mm 400 _ [.ref r_80]) _ _ _ _
 refine tl_lw1 l Z a0 hw i0 i1 i2 i3 i4 sv0 sv1 1 tc 1 ww1 1 3 4 7 b19 b77 r_80 qt_80 s_80 sv_80 ks_80 7 sv0 cs h80 u80_2 u80_3 u80_4 u80_5 u80_6 u80_8 u80_9 u80_10 u80_11 (by decide) (by decide) rfl c_sv0 (oChN c_sv0) G80_s q2 q3 (fun v81 h81 U81 => ?_) K (X80.mono (by decide) (by decide) (by decide) (allS me1 all0))
 obtain rfl : v81 = some (.int 1) := U81
 exact rfl
 have mo0 : ¬ (mode = (0 : Int32)) := by rw [e_mode]; exact eM0
 have mo1 : ¬ (mode = (1 : Int32)) := by rw [e_mode]; exact eM1
 have mo2 : ¬ (mode < (2 : Int32)) := by rw [e_mode]; exact eM2
 by_cases c271_82 : sv0 = (34 : Int32)
 obtain rfl : ww0 = (2 : Int32) := e_ww0.trans (if_pos c271_82)
 obtain rfl : enc = (2 : Int32) := e_enc.trans (by simp +decide)
 obtain rfl : rest = (5 : Int32) := e_rest.trans (by rw [if_neg mo0, if_neg mo1]; decide)
 obtain rfl : start = (2 : Int32) := e_start.trans (by decide)
 refine o_iload K X26 at_271 rfl rfl ?_
 refine o_istore K X26 at_273 rfl (L' := #[vJ i0, sS, vI i1, vI i2, vI i3, vI i4, vI 1, vI sv0, vI sv1, vI mode, vI tc, vI 2, vI ww1, vI 2, vI 5, vI 2, vR b19, vI 2, uS, uS, uS, uS]) rfl ?_
 refine o_aload K X26 at_275 rfl rfl rfl ?_
 refine o_iload K X26 at_277 rfl rfl ?_
 refine o_bipush K X26 at_279 rfl (z := 34) rfl ?_
 refine o_castore K X26 A26 (by decide) (show (2 : Int32).toNatClampNeg < 7 from (by decide)) G19 me0 (z := (.int 34)) (congrArg Value.int (by decide)) at_281 rfl ?_
 intro T83 h83 X83 W83 A83
 replace A83 : oArr Z h83 b19 k19 .char [.int p0, .int p1, .int 34, .int p3, .int p4, .int p5, .int p6] := A83
 refine o_iinc K X83 at_282 rfl rfl (L' := #[vJ i0, sS, vI i1, vI i2, vI i3, vI i4, vI 1, vI sv0, vI sv1, vI mode, vI tc, vI 2, vI ww1, vI 2, vI 5, vI 2, vR b19, vI 3, uS, uS, uS, uS]) (by rw [show (2 : Int32) + Int32.ofInt 1 = (3 : Int32) from (by decide)]; rfl) ?_
 refine o_iload K X83 at_285 rfl rfl ?_
 refine o_iconst K X83 at_287 rfl (z := 1) rfl ?_
 refine o_icmp_lt_f K X83 at_288 rfl (by decide) ?_
 refine o_aload K X83 at_291 rfl rfl rfl ?_
 refine o_iload K X83 at_293 rfl rfl ?_
 refine o_iload K X83 at_295 rfl rfl ?_
 refine o_castore K X83 A83 (by decide) (show (3 : Int32).toNatClampNeg < 7 from (by decide)) G19 me0 (z := (.int sv0)) (congrArg Value.int (oChN c_sv0)) at_297 rfl ?_
 intro T84 h84 X84 W84 A84
 replace A84 : oArr Z h84 b19 k19 .char [.int p0, .int p1, .int 34, .int sv0, .int p4, .int p5, .int p6] := A84
 refine o_iinc K X84 at_298 rfl rfl (L' := #[vJ i0, sS, vI i1, vI i2, vI i3, vI i4, vI 1, vI sv0, vI sv1, vI mode, vI tc, vI 2, vI ww1, vI 2, vI 5, vI 2, vR b19, vI 4, uS, uS, uS, uS]) (by rw [show (3 : Int32) + Int32.ofInt 1 = (4 : Int32) from (by decide)]; rfl) ?_
 refine o_iload K X84 at_301 rfl rfl ?_
 refine o_bipush K X84 at_303 rfl (z := 34) rfl ?_
 refine o_icmp_ne_f K X84 at_305 rfl c271_82 ?_
 refine o_aload K X84 at_308 rfl rfl rfl ?_
 refine o_iload K X84 at_310 rfl rfl ?_
 refine o_bipush K X84 at_312 rfl (z := 34) rfl ?_
 refine o_castore K X84 A84 (by decide) (show (4 : Int32).toNatClampNeg < 7 from (by decide)) G19 me0 (z := (.int 34)) (congrArg Value.int (by decide)) at_314 rfl ?_
 intro T85 h85 X85 W85 A85
 replace A85 : oArr Z h85 b19 k19 .char [.int p0, .int p1, .int 34, .int sv0, .int 34, .int p5, .int p6] := A85
 refine o_iinc K X85 at_315 rfl rfl (L' := #[vJ i0, sS, vI i1, vI i2, vI i3, vI i4, vI 1, vI sv0, vI sv1, vI mode, vI tc, vI 2, vI ww1, vI 2, vI 5, vI 2, vR b19, vI 5, uS, uS, uS, uS]) (by rw [show (4 : Int32) + Int32.ofInt 1 = (5 : Int32) from (by decide)]; rfl) ?_
 refine o_iload K X85 at_318 rfl rfl ?_
 refine o_iconst K X85 at_320 rfl (z := 2) rfl ?_
 refine o_icmp_lt_t K X85 at_321 (by decide) (pc' := 351) (by decide) (by decide) ?_
 refine o_iload K X85 at_351 rfl rfl ?_
 refine o_if_eq_f K X85 at_353 rfl mo0 ?_
 refine o_aload K X85 at_356 rfl rfl rfl ?_
 refine o_iload K X85 at_358 rfl rfl ?_
 refine o_bipush K X85 at_360 rfl (z := 34) rfl ?_
 refine o_castore K X85 A85 (by decide) (show (5 : Int32).toNatClampNeg < 7 from (by decide)) G19 me0 (z := (.int 34)) (congrArg Value.int (by decide)) at_362 rfl ?_
 intro T86 h86 X86 W86 A86
 replace A86 : oArr Z h86 b19 k19 .char [.int p0, .int p1, .int 34, .int sv0, .int 34, .int 34, .int p6] := A86
 refine o_iinc K X86 at_363 rfl rfl (L' := #[vJ i0, sS, vI i1, vI i2, vI i3, vI i4, vI 1, vI sv0, vI sv1, vI mode, vI tc, vI 2, vI ww1, vI 2, vI 5, vI 2, vR b19, vI 6, uS, uS, uS, uS]) (by rw [show (5 : Int32) + Int32.ofInt 1 = (6 : Int32) from (by decide)]; rfl) ?_
 refine o_iload K X86 at_366 rfl rfl ?_
 refine o_iconst K X86 at_368 rfl (z := 2) rfl ?_
 refine o_icmp_lt_f K X86 at_369 rfl mo2 ?_
 refine o_aload K X86 at_372 rfl rfl rfl ?_
 refine o_iload K X86 at_374 rfl rfl ?_
 refine o_iload K X86 at_376 rfl rfl ?_
 refine o_castore K X86 A86 (by decide) (show (6 : Int32).toNatClampNeg < 7 from (by decide)) G19 me0 (z := (.int tc)) (congrArg Value.int (oChN c_tc)) at_378 rfl ?_
 intro T87 h87 X87 W87 A87
 replace A87 : oArr Z h87 b19 k19 .char [.int p0, .int p1, .int 34, .int sv0, .int 34, .int 34, .int tc] := A87
 refine o_iinc K X87 at_379 rfl rfl (L' := #[vJ i0, sS, vI i1, vI i2, vI i3, vI i4, vI 1, vI sv0, vI sv1, vI mode, vI tc, vI 2, vI ww1, vI 2, vI 5, vI 2, vR b19, vI 7, uS, uS, uS, uS]) (by rw [show (6 : Int32) + Int32.ofInt 1 = (7 : Int32) from (by decide)]; rfl) ?_
 refine o_new K X87 (w2 hw) (w3 hw) (w4 hw) at_382 rfl (by decide) (by decide) ?_
 intro T88 h88 b88 X88 g88 E88 A88 D88 G88
 have F88_coder : Fld Z h88 b88 z0 "coder" "B" (.int 0) := (D88 (Or.inr (w28 hw)) (ty := .byte) (by decide))
 have F88_value : Fld Z h88 b88 z0 "value" "[B" .null := (D88 (Or.inr (w30 hw)) (ty := (.array .byte)) (by decide))
 refine o_dup K X88 at_385 rfl rfl ?_
 refine o_aload K X88 at_386 rfl rfl rfl ?_
 have m89 := (A87.ext E88)
 refine o_special K X88 (y := (⟨z0, "<init>", "([C)V"⟩ : MethodName)) rfl (w5 hw) (w6 hw) (w4 hw) (w7 hw) (by decide) (rm_str_7 l Z a0 hw b88 b19 k19 cs p0 p1 34 sv0 34 34 tc h88 A88 F88_value F88_coder G88 m89 q2 q3 c_p0.2 c_p1.2 (by decide) c_sv0.2 (by decide) (by decide) c_tc.2) (allS me0 all0) (by decide) rfl (argsL := [.ref b19]) rfl (lenOf pd33 rfl) (W := 1) rfl (by decide) (by decide) (by decide) at_388 rfl ?_
 intro v90 T90 h90 FX90 U90
 obtain ⟨vb_90, k_90, rfl, u90_0, u90_1, u90_2, u90_3, u90_4, u90_5⟩ := U90
 have G90_vb : Z.heap.size ≤ vb_90 := Nat.le_trans X88.ext0.1 u90_4
 have X90 := FX90 [vb_90] (Or.inl rfl) (allS ⟨u90_4, u90_5.lt⟩ all0)
 show oGoes pp ee bb ss Z T90 (mkF mm 391 _ [.ref b88]) _ _ _ _
 refine o_astore K X90 at_391 rfl rfl (L' := #[vJ i0, sS, vI i1, vI i2, vI i3, vI i4, vI 1, vI sv0, vI sv1, vI mode, vI tc, vI 2, vI ww1, vI 2, vI 5, vI 2, vR b19, vI 7, vR b88, uS, uS, uS]) rfl ?_
 refine o_aload K X90 at_393 rfl rfl rfl ?_
 refine o_iload K X90 at_395 rfl rfl ?_
 refine o_static K X90  (w31 hw) (w32 hw) (w33 hw) (w34 hw) (by decide) (rm_read_q_2 l Z a0 hw b88 vb_90 k_90 p0 p1 34 sv0 34 34 tc fm cs em h90 u90_1 u90_2 u90_3 u90_5 c271_82 (by decide) (by decide) n_tc c_sv0 oCh34 oCh34 c_tc c_tc.2 q0 q1 q2 q3 q4) all0 (by decide) rfl (argsL := [.ref b88, .int 2]) rfl (lenOf pd34 rfl) (W := 0) rfl (by decide) (by decide) (by decide) at_397 rfl ?_
 intro v91 T91 h91 FX91 U91
 obtain ⟨r_91, qt_91, s_91, sv_91, ks_91, rfl, u91_0, u91_1, u91_2, u91_3, u91_4, u91_5, u91_6, u91_7, u91_8, u91_9, u91_10, u91_11⟩ := U91
 have G91_r : Z.heap.size ≤ r_91 := Nat.le_trans X90.ext0.1 u91_1
 have G91_s : Z.heap.size ≤ s_91 := Nat.le_trans X90.ext0.1 u91_7
 have X91 := FX91 [r_91, s_91] (Or.inl rfl) (allS ⟨u91_1, u91_2.lt⟩ (allS ⟨u91_7, u91_8.lt⟩ all0))
 show oGoes pp ee bb ss Z T91 (mkF mm 400 _ [.ref r_91]) _ _ _ _
 refine tl_lw1 l Z a0 hw i0 i1 i2 i3 i4 sv0 sv1 mode tc 2 ww1 2 5 2 7 b19 b88 r_91 qt_91 s_91 sv_91 ks_91 6 34 cs h91 u91_2 u91_3 u91_4 u91_5 u91_6 u91_8 u91_9 u91_10 u91_11 mo0 (by decide) c271_82.symm c_sv0 (oChN c_sv0) G91_s q2 q3 (fun v92 h92 U92 => ?_) K (X91.mono (by decide) (by decide) (by decide) (allS me1 all0))
 obtain rfl : v92 = some (.int 1) := U92
 exact rfl
 obtain rfl : ww0 = (1 : Int32) := e_ww0.trans (if_neg c271_82)
 obtain rfl : enc = (1 : Int32) := e_enc.trans (by simp +decide)
 obtain rfl : rest = (4 : Int32) := e_rest.trans (by rw [if_neg mo0, if_neg mo1]; decide)
 obtain rfl : start = (3 : Int32) := e_start.trans (by decide)
 refine o_iload K X26 at_271 rfl rfl ?_
 refine o_istore K X26 at_273 rfl (L' := #[vJ i0, sS, vI i1, vI i2, vI i3, vI i4, vI 1, vI sv0, vI sv1, vI mode, vI tc, vI 1, vI ww1, vI 1, vI 4, vI 3, vR b19, vI 3, uS, uS, uS, uS]) rfl ?_
 refine o_aload K X26 at_275 rfl rfl rfl ?_
 refine o_iload K X26 at_277 rfl rfl ?_
 refine o_bipush K X26 at_279 rfl (z := 34) rfl ?_
 refine o_castore K X26 A26 (by decide) (show (3 : Int32).toNatClampNeg < 7 from (by decide)) G19 me0 (z := (.int 34)) (congrArg Value.int (by decide)) at_281 rfl ?_
 intro T93 h93 X93 W93 A93
 replace A93 : oArr Z h93 b19 k19 .char [.int p0, .int p1, .int p2, .int 34, .int p4, .int p5, .int p6] := A93
 refine o_iinc K X93 at_282 rfl rfl (L' := #[vJ i0, sS, vI i1, vI i2, vI i3, vI i4, vI 1, vI sv0, vI sv1, vI mode, vI tc, vI 1, vI ww1, vI 1, vI 4, vI 3, vR b19, vI 4, uS, uS, uS, uS]) (by rw [show (3 : Int32) + Int32.ofInt 1 = (4 : Int32) from (by decide)]; rfl) ?_
 refine o_iload K X93 at_285 rfl rfl ?_
 refine o_iconst K X93 at_287 rfl (z := 1) rfl ?_
 refine o_icmp_lt_f K X93 at_288 rfl (by decide) ?_
 refine o_aload K X93 at_291 rfl rfl rfl ?_
 refine o_iload K X93 at_293 rfl rfl ?_
 refine o_iload K X93 at_295 rfl rfl ?_
 refine o_castore K X93 A93 (by decide) (show (4 : Int32).toNatClampNeg < 7 from (by decide)) G19 me0 (z := (.int sv0)) (congrArg Value.int (oChN c_sv0)) at_297 rfl ?_
 intro T94 h94 X94 W94 A94
 replace A94 : oArr Z h94 b19 k19 .char [.int p0, .int p1, .int p2, .int 34, .int sv0, .int p5, .int p6] := A94
 refine o_iinc K X94 at_298 rfl rfl (L' := #[vJ i0, sS, vI i1, vI i2, vI i3, vI i4, vI 1, vI sv0, vI sv1, vI mode, vI tc, vI 1, vI ww1, vI 1, vI 4, vI 3, vR b19, vI 5, uS, uS, uS, uS]) (by rw [show (4 : Int32) + Int32.ofInt 1 = (5 : Int32) from (by decide)]; rfl) ?_
 refine o_iload K X94 at_301 rfl rfl ?_
 refine o_bipush K X94 at_303 rfl (z := 34) rfl ?_
 refine o_icmp_ne_t K X94 at_305 (by decide) (pc' := 318) (by decide) c271_82 ?_
 refine o_iload K X94 at_318 rfl rfl ?_
 refine o_iconst K X94 at_320 rfl (z := 2) rfl ?_
 refine o_icmp_lt_t K X94 at_321 (by decide) (pc' := 351) (by decide) (by decide) ?_
 refine o_iload K X94 at_351 rfl rfl ?_
 refine o_if_eq_f K X94 at_353 rfl mo0 ?_
 refine o_aload K X94 at_356 rfl rfl rfl ?_
 refine o_iload K X94 at_358 rfl rfl ?_
 refine o_bipush K X94 at_360 rfl (z := 34) rfl ?_
 refine o_castore K X94 A94 (by decide) (show (5 : Int32).toNatClampNeg < 7 from (by decide)) G19 me0 (z := (.int 34)) (congrArg Value.int (by decide)) at_362 rfl ?_
 intro T95 h95 X95 W95 A95
 replace A95 : oArr Z h95 b19 k19 .char [.int p0, .int p1, .int p2, .int 34, .int sv0, .int 34, .int p6] := A95
 refine o_iinc K X95 at_363 rfl rfl (L' := #[vJ i0, sS, vI i1, vI i2, vI i3, vI i4, vI 1, vI sv0, vI sv1, vI mode, vI tc, vI 1, vI ww1, vI 1, vI 4, vI 3, vR b19, vI 6, uS, uS, uS, uS]) (by rw [show (5 : Int32) + Int32.ofInt 1 = (6 : Int32) from (by decide)]; rfl) ?_
 refine o_iload K X95 at_366 rfl rfl ?_
 refine o_iconst K X95 at_368 rfl (z := 2) rfl ?_
 refine o_icmp_lt_f K X95 at_369 rfl mo2 ?_
 refine o_aload K X95 at_372 rfl rfl rfl ?_
 refine o_iload K X95 at_374 rfl rfl ?_
 refine o_iload K X95 at_376 rfl rfl ?_
 refine o_castore K X95 A95 (by decide) (show (6 : Int32).toNatClampNeg < 7 from (by decide)) G19 me0 (z := (.int tc)) (congrArg Value.int (oChN c_tc)) at_378 rfl ?_
 intro T96 h96 X96 W96 A96
 replace A96 : oArr Z h96 b19 k19 .char [.int p0, .int p1, .int p2, .int 34, .int sv0, .int 34, .int tc] := A96
 refine o_iinc K X96 at_379 rfl rfl (L' := #[vJ i0, sS, vI i1, vI i2, vI i3, vI i4, vI 1, vI sv0, vI sv1, vI mode, vI tc, vI 1, vI ww1, vI 1, vI 4, vI 3, vR b19, vI 7, uS, uS, uS, uS]) (by rw [show (6 : Int32) + Int32.ofInt 1 = (7 : Int32) from (by decide)]; rfl) ?_
 refine o_new K X96 (w2 hw) (w3 hw) (w4 hw) at_382 rfl (by decide) (by decide) ?_
 intro T97 h97 b97 X97 g97 E97 A97 D97 G97
 have F97_coder : Fld Z h97 b97 z0 "coder" "B" (.int 0) := (D97 (Or.inr (w28 hw)) (ty := .byte) (by decide))
 have F97_value : Fld Z h97 b97 z0 "value" "[B" .null := (D97 (Or.inr (w30 hw)) (ty := (.array .byte)) (by decide))
 refine o_dup K X97 at_385 rfl rfl ?_
 refine o_aload K X97 at_386 rfl rfl rfl ?_
 have m98 := (A96.ext E97)
 refine o_special K X97 (y := (⟨z0, "<init>", "([C)V"⟩ : MethodName)) rfl (w5 hw) (w6 hw) (w4 hw) (w7 hw) (by decide) (rm_str_7 l Z a0 hw b97 b19 k19 cs p0 p1 p2 34 sv0 34 tc h97 A97 F97_value F97_coder G97 m98 q2 q3 c_p0.2 c_p1.2 c_p2.2 (by decide) c_sv0.2 (by decide) c_tc.2) (allS me0 all0) (by decide) rfl (argsL := [.ref b19]) rfl (lenOf pd33 rfl) (W := 1) rfl (by decide) (by decide) (by decide) at_388 rfl ?_
 intro v99 T99 h99 FX99 U99
 obtain ⟨vb_99, k_99, rfl, u99_0, u99_1, u99_2, u99_3, u99_4, u99_5⟩ := U99
 have G99_vb : Z.heap.size ≤ vb_99 := Nat.le_trans X97.ext0.1 u99_4
 have X99 := FX99 [vb_99] (Or.inl rfl) (allS ⟨u99_4, u99_5.lt⟩ all0)
 show oGoes pp ee bb ss Z T99 (mkF mm 391 _ [.ref b97]) _ _ _ _
 refine o_astore K X99 at_391 rfl rfl (L' := #[vJ i0, sS, vI i1, vI i2, vI i3, vI i4, vI 1, vI sv0, vI sv1, vI mode, vI tc, vI 1, vI ww1, vI 1, vI 4, vI 3, vR b19, vI 7, vR b97, uS, uS, uS]) rfl ?_
 refine o_aload K X99 at_393 rfl rfl rfl ?_
 refine o_iload K X99 at_395 rfl rfl ?_
 refine o_static K X99  (w31 hw) (w32 hw) (w33 hw) (w34 hw) (by decide) (rm_read_n_2 l Z a0 hw b97 vb_99 k_99 p0 p1 p2 34 sv0 34 tc fm cs em h99 u99_1 u99_2 u99_3 u99_5 (by decide) c271_82 n_tc c_sv0 oCh34 c_tc c_sv0.2 c_tc.2 q0 q1 q2 q3 q4) all0 (by decide) rfl (argsL := [.ref b97, .int 3]) rfl (lenOf pd34 rfl) (W := 0) rfl (by decide) (by decide) (by decide) at_397 rfl ?_
 intro v100 T100 h100 FX100 U100
 obtain ⟨r_100, qt_100, s_100, sv_100, ks_100, rfl, u100_0, u100_1, u100_2, u100_3, u100_4, u100_5, u100_6, u100_7, u100_8, u100_9, u100_10, u100_11⟩ := U100
 have G100_r : Z.heap.size ≤ r_100 := Nat.le_trans X99.ext0.1 u100_1
 have G100_s : Z.heap.size ≤ s_100 := Nat.le_trans X99.ext0.1 u100_7
 have X100 := FX100 [r_100, s_100] (Or.inl rfl) (allS ⟨u100_1, u100_2.lt⟩ (allS ⟨u100_7, u100_8.lt⟩ all0))
 show oGoes pp ee bb ss Z T100 (mkF mm 400 _ [.ref r_100]) _ _ _ _
 refine tl_lw1 l Z a0 hw i0 i1 i2 i3 i4 sv0 sv1 mode tc 1 ww1 1 4 3 7 b19 b97 r_100 qt_100 s_100 sv_100 ks_100 6 sv0 cs h100 u100_2 u100_3 u100_4 u100_5 u100_6 u100_8 u100_9 u100_10 u100_11 mo0 (by decide) rfl c_sv0 (oChN c_sv0) G100_s q2 q3 (fun v101 h101 U101 => ?_) K (X100.mono (by decide) (by decide) (by decide) (allS me1 all0))
 obtain rfl : v101 = some (.int 1) := U101
 exact rfl
 obtain rfl : k = (2 : Int32) := e_k.trans ek
 rcases oM4 (i4 >>> ((4 : Int32) &&& 31)) with eM | eM | ⟨eM0, eM1, eM2⟩
 obtain rfl : mode = (0 : Int32) := e_mode.trans eM
 by_cases c271_102 : sv0 = (34 : Int32)
 obtain rfl : ww0 = (2 : Int32) := e_ww0.trans (if_pos c271_102)
 by_cases c271_103 : sv1 = (34 : Int32)
 obtain rfl : ww1 = (2 : Int32) := e_ww1.trans (if_pos c271_103)
 obtain rfl : enc = (4 : Int32) := e_enc.trans (by simp +decide)
 obtain rfl : rest = (5 : Int32) := e_rest.trans (by decide)
 obtain rfl : start = (2 : Int32) := e_start.trans (by decide)
 refine o_iload K X26 at_271 rfl rfl ?_
 refine o_istore K X26 at_273 rfl (L' := #[vJ i0, sS, vI i1, vI i2, vI i3, vI i4, vI 2, vI sv0, vI sv1, vI 0, vI tc, vI 2, vI 2, vI 4, vI 5, vI 2, vR b19, vI 2, uS, uS, uS, uS]) rfl ?_
 refine o_aload K X26 at_275 rfl rfl rfl ?_
 refine o_iload K X26 at_277 rfl rfl ?_
 refine o_bipush K X26 at_279 rfl (z := 34) rfl ?_
 refine o_castore K X26 A26 (by decide) (show (2 : Int32).toNatClampNeg < 7 from (by decide)) G19 me0 (z := (.int 34)) (congrArg Value.int (by decide)) at_281 rfl ?_
 intro T104 h104 X104 W104 A104
 replace A104 : oArr Z h104 b19 k19 .char [.int p0, .int p1, .int 34, .int p3, .int p4, .int p5, .int p6] := A104
 refine o_iinc K X104 at_282 rfl rfl (L' := #[vJ i0, sS, vI i1, vI i2, vI i3, vI i4, vI 2, vI sv0, vI sv1, vI 0, vI tc, vI 2, vI 2, vI 4, vI 5, vI 2, vR b19, vI 3, uS, uS, uS, uS]) (by rw [show (2 : Int32) + Int32.ofInt 1 = (3 : Int32) from (by decide)]; rfl) ?_
 refine o_iload K X104 at_285 rfl rfl ?_
 refine o_iconst K X104 at_287 rfl (z := 1) rfl ?_
 refine o_icmp_lt_f K X104 at_288 rfl (by decide) ?_
 refine o_aload K X104 at_291 rfl rfl rfl ?_
 refine o_iload K X104 at_293 rfl rfl ?_
 refine o_iload K X104 at_295 rfl rfl ?_
 refine o_castore K X104 A104 (by decide) (show (3 : Int32).toNatClampNeg < 7 from (by decide)) G19 me0 (z := (.int sv0)) (congrArg Value.int (oChN c_sv0)) at_297 rfl ?_
 intro T105 h105 X105 W105 A105
 replace A105 : oArr Z h105 b19 k19 .char [.int p0, .int p1, .int 34, .int sv0, .int p4, .int p5, .int p6] := A105
 refine o_iinc K X105 at_298 rfl rfl (L' := #[vJ i0, sS, vI i1, vI i2, vI i3, vI i4, vI 2, vI sv0, vI sv1, vI 0, vI tc, vI 2, vI 2, vI 4, vI 5, vI 2, vR b19, vI 4, uS, uS, uS, uS]) (by rw [show (3 : Int32) + Int32.ofInt 1 = (4 : Int32) from (by decide)]; rfl) ?_
 refine o_iload K X105 at_301 rfl rfl ?_
 refine o_bipush K X105 at_303 rfl (z := 34) rfl ?_
 refine o_icmp_ne_f K X105 at_305 rfl c271_102 ?_
 refine o_aload K X105 at_308 rfl rfl rfl ?_
 refine o_iload K X105 at_310 rfl rfl ?_
 refine o_bipush K X105 at_312 rfl (z := 34) rfl ?_
 refine o_castore K X105 A105 (by decide) (show (4 : Int32).toNatClampNeg < 7 from (by decide)) G19 me0 (z := (.int 34)) (congrArg Value.int (by decide)) at_314 rfl ?_
 intro T106 h106 X106 W106 A106
 replace A106 : oArr Z h106 b19 k19 .char [.int p0, .int p1, .int 34, .int sv0, .int 34, .int p5, .int p6] := A106
 refine o_iinc K X106 at_315 rfl rfl (L' := #[vJ i0, sS, vI i1, vI i2, vI i3, vI i4, vI 2, vI sv0, vI sv1, vI 0, vI tc, vI 2, vI 2, vI 4, vI 5, vI 2, vR b19, vI 5, uS, uS, uS, uS]) (by rw [show (4 : Int32) + Int32.ofInt 1 = (5 : Int32) from (by decide)]; rfl) ?_
 refine o_iload K X106 at_318 rfl rfl ?_
 refine o_iconst K X106 at_320 rfl (z := 2) rfl ?_
 refine o_icmp_lt_f K X106 at_321 rfl (by decide) ?_
 refine o_aload K X106 at_324 rfl rfl rfl ?_
 refine o_iload K X106 at_326 rfl rfl ?_
 refine o_iload K X106 at_328 rfl rfl ?_
 refine o_castore K X106 A106 (by decide) (show (5 : Int32).toNatClampNeg < 7 from (by decide)) G19 me0 (z := (.int sv1)) (congrArg Value.int (oChN c_sv1)) at_330 rfl ?_
 intro T107 h107 X107 W107 A107
 replace A107 : oArr Z h107 b19 k19 .char [.int p0, .int p1, .int 34, .int sv0, .int 34, .int sv1, .int p6] := A107
 refine o_iinc K X107 at_331 rfl rfl (L' := #[vJ i0, sS, vI i1, vI i2, vI i3, vI i4, vI 2, vI sv0, vI sv1, vI 0, vI tc, vI 2, vI 2, vI 4, vI 5, vI 2, vR b19, vI 6, uS, uS, uS, uS]) (by rw [show (5 : Int32) + Int32.ofInt 1 = (6 : Int32) from (by decide)]; rfl) ?_
 refine o_iload K X107 at_334 rfl rfl ?_
 refine o_bipush K X107 at_336 rfl (z := 34) rfl ?_
 refine o_icmp_ne_f K X107 at_338 rfl c271_103 ?_
 refine o_aload K X107 at_341 rfl rfl rfl ?_
 refine o_iload K X107 at_343 rfl rfl ?_
 refine o_bipush K X107 at_345 rfl (z := 34) rfl ?_
 refine o_castore K X107 A107 (by decide) (show (6 : Int32).toNatClampNeg < 7 from (by decide)) G19 me0 (z := (.int 34)) (congrArg Value.int (by decide)) at_347 rfl ?_
 intro T108 h108 X108 W108 A108
 replace A108 : oArr Z h108 b19 k19 .char [.int p0, .int p1, .int 34, .int sv0, .int 34, .int sv1, .int 34] := A108
 refine o_iinc K X108 at_348 rfl rfl (L' := #[vJ i0, sS, vI i1, vI i2, vI i3, vI i4, vI 2, vI sv0, vI sv1, vI 0, vI tc, vI 2, vI 2, vI 4, vI 5, vI 2, vR b19, vI 7, uS, uS, uS, uS]) (by rw [show (6 : Int32) + Int32.ofInt 1 = (7 : Int32) from (by decide)]; rfl) ?_
 refine o_iload K X108 at_351 rfl rfl ?_
 refine o_if_eq_t K X108 at_353 (by decide) (pc' := 382) (by decide) (by decide) ?_
 refine o_new K X108 (w2 hw) (w3 hw) (w4 hw) at_382 rfl (by decide) (by decide) ?_
 intro T109 h109 b109 X109 g109 E109 A109 D109 G109
 have F109_coder : Fld Z h109 b109 z0 "coder" "B" (.int 0) := (D109 (Or.inr (w28 hw)) (ty := .byte) (by decide))
 have F109_value : Fld Z h109 b109 z0 "value" "[B" .null := (D109 (Or.inr (w30 hw)) (ty := (.array .byte)) (by decide))
 refine o_dup K X109 at_385 rfl rfl ?_
 refine o_aload K X109 at_386 rfl rfl rfl ?_
 have m110 := (A108.ext E109)
 refine o_special K X109 (y := (⟨z0, "<init>", "([C)V"⟩ : MethodName)) rfl (w5 hw) (w6 hw) (w4 hw) (w7 hw) (by decide) (rm_str_7 l Z a0 hw b109 b19 k19 cs p0 p1 34 sv0 34 sv1 34 h109 A109 F109_value F109_coder G109 m110 q2 q3 c_p0.2 c_p1.2 (by decide) c_sv0.2 (by decide) c_sv1.2 (by decide)) (allS me0 all0) (by decide) rfl (argsL := [.ref b19]) rfl (lenOf pd33 rfl) (W := 1) rfl (by decide) (by decide) (by decide) at_388 rfl ?_
 intro v111 T111 h111 FX111 U111
 obtain ⟨vb_111, k_111, rfl, u111_0, u111_1, u111_2, u111_3, u111_4, u111_5⟩ := U111
 have G111_vb : Z.heap.size ≤ vb_111 := Nat.le_trans X109.ext0.1 u111_4
 have X111 := FX111 [vb_111] (Or.inl rfl) (allS ⟨u111_4, u111_5.lt⟩ all0)
 show oGoes pp ee bb ss Z T111 (mkF mm 391 _ [.ref b109]) _ _ _ _
 refine o_astore K X111 at_391 rfl rfl (L' := #[vJ i0, sS, vI i1, vI i2, vI i3, vI i4, vI 2, vI sv0, vI sv1, vI 0, vI tc, vI 2, vI 2, vI 4, vI 5, vI 2, vR b19, vI 7, vR b109, uS, uS, uS]) rfl ?_
 refine o_aload K X111 at_393 rfl rfl rfl ?_
 refine o_iload K X111 at_395 rfl rfl ?_
 refine o_static K X111  (w31 hw) (w32 hw) (w33 hw) (w34 hw) (by decide) (rm_read_qq_0 l Z a0 hw b109 vb_111 k_111 p0 p1 34 sv0 34 sv1 34 fm cs em h111 u111_1 u111_2 u111_3 u111_5 c271_102 (by decide) c271_103 (by decide) c_sv0 oCh34 c_sv1 oCh34 q0 q1 q2 q3 q4) all0 (by decide) rfl (argsL := [.ref b109, .int 2]) rfl (lenOf pd34 rfl) (W := 0) rfl (by decide) (by decide) (by decide) at_397 rfl ?_
 intro v112 T112 h112 FX112 U112
 obtain ⟨rfl, u112_0⟩ := U112
 have X112 := FX112 [] (Or.inl rfl) all0
 show oGoes pp ee bb ss Z T112 (mkF mm 400 _ [.ref em]) _ _ _ _
 refine tl_lwe l Z a0 hw i0 i1 i2 i3 i4 2 sv0 sv1 tc 2 2 4 5 2 7 b19 b109 em h112 q5 q6 (fun v113 h113 U113 => ?_) K (X112.mono (by decide) (by decide) (by decide) all0)
 obtain rfl : v113 = some (.int 1) := U113
 exact rfl
 obtain rfl : ww1 = (1 : Int32) := e_ww1.trans (if_neg c271_103)
 obtain rfl : enc = (3 : Int32) := e_enc.trans (by simp +decide)
 obtain rfl : rest = (4 : Int32) := e_rest.trans (by decide)
 obtain rfl : start = (3 : Int32) := e_start.trans (by decide)
 refine o_iload K X26 at_271 rfl rfl ?_
 refine o_istore K X26 at_273 rfl (L' := #[vJ i0, sS, vI i1, vI i2, vI i3, vI i4, vI 2, vI sv0, vI sv1, vI 0, vI tc, vI 2, vI 1, vI 3, vI 4, vI 3, vR b19, vI 3, uS, uS, uS, uS]) rfl ?_
 refine o_aload K X26 at_275 rfl rfl rfl ?_
 refine o_iload K X26 at_277 rfl rfl ?_
 refine o_bipush K X26 at_279 rfl (z := 34) rfl ?_
 refine o_castore K X26 A26 (by decide) (show (3 : Int32).toNatClampNeg < 7 from (by decide)) G19 me0 (z := (.int 34)) (congrArg Value.int (by decide)) at_281 rfl ?_
 intro T114 h114 X114 W114 A114
 replace A114 : oArr Z h114 b19 k19 .char [.int p0, .int p1, .int p2, .int 34, .int p4, .int p5, .int p6] := A114
 refine o_iinc K X114 at_282 rfl rfl (L' := #[vJ i0, sS, vI i1, vI i2, vI i3, vI i4, vI 2, vI sv0, vI sv1, vI 0, vI tc, vI 2, vI 1, vI 3, vI 4, vI 3, vR b19, vI 4, uS, uS, uS, uS]) (by rw [show (3 : Int32) + Int32.ofInt 1 = (4 : Int32) from (by decide)]; rfl) ?_
 refine o_iload K X114 at_285 rfl rfl ?_
 refine o_iconst K X114 at_287 rfl (z := 1) rfl ?_
 refine o_icmp_lt_f K X114 at_288 rfl (by decide) ?_
 refine o_aload K X114 at_291 rfl rfl rfl ?_
 refine o_iload K X114 at_293 rfl rfl ?_
 refine o_iload K X114 at_295 rfl rfl ?_
 refine o_castore K X114 A114 (by decide) (show (4 : Int32).toNatClampNeg < 7 from (by decide)) G19 me0 (z := (.int sv0)) (congrArg Value.int (oChN c_sv0)) at_297 rfl ?_
 intro T115 h115 X115 W115 A115
 replace A115 : oArr Z h115 b19 k19 .char [.int p0, .int p1, .int p2, .int 34, .int sv0, .int p5, .int p6] := A115
 refine o_iinc K X115 at_298 rfl rfl (L' := #[vJ i0, sS, vI i1, vI i2, vI i3, vI i4, vI 2, vI sv0, vI sv1, vI 0, vI tc, vI 2, vI 1, vI 3, vI 4, vI 3, vR b19, vI 5, uS, uS, uS, uS]) (by rw [show (4 : Int32) + Int32.ofInt 1 = (5 : Int32) from (by decide)]; rfl) ?_
 refine o_iload K X115 at_301 rfl rfl ?_
 refine o_bipush K X115 at_303 rfl (z := 34) rfl ?_
 refine o_icmp_ne_f K X115 at_305 rfl c271_102 ?_
 refine o_aload K X115 at_308 rfl rfl rfl ?_
 refine o_iload K X115 at_310 rfl rfl ?_
 refine o_bipush K X115 at_312 rfl (z := 34) rfl ?_
 refine o_castore K X115 A115 (by decide) (show (5 : Int32).toNatClampNeg < 7 from (by decide)) G19 me0 (z := (.int 34)) (congrArg Value.int (by decide)) at_314 rfl ?_
 intro T116 h116 X116 W116 A116
 replace A116 : oArr Z h116 b19 k19 .char [.int p0, .int p1, .int p2, .int 34, .int sv0, .int 34, .int p6] := A116
 refine o_iinc K X116 at_315 rfl rfl (L' := #[vJ i0, sS, vI i1, vI i2, vI i3, vI i4, vI 2, vI sv0, vI sv1, vI 0, vI tc, vI 2, vI 1, vI 3, vI 4, vI 3, vR b19, vI 6, uS, uS, uS, uS]) (by rw [show (5 : Int32) + Int32.ofInt 1 = (6 : Int32) from (by decide)]; rfl) ?_
 refine o_iload K X116 at_318 rfl rfl ?_
 refine o_iconst K X116 at_320 rfl (z := 2) rfl ?_
 refine o_icmp_lt_f K X116 at_321 rfl (by decide) ?_
 refine o_aload K X116 at_324 rfl rfl rfl ?_
 refine o_iload K X116 at_326 rfl rfl ?_
 refine o_iload K X116 at_328 rfl rfl ?_
 refine o_castore K X116 A116 (by decide) (show (6 : Int32).toNatClampNeg < 7 from (by decide)) G19 me0 (z := (.int sv1)) (congrArg Value.int (oChN c_sv1)) at_330 rfl ?_
 intro T117 h117 X117 W117 A117
 replace A117 : oArr Z h117 b19 k19 .char [.int p0, .int p1, .int p2, .int 34, .int sv0, .int 34, .int sv1] := A117
 refine o_iinc K X117 at_331 rfl rfl (L' := #[vJ i0, sS, vI i1, vI i2, vI i3, vI i4, vI 2, vI sv0, vI sv1, vI 0, vI tc, vI 2, vI 1, vI 3, vI 4, vI 3, vR b19, vI 7, uS, uS, uS, uS]) (by rw [show (6 : Int32) + Int32.ofInt 1 = (7 : Int32) from (by decide)]; rfl) ?_
 refine o_iload K X117 at_334 rfl rfl ?_
 refine o_bipush K X117 at_336 rfl (z := 34) rfl ?_
 refine o_icmp_ne_t K X117 at_338 (by decide) (pc' := 351) (by decide) c271_103 ?_
 refine o_iload K X117 at_351 rfl rfl ?_
 refine o_if_eq_t K X117 at_353 (by decide) (pc' := 382) (by decide) (by decide) ?_
 refine o_new K X117 (w2 hw) (w3 hw) (w4 hw) at_382 rfl (by decide) (by decide) ?_
 intro T118 h118 b118 X118 g118 E118 A118 D118 G118
 have F118_coder : Fld Z h118 b118 z0 "coder" "B" (.int 0) := (D118 (Or.inr (w28 hw)) (ty := .byte) (by decide))
 have F118_value : Fld Z h118 b118 z0 "value" "[B" .null := (D118 (Or.inr (w30 hw)) (ty := (.array .byte)) (by decide))
 refine o_dup K X118 at_385 rfl rfl ?_
 refine o_aload K X118 at_386 rfl rfl rfl ?_
 have m119 := (A117.ext E118)
 refine o_special K X118 (y := (⟨z0, "<init>", "([C)V"⟩ : MethodName)) rfl (w5 hw) (w6 hw) (w4 hw) (w7 hw) (by decide) (rm_str_7 l Z a0 hw b118 b19 k19 cs p0 p1 p2 34 sv0 34 sv1 h118 A118 F118_value F118_coder G118 m119 q2 q3 c_p0.2 c_p1.2 c_p2.2 (by decide) c_sv0.2 (by decide) c_sv1.2) (allS me0 all0) (by decide) rfl (argsL := [.ref b19]) rfl (lenOf pd33 rfl) (W := 1) rfl (by decide) (by decide) (by decide) at_388 rfl ?_
 intro v120 T120 h120 FX120 U120
 obtain ⟨vb_120, k_120, rfl, u120_0, u120_1, u120_2, u120_3, u120_4, u120_5⟩ := U120
 have G120_vb : Z.heap.size ≤ vb_120 := Nat.le_trans X118.ext0.1 u120_4
 have X120 := FX120 [vb_120] (Or.inl rfl) (allS ⟨u120_4, u120_5.lt⟩ all0)
 show oGoes pp ee bb ss Z T120 (mkF mm 391 _ [.ref b118]) _ _ _ _
 refine o_astore K X120 at_391 rfl rfl (L' := #[vJ i0, sS, vI i1, vI i2, vI i3, vI i4, vI 2, vI sv0, vI sv1, vI 0, vI tc, vI 2, vI 1, vI 3, vI 4, vI 3, vR b19, vI 7, vR b118, uS, uS, uS]) rfl ?_
 refine o_aload K X120 at_393 rfl rfl rfl ?_
 refine o_iload K X120 at_395 rfl rfl ?_
 refine o_static K X120  (w31 hw) (w32 hw) (w33 hw) (w34 hw) (by decide) (rm_read_qn_0 l Z a0 hw b118 vb_120 k_120 p0 p1 p2 34 sv0 34 sv1 fm cs em h120 u120_1 u120_2 u120_3 u120_5 c271_102 (by decide) c271_103 c_sv0 oCh34 c_sv1 c_sv1.2 q0 q1 q2 q3 q4) all0 (by decide) rfl (argsL := [.ref b118, .int 3]) rfl (lenOf pd34 rfl) (W := 0) rfl (by decide) (by decide) (by decide) at_397 rfl ?_
 intro v121 T121 h121 FX121 U121
 obtain ⟨rfl, u121_0⟩ := U121
 have X121 := FX121 [] (Or.inl rfl) all0
 show oGoes pp ee bb ss Z T121 (mkF mm 400 _ [.ref em]) _ _ _ _
 refine tl_lwe l Z a0 hw i0 i1 i2 i3 i4 2 sv0 sv1 tc 2 1 3 4 3 7 b19 b118 em h121 q5 q6 (fun v122 h122 U122 => ?_) K (X121.mono (by decide) (by decide) (by decide) all0)
 obtain rfl : v122 = some (.int 1) := U122
 exact rfl
 obtain rfl : ww0 = (1 : Int32) := e_ww0.trans (if_neg c271_102)
 by_cases c271_123 : sv1 = (34 : Int32)
 obtain rfl : ww1 = (2 : Int32) := e_ww1.trans (if_pos c271_123)
 obtain rfl : enc = (3 : Int32) := e_enc.trans (by simp +decide)
 obtain rfl : rest = (4 : Int32) := e_rest.trans (by decide)
 obtain rfl : start = (3 : Int32) := e_start.trans (by decide)
 refine o_iload K X26 at_271 rfl rfl ?_
 refine o_istore K X26 at_273 rfl (L' := #[vJ i0, sS, vI i1, vI i2, vI i3, vI i4, vI 2, vI sv0, vI sv1, vI 0, vI tc, vI 1, vI 2, vI 3, vI 4, vI 3, vR b19, vI 3, uS, uS, uS, uS]) rfl ?_
 refine o_aload K X26 at_275 rfl rfl rfl ?_
 refine o_iload K X26 at_277 rfl rfl ?_
 refine o_bipush K X26 at_279 rfl (z := 34) rfl ?_
 refine o_castore K X26 A26 (by decide) (show (3 : Int32).toNatClampNeg < 7 from (by decide)) G19 me0 (z := (.int 34)) (congrArg Value.int (by decide)) at_281 rfl ?_
 intro T124 h124 X124 W124 A124
 replace A124 : oArr Z h124 b19 k19 .char [.int p0, .int p1, .int p2, .int 34, .int p4, .int p5, .int p6] := A124
 refine o_iinc K X124 at_282 rfl rfl (L' := #[vJ i0, sS, vI i1, vI i2, vI i3, vI i4, vI 2, vI sv0, vI sv1, vI 0, vI tc, vI 1, vI 2, vI 3, vI 4, vI 3, vR b19, vI 4, uS, uS, uS, uS]) (by rw [show (3 : Int32) + Int32.ofInt 1 = (4 : Int32) from (by decide)]; rfl) ?_
 refine o_iload K X124 at_285 rfl rfl ?_
 refine o_iconst K X124 at_287 rfl (z := 1) rfl ?_
 refine o_icmp_lt_f K X124 at_288 rfl (by decide) ?_
 refine o_aload K X124 at_291 rfl rfl rfl ?_
 refine o_iload K X124 at_293 rfl rfl ?_
 refine o_iload K X124 at_295 rfl rfl ?_
 refine o_castore K X124 A124 (by decide) (show (4 : Int32).toNatClampNeg < 7 from (by decide)) G19 me0 (z := (.int sv0)) (congrArg Value.int (oChN c_sv0)) at_297 rfl ?_
 intro T125 h125 X125 W125 A125
 replace A125 : oArr Z h125 b19 k19 .char [.int p0, .int p1, .int p2, .int 34, .int sv0, .int p5, .int p6] := A125
 refine o_iinc K X125 at_298 rfl rfl (L' := #[vJ i0, sS, vI i1, vI i2, vI i3, vI i4, vI 2, vI sv0, vI sv1, vI 0, vI tc, vI 1, vI 2, vI 3, vI 4, vI 3, vR b19, vI 5, uS, uS, uS, uS]) (by rw [show (4 : Int32) + Int32.ofInt 1 = (5 : Int32) from (by decide)]; rfl) ?_
 refine o_iload K X125 at_301 rfl rfl ?_
 refine o_bipush K X125 at_303 rfl (z := 34) rfl ?_
 refine o_icmp_ne_t K X125 at_305 (by decide) (pc' := 318) (by decide) c271_102 ?_
 refine o_iload K X125 at_318 rfl rfl ?_
 refine o_iconst K X125 at_320 rfl (z := 2) rfl ?_
 refine o_icmp_lt_f K X125 at_321 rfl (by decide) ?_
 refine o_aload K X125 at_324 rfl rfl rfl ?_
 refine o_iload K X125 at_326 rfl rfl ?_
 refine o_iload K X125 at_328 rfl rfl ?_
 refine o_castore K X125 A125 (by decide) (show (5 : Int32).toNatClampNeg < 7 from (by decide)) G19 me0 (z := (.int sv1)) (congrArg Value.int (oChN c_sv1)) at_330 rfl ?_
 intro T126 h126 X126 W126 A126
 replace A126 : oArr Z h126 b19 k19 .char [.int p0, .int p1, .int p2, .int 34, .int sv0, .int sv1, .int p6] := A126
 refine o_iinc K X126 at_331 rfl rfl (L' := #[vJ i0, sS, vI i1, vI i2, vI i3, vI i4, vI 2, vI sv0, vI sv1, vI 0, vI tc, vI 1, vI 2, vI 3, vI 4, vI 3, vR b19, vI 6, uS, uS, uS, uS]) (by rw [show (5 : Int32) + Int32.ofInt 1 = (6 : Int32) from (by decide)]; rfl) ?_
 refine o_iload K X126 at_334 rfl rfl ?_
 refine o_bipush K X126 at_336 rfl (z := 34) rfl ?_
 refine o_icmp_ne_f K X126 at_338 rfl c271_123 ?_
 refine o_aload K X126 at_341 rfl rfl rfl ?_
 refine o_iload K X126 at_343 rfl rfl ?_
 refine o_bipush K X126 at_345 rfl (z := 34) rfl ?_
 refine o_castore K X126 A126 (by decide) (show (6 : Int32).toNatClampNeg < 7 from (by decide)) G19 me0 (z := (.int 34)) (congrArg Value.int (by decide)) at_347 rfl ?_
 intro T127 h127 X127 W127 A127
 replace A127 : oArr Z h127 b19 k19 .char [.int p0, .int p1, .int p2, .int 34, .int sv0, .int sv1, .int 34] := A127
 refine o_iinc K X127 at_348 rfl rfl (L' := #[vJ i0, sS, vI i1, vI i2, vI i3, vI i4, vI 2, vI sv0, vI sv1, vI 0, vI tc, vI 1, vI 2, vI 3, vI 4, vI 3, vR b19, vI 7, uS, uS, uS, uS]) (by rw [show (6 : Int32) + Int32.ofInt 1 = (7 : Int32) from (by decide)]; rfl) ?_
 refine o_iload K X127 at_351 rfl rfl ?_
 refine o_if_eq_t K X127 at_353 (by decide) (pc' := 382) (by decide) (by decide) ?_
 refine o_new K X127 (w2 hw) (w3 hw) (w4 hw) at_382 rfl (by decide) (by decide) ?_
 intro T128 h128 b128 X128 g128 E128 A128 D128 G128
 have F128_coder : Fld Z h128 b128 z0 "coder" "B" (.int 0) := (D128 (Or.inr (w28 hw)) (ty := .byte) (by decide))
 have F128_value : Fld Z h128 b128 z0 "value" "[B" .null := (D128 (Or.inr (w30 hw)) (ty := (.array .byte)) (by decide))
 refine o_dup K X128 at_385 rfl rfl ?_
 refine o_aload K X128 at_386 rfl rfl rfl ?_
 have m129 := (A127.ext E128)
 refine o_special K X128 (y := (⟨z0, "<init>", "([C)V"⟩ : MethodName)) rfl (w5 hw) (w6 hw) (w4 hw) (w7 hw) (by decide) (rm_str_7 l Z a0 hw b128 b19 k19 cs p0 p1 p2 34 sv0 sv1 34 h128 A128 F128_value F128_coder G128 m129 q2 q3 c_p0.2 c_p1.2 c_p2.2 (by decide) c_sv0.2 c_sv1.2 (by decide)) (allS me0 all0) (by decide) rfl (argsL := [.ref b19]) rfl (lenOf pd33 rfl) (W := 1) rfl (by decide) (by decide) (by decide) at_388 rfl ?_
 intro v130 T130 h130 FX130 U130
 obtain ⟨vb_130, k_130, rfl, u130_0, u130_1, u130_2, u130_3, u130_4, u130_5⟩ := U130
 have G130_vb : Z.heap.size ≤ vb_130 := Nat.le_trans X128.ext0.1 u130_4
 have X130 := FX130 [vb_130] (Or.inl rfl) (allS ⟨u130_4, u130_5.lt⟩ all0)
 show oGoes pp ee bb ss Z T130 (mkF mm 391 _ [.ref b128]) _ _ _ _
 refine o_astore K X130 at_391 rfl rfl (L' := #[vJ i0, sS, vI i1, vI i2, vI i3, vI i4, vI 2, vI sv0, vI sv1, vI 0, vI tc, vI 1, vI 2, vI 3, vI 4, vI 3, vR b19, vI 7, vR b128, uS, uS, uS]) rfl ?_
 refine o_aload K X130 at_393 rfl rfl rfl ?_
 refine o_iload K X130 at_395 rfl rfl ?_
 refine o_static K X130  (w31 hw) (w32 hw) (w33 hw) (w34 hw) (by decide) (rm_read_nq_0 l Z a0 hw b128 vb_130 k_130 p0 p1 p2 34 sv0 sv1 34 fm cs em h130 u130_1 u130_2 u130_3 u130_5 c271_123 (by decide) c271_102 c_sv0 c_sv1 oCh34 c_sv0.2 q0 q1 q2 q3 q4) all0 (by decide) rfl (argsL := [.ref b128, .int 3]) rfl (lenOf pd34 rfl) (W := 0) rfl (by decide) (by decide) (by decide) at_397 rfl ?_
 intro v131 T131 h131 FX131 U131
 obtain ⟨rfl, u131_0⟩ := U131
 have X131 := FX131 [] (Or.inl rfl) all0
 show oGoes pp ee bb ss Z T131 (mkF mm 400 _ [.ref em]) _ _ _ _
 refine tl_lwe l Z a0 hw i0 i1 i2 i3 i4 2 sv0 sv1 tc 1 2 3 4 3 7 b19 b128 em h131 q5 q6 (fun v132 h132 U132 => ?_) K (X131.mono (by decide) (by decide) (by decide) all0)
 obtain rfl : v132 = some (.int 1) := U132
 exact rfl
 obtain rfl : ww1 = (1 : Int32) := e_ww1.trans (if_neg c271_123)
 obtain rfl : enc = (2 : Int32) := e_enc.trans (by simp +decide)
 obtain rfl : rest = (3 : Int32) := e_rest.trans (by decide)
 obtain rfl : start = (4 : Int32) := e_start.trans (by decide)
 refine o_iload K X26 at_271 rfl rfl ?_
 refine o_istore K X26 at_273 rfl (L' := #[vJ i0, sS, vI i1, vI i2, vI i3, vI i4, vI 2, vI sv0, vI sv1, vI 0, vI tc, vI 1, vI 1, vI 2, vI 3, vI 4, vR b19, vI 4, uS, uS, uS, uS]) rfl ?_
 refine o_aload K X26 at_275 rfl rfl rfl ?_
 refine o_iload K X26 at_277 rfl rfl ?_
 refine o_bipush K X26 at_279 rfl (z := 34) rfl ?_
 refine o_castore K X26 A26 (by decide) (show (4 : Int32).toNatClampNeg < 7 from (by decide)) G19 me0 (z := (.int 34)) (congrArg Value.int (by decide)) at_281 rfl ?_
 intro T133 h133 X133 W133 A133
 replace A133 : oArr Z h133 b19 k19 .char [.int p0, .int p1, .int p2, .int p3, .int 34, .int p5, .int p6] := A133
 refine o_iinc K X133 at_282 rfl rfl (L' := #[vJ i0, sS, vI i1, vI i2, vI i3, vI i4, vI 2, vI sv0, vI sv1, vI 0, vI tc, vI 1, vI 1, vI 2, vI 3, vI 4, vR b19, vI 5, uS, uS, uS, uS]) (by rw [show (4 : Int32) + Int32.ofInt 1 = (5 : Int32) from (by decide)]; rfl) ?_
 refine o_iload K X133 at_285 rfl rfl ?_
 refine o_iconst K X133 at_287 rfl (z := 1) rfl ?_
 refine o_icmp_lt_f K X133 at_288 rfl (by decide) ?_
 refine o_aload K X133 at_291 rfl rfl rfl ?_
 refine o_iload K X133 at_293 rfl rfl ?_
 refine o_iload K X133 at_295 rfl rfl ?_
 refine o_castore K X133 A133 (by decide) (show (5 : Int32).toNatClampNeg < 7 from (by decide)) G19 me0 (z := (.int sv0)) (congrArg Value.int (oChN c_sv0)) at_297 rfl ?_
 intro T134 h134 X134 W134 A134
 replace A134 : oArr Z h134 b19 k19 .char [.int p0, .int p1, .int p2, .int p3, .int 34, .int sv0, .int p6] := A134
 refine o_iinc K X134 at_298 rfl rfl (L' := #[vJ i0, sS, vI i1, vI i2, vI i3, vI i4, vI 2, vI sv0, vI sv1, vI 0, vI tc, vI 1, vI 1, vI 2, vI 3, vI 4, vR b19, vI 6, uS, uS, uS, uS]) (by rw [show (5 : Int32) + Int32.ofInt 1 = (6 : Int32) from (by decide)]; rfl) ?_
 refine o_iload K X134 at_301 rfl rfl ?_
 refine o_bipush K X134 at_303 rfl (z := 34) rfl ?_
 refine o_icmp_ne_t K X134 at_305 (by decide) (pc' := 318) (by decide) c271_102 ?_
 refine o_iload K X134 at_318 rfl rfl ?_
 refine o_iconst K X134 at_320 rfl (z := 2) rfl ?_
 refine o_icmp_lt_f K X134 at_321 rfl (by decide) ?_
 refine o_aload K X134 at_324 rfl rfl rfl ?_
 refine o_iload K X134 at_326 rfl rfl ?_
 refine o_iload K X134 at_328 rfl rfl ?_
 refine o_castore K X134 A134 (by decide) (show (6 : Int32).toNatClampNeg < 7 from (by decide)) G19 me0 (z := (.int sv1)) (congrArg Value.int (oChN c_sv1)) at_330 rfl ?_
 intro T135 h135 X135 W135 A135
 replace A135 : oArr Z h135 b19 k19 .char [.int p0, .int p1, .int p2, .int p3, .int 34, .int sv0, .int sv1] := A135
 refine o_iinc K X135 at_331 rfl rfl (L' := #[vJ i0, sS, vI i1, vI i2, vI i3, vI i4, vI 2, vI sv0, vI sv1, vI 0, vI tc, vI 1, vI 1, vI 2, vI 3, vI 4, vR b19, vI 7, uS, uS, uS, uS]) (by rw [show (6 : Int32) + Int32.ofInt 1 = (7 : Int32) from (by decide)]; rfl) ?_
 refine o_iload K X135 at_334 rfl rfl ?_
 refine o_bipush K X135 at_336 rfl (z := 34) rfl ?_
 refine o_icmp_ne_t K X135 at_338 (by decide) (pc' := 351) (by decide) c271_123 ?_
 refine o_iload K X135 at_351 rfl rfl ?_
 refine o_if_eq_t K X135 at_353 (by decide) (pc' := 382) (by decide) (by decide) ?_
 refine o_new K X135 (w2 hw) (w3 hw) (w4 hw) at_382 rfl (by decide) (by decide) ?_
 intro T136 h136 b136 X136 g136 E136 A136 D136 G136
 have F136_coder : Fld Z h136 b136 z0 "coder" "B" (.int 0) := (D136 (Or.inr (w28 hw)) (ty := .byte) (by decide))
 have F136_value : Fld Z h136 b136 z0 "value" "[B" .null := (D136 (Or.inr (w30 hw)) (ty := (.array .byte)) (by decide))
 refine o_dup K X136 at_385 rfl rfl ?_
 refine o_aload K X136 at_386 rfl rfl rfl ?_
 have m137 := (A135.ext E136)
 refine o_special K X136 (y := (⟨z0, "<init>", "([C)V"⟩ : MethodName)) rfl (w5 hw) (w6 hw) (w4 hw) (w7 hw) (by decide) (rm_str_7 l Z a0 hw b136 b19 k19 cs p0 p1 p2 p3 34 sv0 sv1 h136 A136 F136_value F136_coder G136 m137 q2 q3 c_p0.2 c_p1.2 c_p2.2 c_p3.2 (by decide) c_sv0.2 c_sv1.2) (allS me0 all0) (by decide) rfl (argsL := [.ref b19]) rfl (lenOf pd33 rfl) (W := 1) rfl (by decide) (by decide) (by decide) at_388 rfl ?_
 intro v138 T138 h138 FX138 U138
 obtain ⟨vb_138, k_138, rfl, u138_0, u138_1, u138_2, u138_3, u138_4, u138_5⟩ := U138
 have G138_vb : Z.heap.size ≤ vb_138 := Nat.le_trans X136.ext0.1 u138_4
 have X138 := FX138 [vb_138] (Or.inl rfl) (allS ⟨u138_4, u138_5.lt⟩ all0)
 show oGoes pp ee bb ss Z T138 (mkF mm 391 _ [.ref b136]) _ _ _ _
 refine o_astore K X138 at_391 rfl rfl (L' := #[vJ i0, sS, vI i1, vI i2, vI i3, vI i4, vI 2, vI sv0, vI sv1, vI 0, vI tc, vI 1, vI 1, vI 2, vI 3, vI 4, vR b19, vI 7, vR b136, uS, uS, uS]) rfl ?_
 refine o_aload K X138 at_393 rfl rfl rfl ?_
 refine o_iload K X138 at_395 rfl rfl ?_
 refine o_static K X138  (w31 hw) (w32 hw) (w33 hw) (w34 hw) (by decide) (rm_read_nn_0 l Z a0 hw b136 vb_138 k_138 p0 p1 p2 p3 34 sv0 sv1 fm cs em h138 u138_1 u138_2 u138_3 u138_5 c271_102 c271_123 c_sv0 c_sv1 c_sv0.2 c_sv1.2 q0 q1 q2 q3 q4) all0 (by decide) rfl (argsL := [.ref b136, .int 4]) rfl (lenOf pd34 rfl) (W := 0) rfl (by decide) (by decide) (by decide) at_397 rfl ?_
 intro v139 T139 h139 FX139 U139
 obtain ⟨rfl, u139_0⟩ := U139
 have X139 := FX139 [] (Or.inl rfl) all0
 show oGoes pp ee bb ss Z T139 (mkF mm 400 _ [.ref em]) _ _ _ _
 refine tl_lwe l Z a0 hw i0 i1 i2 i3 i4 2 sv0 sv1 tc 1 1 2 3 4 7 b19 b136 em h139 q5 q6 (fun v140 h140 U140 => ?_) K (X139.mono (by decide) (by decide) (by decide) all0)
 obtain rfl : v140 = some (.int 1) := U140
 exact rfl
 obtain rfl : mode = (1 : Int32) := e_mode.trans eM
 by_cases c271_141 : sv0 = (34 : Int32)
 obtain rfl : ww0 = (2 : Int32) := e_ww0.trans (if_pos c271_141)
 by_cases c271_142 : sv1 = (34 : Int32)
 obtain rfl : ww1 = (2 : Int32) := e_ww1.trans (if_pos c271_142)
 obtain rfl : enc = (4 : Int32) := e_enc.trans (by simp +decide)
 obtain rfl : rest = (6 : Int32) := e_rest.trans (by decide)
 obtain rfl : start = (1 : Int32) := e_start.trans (by decide)
 refine o_iload K X26 at_271 rfl rfl ?_
 refine o_istore K X26 at_273 rfl (L' := #[vJ i0, sS, vI i1, vI i2, vI i3, vI i4, vI 2, vI sv0, vI sv1, vI 1, vI tc, vI 2, vI 2, vI 4, vI 6, vI 1, vR b19, vI 1, uS, uS, uS, uS]) rfl ?_
 refine o_aload K X26 at_275 rfl rfl rfl ?_
 refine o_iload K X26 at_277 rfl rfl ?_
 refine o_bipush K X26 at_279 rfl (z := 34) rfl ?_
 refine o_castore K X26 A26 (by decide) (show (1 : Int32).toNatClampNeg < 7 from (by decide)) G19 me0 (z := (.int 34)) (congrArg Value.int (by decide)) at_281 rfl ?_
 intro T143 h143 X143 W143 A143
 replace A143 : oArr Z h143 b19 k19 .char [.int p0, .int 34, .int p2, .int p3, .int p4, .int p5, .int p6] := A143
 refine o_iinc K X143 at_282 rfl rfl (L' := #[vJ i0, sS, vI i1, vI i2, vI i3, vI i4, vI 2, vI sv0, vI sv1, vI 1, vI tc, vI 2, vI 2, vI 4, vI 6, vI 1, vR b19, vI 2, uS, uS, uS, uS]) (by rw [show (1 : Int32) + Int32.ofInt 1 = (2 : Int32) from (by decide)]; rfl) ?_
 refine o_iload K X143 at_285 rfl rfl ?_
 refine o_iconst K X143 at_287 rfl (z := 1) rfl ?_
 refine o_icmp_lt_f K X143 at_288 rfl (by decide) ?_
 refine o_aload K X143 at_291 rfl rfl rfl ?_
 refine o_iload K X143 at_293 rfl rfl ?_
 refine o_iload K X143 at_295 rfl rfl ?_
 refine o_castore K X143 A143 (by decide) (show (2 : Int32).toNatClampNeg < 7 from (by decide)) G19 me0 (z := (.int sv0)) (congrArg Value.int (oChN c_sv0)) at_297 rfl ?_
 intro T144 h144 X144 W144 A144
 replace A144 : oArr Z h144 b19 k19 .char [.int p0, .int 34, .int sv0, .int p3, .int p4, .int p5, .int p6] := A144
 refine o_iinc K X144 at_298 rfl rfl (L' := #[vJ i0, sS, vI i1, vI i2, vI i3, vI i4, vI 2, vI sv0, vI sv1, vI 1, vI tc, vI 2, vI 2, vI 4, vI 6, vI 1, vR b19, vI 3, uS, uS, uS, uS]) (by rw [show (2 : Int32) + Int32.ofInt 1 = (3 : Int32) from (by decide)]; rfl) ?_
 refine o_iload K X144 at_301 rfl rfl ?_
 refine o_bipush K X144 at_303 rfl (z := 34) rfl ?_
 refine o_icmp_ne_f K X144 at_305 rfl c271_141 ?_
 refine o_aload K X144 at_308 rfl rfl rfl ?_
 refine o_iload K X144 at_310 rfl rfl ?_
 refine o_bipush K X144 at_312 rfl (z := 34) rfl ?_
 refine o_castore K X144 A144 (by decide) (show (3 : Int32).toNatClampNeg < 7 from (by decide)) G19 me0 (z := (.int 34)) (congrArg Value.int (by decide)) at_314 rfl ?_
 intro T145 h145 X145 W145 A145
 replace A145 : oArr Z h145 b19 k19 .char [.int p0, .int 34, .int sv0, .int 34, .int p4, .int p5, .int p6] := A145
 refine o_iinc K X145 at_315 rfl rfl (L' := #[vJ i0, sS, vI i1, vI i2, vI i3, vI i4, vI 2, vI sv0, vI sv1, vI 1, vI tc, vI 2, vI 2, vI 4, vI 6, vI 1, vR b19, vI 4, uS, uS, uS, uS]) (by rw [show (3 : Int32) + Int32.ofInt 1 = (4 : Int32) from (by decide)]; rfl) ?_
 refine o_iload K X145 at_318 rfl rfl ?_
 refine o_iconst K X145 at_320 rfl (z := 2) rfl ?_
 refine o_icmp_lt_f K X145 at_321 rfl (by decide) ?_
 refine o_aload K X145 at_324 rfl rfl rfl ?_
 refine o_iload K X145 at_326 rfl rfl ?_
 refine o_iload K X145 at_328 rfl rfl ?_
 refine o_castore K X145 A145 (by decide) (show (4 : Int32).toNatClampNeg < 7 from (by decide)) G19 me0 (z := (.int sv1)) (congrArg Value.int (oChN c_sv1)) at_330 rfl ?_
 intro T146 h146 X146 W146 A146
 replace A146 : oArr Z h146 b19 k19 .char [.int p0, .int 34, .int sv0, .int 34, .int sv1, .int p5, .int p6] := A146
 refine o_iinc K X146 at_331 rfl rfl (L' := #[vJ i0, sS, vI i1, vI i2, vI i3, vI i4, vI 2, vI sv0, vI sv1, vI 1, vI tc, vI 2, vI 2, vI 4, vI 6, vI 1, vR b19, vI 5, uS, uS, uS, uS]) (by rw [show (4 : Int32) + Int32.ofInt 1 = (5 : Int32) from (by decide)]; rfl) ?_
 refine o_iload K X146 at_334 rfl rfl ?_
 refine o_bipush K X146 at_336 rfl (z := 34) rfl ?_
 refine o_icmp_ne_f K X146 at_338 rfl c271_142 ?_
 refine o_aload K X146 at_341 rfl rfl rfl ?_
 refine o_iload K X146 at_343 rfl rfl ?_
 refine o_bipush K X146 at_345 rfl (z := 34) rfl ?_
 refine o_castore K X146 A146 (by decide) (show (5 : Int32).toNatClampNeg < 7 from (by decide)) G19 me0 (z := (.int 34)) (congrArg Value.int (by decide)) at_347 rfl ?_
 intro T147 h147 X147 W147 A147
 replace A147 : oArr Z h147 b19 k19 .char [.int p0, .int 34, .int sv0, .int 34, .int sv1, .int 34, .int p6] := A147
 refine o_iinc K X147 at_348 rfl rfl (L' := #[vJ i0, sS, vI i1, vI i2, vI i3, vI i4, vI 2, vI sv0, vI sv1, vI 1, vI tc, vI 2, vI 2, vI 4, vI 6, vI 1, vR b19, vI 6, uS, uS, uS, uS]) (by rw [show (5 : Int32) + Int32.ofInt 1 = (6 : Int32) from (by decide)]; rfl) ?_
 refine o_iload K X147 at_351 rfl rfl ?_
 refine o_if_eq_f K X147 at_353 rfl (by decide) ?_
 refine o_aload K X147 at_356 rfl rfl rfl ?_
 refine o_iload K X147 at_358 rfl rfl ?_
 refine o_bipush K X147 at_360 rfl (z := 34) rfl ?_
 refine o_castore K X147 A147 (by decide) (show (6 : Int32).toNatClampNeg < 7 from (by decide)) G19 me0 (z := (.int 34)) (congrArg Value.int (by decide)) at_362 rfl ?_
 intro T148 h148 X148 W148 A148
 replace A148 : oArr Z h148 b19 k19 .char [.int p0, .int 34, .int sv0, .int 34, .int sv1, .int 34, .int 34] := A148
 refine o_iinc K X148 at_363 rfl rfl (L' := #[vJ i0, sS, vI i1, vI i2, vI i3, vI i4, vI 2, vI sv0, vI sv1, vI 1, vI tc, vI 2, vI 2, vI 4, vI 6, vI 1, vR b19, vI 7, uS, uS, uS, uS]) (by rw [show (6 : Int32) + Int32.ofInt 1 = (7 : Int32) from (by decide)]; rfl) ?_
 refine o_iload K X148 at_366 rfl rfl ?_
 refine o_iconst K X148 at_368 rfl (z := 2) rfl ?_
 refine o_icmp_lt_t K X148 at_369 (by decide) (pc' := 382) (by decide) (by decide) ?_
 refine o_new K X148 (w2 hw) (w3 hw) (w4 hw) at_382 rfl (by decide) (by decide) ?_
 intro T149 h149 b149 X149 g149 E149 A149 D149 G149
 have F149_coder : Fld Z h149 b149 z0 "coder" "B" (.int 0) := (D149 (Or.inr (w28 hw)) (ty := .byte) (by decide))
 have F149_value : Fld Z h149 b149 z0 "value" "[B" .null := (D149 (Or.inr (w30 hw)) (ty := (.array .byte)) (by decide))
 refine o_dup K X149 at_385 rfl rfl ?_
 refine o_aload K X149 at_386 rfl rfl rfl ?_
 have m150 := (A148.ext E149)
 refine o_special K X149 (y := (⟨z0, "<init>", "([C)V"⟩ : MethodName)) rfl (w5 hw) (w6 hw) (w4 hw) (w7 hw) (by decide) (rm_str_7 l Z a0 hw b149 b19 k19 cs p0 34 sv0 34 sv1 34 34 h149 A149 F149_value F149_coder G149 m150 q2 q3 c_p0.2 (by decide) c_sv0.2 (by decide) c_sv1.2 (by decide) (by decide)) (allS me0 all0) (by decide) rfl (argsL := [.ref b19]) rfl (lenOf pd33 rfl) (W := 1) rfl (by decide) (by decide) (by decide) at_388 rfl ?_
 intro v151 T151 h151 FX151 U151
 obtain ⟨vb_151, k_151, rfl, u151_0, u151_1, u151_2, u151_3, u151_4, u151_5⟩ := U151
 have G151_vb : Z.heap.size ≤ vb_151 := Nat.le_trans X149.ext0.1 u151_4
 have X151 := FX151 [vb_151] (Or.inl rfl) (allS ⟨u151_4, u151_5.lt⟩ all0)
 show oGoes pp ee bb ss Z T151 (mkF mm 391 _ [.ref b149]) _ _ _ _
 refine o_astore K X151 at_391 rfl rfl (L' := #[vJ i0, sS, vI i1, vI i2, vI i3, vI i4, vI 2, vI sv0, vI sv1, vI 1, vI tc, vI 2, vI 2, vI 4, vI 6, vI 1, vR b19, vI 7, vR b149, uS, uS, uS]) rfl ?_
 refine o_aload K X151 at_393 rfl rfl rfl ?_
 refine o_iload K X151 at_395 rfl rfl ?_
 refine o_static K X151  (w31 hw) (w32 hw) (w33 hw) (w34 hw) (by decide) (rm_read_qq_1 l Z a0 hw b149 vb_151 k_151 p0 34 sv0 34 sv1 34 34 fm cs em h151 u151_1 u151_2 u151_3 u151_5 c271_141 (by decide) c271_142 (by decide) (by decide) c_sv0 oCh34 c_sv1 oCh34 oCh34 q0 q1 q2 q3 q4) all0 (by decide) rfl (argsL := [.ref b149, .int 1]) rfl (lenOf pd34 rfl) (W := 0) rfl (by decide) (by decide) (by decide) at_397 rfl ?_
 intro v152 T152 h152 FX152 U152
 obtain ⟨r_152, qt_152, s_152, sv_152, ks_152, rfl, u152_0, u152_1, u152_2, u152_3, u152_4, u152_5, u152_6, u152_7, u152_8, u152_9, u152_10, u152_11⟩ := U152
 have G152_r : Z.heap.size ≤ r_152 := Nat.le_trans X151.ext0.1 u152_1
 have G152_s : Z.heap.size ≤ s_152 := Nat.le_trans X151.ext0.1 u152_7
 have X152 := FX152 [r_152, s_152] (Or.inl rfl) (allS ⟨u152_1, u152_2.lt⟩ (allS ⟨u152_7, u152_8.lt⟩ all0))
 show oGoes pp ee bb ss Z T152 (mkF mm 400 _ [.ref r_152]) _ _ _ _
 refine tl_lw2 l Z a0 hw i0 i1 i2 i3 i4 sv0 sv1 1 tc 2 2 4 6 1 7 b19 b149 r_152 qt_152 s_152 sv_152 ks_152 7 34 34 cs h152 u152_2 u152_3 u152_4 u152_5 u152_6 u152_8 u152_9 u152_10 u152_11 (by decide) (by decide) c271_141.symm c271_142.symm c_sv0 c_sv1 (oChN c_sv0) (oChN c_sv1) G152_s q2 q3 (fun v153 h153 U153 => ?_) K (X152.mono (by decide) (by decide) (by decide) (allS me1 all0))
 obtain rfl : v153 = some (.int 1) := U153
 exact rfl
 obtain rfl : ww1 = (1 : Int32) := e_ww1.trans (if_neg c271_142)
 obtain rfl : enc = (3 : Int32) := e_enc.trans (by simp +decide)
 obtain rfl : rest = (5 : Int32) := e_rest.trans (by decide)
 obtain rfl : start = (2 : Int32) := e_start.trans (by decide)
 refine o_iload K X26 at_271 rfl rfl ?_
 refine o_istore K X26 at_273 rfl (L' := #[vJ i0, sS, vI i1, vI i2, vI i3, vI i4, vI 2, vI sv0, vI sv1, vI 1, vI tc, vI 2, vI 1, vI 3, vI 5, vI 2, vR b19, vI 2, uS, uS, uS, uS]) rfl ?_
 refine o_aload K X26 at_275 rfl rfl rfl ?_
 refine o_iload K X26 at_277 rfl rfl ?_
 refine o_bipush K X26 at_279 rfl (z := 34) rfl ?_
 refine o_castore K X26 A26 (by decide) (show (2 : Int32).toNatClampNeg < 7 from (by decide)) G19 me0 (z := (.int 34)) (congrArg Value.int (by decide)) at_281 rfl ?_
 intro T154 h154 X154 W154 A154
 replace A154 : oArr Z h154 b19 k19 .char [.int p0, .int p1, .int 34, .int p3, .int p4, .int p5, .int p6] := A154
 refine o_iinc K X154 at_282 rfl rfl (L' := #[vJ i0, sS, vI i1, vI i2, vI i3, vI i4, vI 2, vI sv0, vI sv1, vI 1, vI tc, vI 2, vI 1, vI 3, vI 5, vI 2, vR b19, vI 3, uS, uS, uS, uS]) (by rw [show (2 : Int32) + Int32.ofInt 1 = (3 : Int32) from (by decide)]; rfl) ?_
 refine o_iload K X154 at_285 rfl rfl ?_
 refine o_iconst K X154 at_287 rfl (z := 1) rfl ?_
 refine o_icmp_lt_f K X154 at_288 rfl (by decide) ?_
 refine o_aload K X154 at_291 rfl rfl rfl ?_
 refine o_iload K X154 at_293 rfl rfl ?_
 refine o_iload K X154 at_295 rfl rfl ?_
 refine o_castore K X154 A154 (by decide) (show (3 : Int32).toNatClampNeg < 7 from (by decide)) G19 me0 (z := (.int sv0)) (congrArg Value.int (oChN c_sv0)) at_297 rfl ?_
 intro T155 h155 X155 W155 A155
 replace A155 : oArr Z h155 b19 k19 .char [.int p0, .int p1, .int 34, .int sv0, .int p4, .int p5, .int p6] := A155
 refine o_iinc K X155 at_298 rfl rfl (L' := #[vJ i0, sS, vI i1, vI i2, vI i3, vI i4, vI 2, vI sv0, vI sv1, vI 1, vI tc, vI 2, vI 1, vI 3, vI 5, vI 2, vR b19, vI 4, uS, uS, uS, uS]) (by rw [show (3 : Int32) + Int32.ofInt 1 = (4 : Int32) from (by decide)]; rfl) ?_
 refine o_iload K X155 at_301 rfl rfl ?_
 refine o_bipush K X155 at_303 rfl (z := 34) rfl ?_
 refine o_icmp_ne_f K X155 at_305 rfl c271_141 ?_
 refine o_aload K X155 at_308 rfl rfl rfl ?_
 refine o_iload K X155 at_310 rfl rfl ?_
 refine o_bipush K X155 at_312 rfl (z := 34) rfl ?_
 refine o_castore K X155 A155 (by decide) (show (4 : Int32).toNatClampNeg < 7 from (by decide)) G19 me0 (z := (.int 34)) (congrArg Value.int (by decide)) at_314 rfl ?_
 intro T156 h156 X156 W156 A156
 replace A156 : oArr Z h156 b19 k19 .char [.int p0, .int p1, .int 34, .int sv0, .int 34, .int p5, .int p6] := A156
 refine o_iinc K X156 at_315 rfl rfl (L' := #[vJ i0, sS, vI i1, vI i2, vI i3, vI i4, vI 2, vI sv0, vI sv1, vI 1, vI tc, vI 2, vI 1, vI 3, vI 5, vI 2, vR b19, vI 5, uS, uS, uS, uS]) (by rw [show (4 : Int32) + Int32.ofInt 1 = (5 : Int32) from (by decide)]; rfl) ?_
 refine o_iload K X156 at_318 rfl rfl ?_
 refine o_iconst K X156 at_320 rfl (z := 2) rfl ?_
 refine o_icmp_lt_f K X156 at_321 rfl (by decide) ?_
 refine o_aload K X156 at_324 rfl rfl rfl ?_
 refine o_iload K X156 at_326 rfl rfl ?_
 refine o_iload K X156 at_328 rfl rfl ?_
 refine o_castore K X156 A156 (by decide) (show (5 : Int32).toNatClampNeg < 7 from (by decide)) G19 me0 (z := (.int sv1)) (congrArg Value.int (oChN c_sv1)) at_330 rfl ?_
 intro T157 h157 X157 W157 A157
 replace A157 : oArr Z h157 b19 k19 .char [.int p0, .int p1, .int 34, .int sv0, .int 34, .int sv1, .int p6] := A157
 refine o_iinc K X157 at_331 rfl rfl (L' := #[vJ i0, sS, vI i1, vI i2, vI i3, vI i4, vI 2, vI sv0, vI sv1, vI 1, vI tc, vI 2, vI 1, vI 3, vI 5, vI 2, vR b19, vI 6, uS, uS, uS, uS]) (by rw [show (5 : Int32) + Int32.ofInt 1 = (6 : Int32) from (by decide)]; rfl) ?_
 refine o_iload K X157 at_334 rfl rfl ?_
 refine o_bipush K X157 at_336 rfl (z := 34) rfl ?_
 refine o_icmp_ne_t K X157 at_338 (by decide) (pc' := 351) (by decide) c271_142 ?_
 refine o_iload K X157 at_351 rfl rfl ?_
 refine o_if_eq_f K X157 at_353 rfl (by decide) ?_
 refine o_aload K X157 at_356 rfl rfl rfl ?_
 refine o_iload K X157 at_358 rfl rfl ?_
 refine o_bipush K X157 at_360 rfl (z := 34) rfl ?_
 refine o_castore K X157 A157 (by decide) (show (6 : Int32).toNatClampNeg < 7 from (by decide)) G19 me0 (z := (.int 34)) (congrArg Value.int (by decide)) at_362 rfl ?_
 intro T158 h158 X158 W158 A158
 replace A158 : oArr Z h158 b19 k19 .char [.int p0, .int p1, .int 34, .int sv0, .int 34, .int sv1, .int 34] := A158
 refine o_iinc K X158 at_363 rfl rfl (L' := #[vJ i0, sS, vI i1, vI i2, vI i3, vI i4, vI 2, vI sv0, vI sv1, vI 1, vI tc, vI 2, vI 1, vI 3, vI 5, vI 2, vR b19, vI 7, uS, uS, uS, uS]) (by rw [show (6 : Int32) + Int32.ofInt 1 = (7 : Int32) from (by decide)]; rfl) ?_
 refine o_iload K X158 at_366 rfl rfl ?_
 refine o_iconst K X158 at_368 rfl (z := 2) rfl ?_
 refine o_icmp_lt_t K X158 at_369 (by decide) (pc' := 382) (by decide) (by decide) ?_
 refine o_new K X158 (w2 hw) (w3 hw) (w4 hw) at_382 rfl (by decide) (by decide) ?_
 intro T159 h159 b159 X159 g159 E159 A159 D159 G159
 have F159_coder : Fld Z h159 b159 z0 "coder" "B" (.int 0) := (D159 (Or.inr (w28 hw)) (ty := .byte) (by decide))
 have F159_value : Fld Z h159 b159 z0 "value" "[B" .null := (D159 (Or.inr (w30 hw)) (ty := (.array .byte)) (by decide))
 refine o_dup K X159 at_385 rfl rfl ?_
 refine o_aload K X159 at_386 rfl rfl rfl ?_
 have m160 := (A158.ext E159)
 refine o_special K X159 (y := (⟨z0, "<init>", "([C)V"⟩ : MethodName)) rfl (w5 hw) (w6 hw) (w4 hw) (w7 hw) (by decide) (rm_str_7 l Z a0 hw b159 b19 k19 cs p0 p1 34 sv0 34 sv1 34 h159 A159 F159_value F159_coder G159 m160 q2 q3 c_p0.2 c_p1.2 (by decide) c_sv0.2 (by decide) c_sv1.2 (by decide)) (allS me0 all0) (by decide) rfl (argsL := [.ref b19]) rfl (lenOf pd33 rfl) (W := 1) rfl (by decide) (by decide) (by decide) at_388 rfl ?_
 intro v161 T161 h161 FX161 U161
 obtain ⟨vb_161, k_161, rfl, u161_0, u161_1, u161_2, u161_3, u161_4, u161_5⟩ := U161
 have G161_vb : Z.heap.size ≤ vb_161 := Nat.le_trans X159.ext0.1 u161_4
 have X161 := FX161 [vb_161] (Or.inl rfl) (allS ⟨u161_4, u161_5.lt⟩ all0)
 show oGoes pp ee bb ss Z T161 (mkF mm 391 _ [.ref b159]) _ _ _ _
 refine o_astore K X161 at_391 rfl rfl (L' := #[vJ i0, sS, vI i1, vI i2, vI i3, vI i4, vI 2, vI sv0, vI sv1, vI 1, vI tc, vI 2, vI 1, vI 3, vI 5, vI 2, vR b19, vI 7, vR b159, uS, uS, uS]) rfl ?_
 refine o_aload K X161 at_393 rfl rfl rfl ?_
 refine o_iload K X161 at_395 rfl rfl ?_
 refine o_static K X161  (w31 hw) (w32 hw) (w33 hw) (w34 hw) (by decide) (rm_read_qn_1 l Z a0 hw b159 vb_161 k_161 p0 p1 34 sv0 34 sv1 34 fm cs em h161 u161_1 u161_2 u161_3 u161_5 c271_141 (by decide) (by decide) c271_142 c_sv0 oCh34 c_sv1 oCh34 c_sv1.2 q0 q1 q2 q3 q4) all0 (by decide) rfl (argsL := [.ref b159, .int 2]) rfl (lenOf pd34 rfl) (W := 0) rfl (by decide) (by decide) (by decide) at_397 rfl ?_
 intro v162 T162 h162 FX162 U162
 obtain ⟨r_162, qt_162, s_162, sv_162, ks_162, rfl, u162_0, u162_1, u162_2, u162_3, u162_4, u162_5, u162_6, u162_7, u162_8, u162_9, u162_10, u162_11⟩ := U162
 have G162_r : Z.heap.size ≤ r_162 := Nat.le_trans X161.ext0.1 u162_1
 have G162_s : Z.heap.size ≤ s_162 := Nat.le_trans X161.ext0.1 u162_7
 have X162 := FX162 [r_162, s_162] (Or.inl rfl) (allS ⟨u162_1, u162_2.lt⟩ (allS ⟨u162_7, u162_8.lt⟩ all0))
 show oGoes pp ee bb ss Z T162 (mkF mm 400 _ [.ref r_162]) _ _ _ _
 refine tl_lw2 l Z a0 hw i0 i1 i2 i3 i4 sv0 sv1 1 tc 2 1 3 5 2 7 b19 b159 r_162 qt_162 s_162 sv_162 ks_162 7 34 sv1 cs h162 u162_2 u162_3 u162_4 u162_5 u162_6 u162_8 u162_9 u162_10 u162_11 (by decide) (by decide) c271_141.symm rfl c_sv0 c_sv1 (oChN c_sv0) (oChN c_sv1) G162_s q2 q3 (fun v163 h163 U163 => ?_) K (X162.mono (by decide) (by decide) (by decide) (allS me1 all0))
 obtain rfl : v163 = some (.int 1) := U163
 exact rfl
 obtain rfl : ww0 = (1 : Int32) := e_ww0.trans (if_neg c271_141)
 by_cases c271_164 : sv1 = (34 : Int32)
 obtain rfl : ww1 = (2 : Int32) := e_ww1.trans (if_pos c271_164)
 obtain rfl : enc = (3 : Int32) := e_enc.trans (by simp +decide)
 obtain rfl : rest = (5 : Int32) := e_rest.trans (by decide)
 obtain rfl : start = (2 : Int32) := e_start.trans (by decide)
 refine o_iload K X26 at_271 rfl rfl ?_
 refine o_istore K X26 at_273 rfl (L' := #[vJ i0, sS, vI i1, vI i2, vI i3, vI i4, vI 2, vI sv0, vI sv1, vI 1, vI tc, vI 1, vI 2, vI 3, vI 5, vI 2, vR b19, vI 2, uS, uS, uS, uS]) rfl ?_
 refine o_aload K X26 at_275 rfl rfl rfl ?_
 refine o_iload K X26 at_277 rfl rfl ?_
 refine o_bipush K X26 at_279 rfl (z := 34) rfl ?_
 refine o_castore K X26 A26 (by decide) (show (2 : Int32).toNatClampNeg < 7 from (by decide)) G19 me0 (z := (.int 34)) (congrArg Value.int (by decide)) at_281 rfl ?_
 intro T165 h165 X165 W165 A165
 replace A165 : oArr Z h165 b19 k19 .char [.int p0, .int p1, .int 34, .int p3, .int p4, .int p5, .int p6] := A165
 refine o_iinc K X165 at_282 rfl rfl (L' := #[vJ i0, sS, vI i1, vI i2, vI i3, vI i4, vI 2, vI sv0, vI sv1, vI 1, vI tc, vI 1, vI 2, vI 3, vI 5, vI 2, vR b19, vI 3, uS, uS, uS, uS]) (by rw [show (2 : Int32) + Int32.ofInt 1 = (3 : Int32) from (by decide)]; rfl) ?_
 refine o_iload K X165 at_285 rfl rfl ?_
 refine o_iconst K X165 at_287 rfl (z := 1) rfl ?_
 refine o_icmp_lt_f K X165 at_288 rfl (by decide) ?_
 refine o_aload K X165 at_291 rfl rfl rfl ?_
 refine o_iload K X165 at_293 rfl rfl ?_
 refine o_iload K X165 at_295 rfl rfl ?_
 refine o_castore K X165 A165 (by decide) (show (3 : Int32).toNatClampNeg < 7 from (by decide)) G19 me0 (z := (.int sv0)) (congrArg Value.int (oChN c_sv0)) at_297 rfl ?_
 intro T166 h166 X166 W166 A166
 replace A166 : oArr Z h166 b19 k19 .char [.int p0, .int p1, .int 34, .int sv0, .int p4, .int p5, .int p6] := A166
 refine o_iinc K X166 at_298 rfl rfl (L' := #[vJ i0, sS, vI i1, vI i2, vI i3, vI i4, vI 2, vI sv0, vI sv1, vI 1, vI tc, vI 1, vI 2, vI 3, vI 5, vI 2, vR b19, vI 4, uS, uS, uS, uS]) (by rw [show (3 : Int32) + Int32.ofInt 1 = (4 : Int32) from (by decide)]; rfl) ?_
 refine o_iload K X166 at_301 rfl rfl ?_
 refine o_bipush K X166 at_303 rfl (z := 34) rfl ?_
 refine o_icmp_ne_t K X166 at_305 (by decide) (pc' := 318) (by decide) c271_141 ?_
 refine o_iload K X166 at_318 rfl rfl ?_
 refine o_iconst K X166 at_320 rfl (z := 2) rfl ?_
 refine o_icmp_lt_f K X166 at_321 rfl (by decide) ?_
 refine o_aload K X166 at_324 rfl rfl rfl ?_
 refine o_iload K X166 at_326 rfl rfl ?_
 refine o_iload K X166 at_328 rfl rfl ?_
 refine o_castore K X166 A166 (by decide) (show (4 : Int32).toNatClampNeg < 7 from (by decide)) G19 me0 (z := (.int sv1)) (congrArg Value.int (oChN c_sv1)) at_330 rfl ?_
 intro T167 h167 X167 W167 A167
 replace A167 : oArr Z h167 b19 k19 .char [.int p0, .int p1, .int 34, .int sv0, .int sv1, .int p5, .int p6] := A167
 refine o_iinc K X167 at_331 rfl rfl (L' := #[vJ i0, sS, vI i1, vI i2, vI i3, vI i4, vI 2, vI sv0, vI sv1, vI 1, vI tc, vI 1, vI 2, vI 3, vI 5, vI 2, vR b19, vI 5, uS, uS, uS, uS]) (by rw [show (4 : Int32) + Int32.ofInt 1 = (5 : Int32) from (by decide)]; rfl) ?_
 refine o_iload K X167 at_334 rfl rfl ?_
 refine o_bipush K X167 at_336 rfl (z := 34) rfl ?_
 refine o_icmp_ne_f K X167 at_338 rfl c271_164 ?_
 refine o_aload K X167 at_341 rfl rfl rfl ?_
 refine o_iload K X167 at_343 rfl rfl ?_
 refine o_bipush K X167 at_345 rfl (z := 34) rfl ?_
 refine o_castore K X167 A167 (by decide) (show (5 : Int32).toNatClampNeg < 7 from (by decide)) G19 me0 (z := (.int 34)) (congrArg Value.int (by decide)) at_347 rfl ?_
 intro T168 h168 X168 W168 A168
 replace A168 : oArr Z h168 b19 k19 .char [.int p0, .int p1, .int 34, .int sv0, .int sv1, .int 34, .int p6] := A168
 refine o_iinc K X168 at_348 rfl rfl (L' := #[vJ i0, sS, vI i1, vI i2, vI i3, vI i4, vI 2, vI sv0, vI sv1, vI 1, vI tc, vI 1, vI 2, vI 3, vI 5, vI 2, vR b19, vI 6, uS, uS, uS, uS]) (by rw [show (5 : Int32) + Int32.ofInt 1 = (6 : Int32) from (by decide)]; rfl) ?_
 refine o_iload K X168 at_351 rfl rfl ?_
 refine o_if_eq_f K X168 at_353 rfl (by decide) ?_
 refine o_aload K X168 at_356 rfl rfl rfl ?_
 refine o_iload K X168 at_358 rfl rfl ?_
 refine o_bipush K X168 at_360 rfl (z := 34) rfl ?_
 refine o_castore K X168 A168 (by decide) (show (6 : Int32).toNatClampNeg < 7 from (by decide)) G19 me0 (z := (.int 34)) (congrArg Value.int (by decide)) at_362 rfl ?_
 intro T169 h169 X169 W169 A169
 replace A169 : oArr Z h169 b19 k19 .char [.int p0, .int p1, .int 34, .int sv0, .int sv1, .int 34, .int 34] := A169
 refine o_iinc K X169 at_363 rfl rfl (L' := #[vJ i0, sS, vI i1, vI i2, vI i3, vI i4, vI 2, vI sv0, vI sv1, vI 1, vI tc, vI 1, vI 2, vI 3, vI 5, vI 2, vR b19, vI 7, uS, uS, uS, uS]) (by rw [show (6 : Int32) + Int32.ofInt 1 = (7 : Int32) from (by decide)]; rfl) ?_
 refine o_iload K X169 at_366 rfl rfl ?_
 refine o_iconst K X169 at_368 rfl (z := 2) rfl ?_
 refine o_icmp_lt_t K X169 at_369 (by decide) (pc' := 382) (by decide) (by decide) ?_
 refine o_new K X169 (w2 hw) (w3 hw) (w4 hw) at_382 rfl (by decide) (by decide) ?_
 intro T170 h170 b170 X170 g170 E170 A170 D170 G170
 have F170_coder : Fld Z h170 b170 z0 "coder" "B" (.int 0) := (D170 (Or.inr (w28 hw)) (ty := .byte) (by decide))
 have F170_value : Fld Z h170 b170 z0 "value" "[B" .null := (D170 (Or.inr (w30 hw)) (ty := (.array .byte)) (by decide))
 refine o_dup K X170 at_385 rfl rfl ?_
 refine o_aload K X170 at_386 rfl rfl rfl ?_
 have m171 := (A169.ext E170)
 refine o_special K X170 (y := (⟨z0, "<init>", "([C)V"⟩ : MethodName)) rfl (w5 hw) (w6 hw) (w4 hw) (w7 hw) (by decide) (rm_str_7 l Z a0 hw b170 b19 k19 cs p0 p1 34 sv0 sv1 34 34 h170 A170 F170_value F170_coder G170 m171 q2 q3 c_p0.2 c_p1.2 (by decide) c_sv0.2 c_sv1.2 (by decide) (by decide)) (allS me0 all0) (by decide) rfl (argsL := [.ref b19]) rfl (lenOf pd33 rfl) (W := 1) rfl (by decide) (by decide) (by decide) at_388 rfl ?_
 intro v172 T172 h172 FX172 U172
 obtain ⟨vb_172, k_172, rfl, u172_0, u172_1, u172_2, u172_3, u172_4, u172_5⟩ := U172
 have G172_vb : Z.heap.size ≤ vb_172 := Nat.le_trans X170.ext0.1 u172_4
 have X172 := FX172 [vb_172] (Or.inl rfl) (allS ⟨u172_4, u172_5.lt⟩ all0)
 show oGoes pp ee bb ss Z T172 (mkF mm 391 _ [.ref b170]) _ _ _ _
 refine o_astore K X172 at_391 rfl rfl (L' := #[vJ i0, sS, vI i1, vI i2, vI i3, vI i4, vI 2, vI sv0, vI sv1, vI 1, vI tc, vI 1, vI 2, vI 3, vI 5, vI 2, vR b19, vI 7, vR b170, uS, uS, uS]) rfl ?_
 refine o_aload K X172 at_393 rfl rfl rfl ?_
 refine o_iload K X172 at_395 rfl rfl ?_
 refine o_static K X172  (w31 hw) (w32 hw) (w33 hw) (w34 hw) (by decide) (rm_read_nq_1 l Z a0 hw b170 vb_172 k_172 p0 p1 34 sv0 sv1 34 34 fm cs em h172 u172_1 u172_2 u172_3 u172_5 c271_164 (by decide) (by decide) c271_141 c_sv0 c_sv1 oCh34 oCh34 c_sv0.2 q0 q1 q2 q3 q4) all0 (by decide) rfl (argsL := [.ref b170, .int 2]) rfl (lenOf pd34 rfl) (W := 0) rfl (by decide) (by decide) (by decide) at_397 rfl ?_
 intro v173 T173 h173 FX173 U173
 obtain ⟨r_173, qt_173, s_173, sv_173, ks_173, rfl, u173_0, u173_1, u173_2, u173_3, u173_4, u173_5, u173_6, u173_7, u173_8, u173_9, u173_10, u173_11⟩ := U173
 have G173_r : Z.heap.size ≤ r_173 := Nat.le_trans X172.ext0.1 u173_1
 have G173_s : Z.heap.size ≤ s_173 := Nat.le_trans X172.ext0.1 u173_7
 have X173 := FX173 [r_173, s_173] (Or.inl rfl) (allS ⟨u173_1, u173_2.lt⟩ (allS ⟨u173_7, u173_8.lt⟩ all0))
 show oGoes pp ee bb ss Z T173 (mkF mm 400 _ [.ref r_173]) _ _ _ _
 refine tl_lw2 l Z a0 hw i0 i1 i2 i3 i4 sv0 sv1 1 tc 1 2 3 5 2 7 b19 b170 r_173 qt_173 s_173 sv_173 ks_173 7 sv0 34 cs h173 u173_2 u173_3 u173_4 u173_5 u173_6 u173_8 u173_9 u173_10 u173_11 (by decide) (by decide) rfl c271_164.symm c_sv0 c_sv1 (oChN c_sv0) (oChN c_sv1) G173_s q2 q3 (fun v174 h174 U174 => ?_) K (X173.mono (by decide) (by decide) (by decide) (allS me1 all0))
 obtain rfl : v174 = some (.int 1) := U174
 exact rfl
 obtain rfl : ww1 = (1 : Int32) := e_ww1.trans (if_neg c271_164)
 obtain rfl : enc = (2 : Int32) := e_enc.trans (by simp +decide)
 obtain rfl : rest = (4 : Int32) := e_rest.trans (by decide)
 obtain rfl : start = (3 : Int32) := e_start.trans (by decide)
 refine o_iload K X26 at_271 rfl rfl ?_
 refine o_istore K X26 at_273 rfl (L' := #[vJ i0, sS, vI i1, vI i2, vI i3, vI i4, vI 2, vI sv0, vI sv1, vI 1, vI tc, vI 1, vI 1, vI 2, vI 4, vI 3, vR b19, vI 3, uS, uS, uS, uS]) rfl ?_
 refine o_aload K X26 at_275 rfl rfl rfl ?_
 refine o_iload K X26 at_277 rfl rfl ?_
 refine o_bipush K X26 at_279 rfl (z := 34) rfl ?_
 refine o_castore K X26 A26 (by decide) (show (3 : Int32).toNatClampNeg < 7 from (by decide)) G19 me0 (z := (.int 34)) (congrArg Value.int (by decide)) at_281 rfl ?_
 intro T175 h175 X175 W175 A175
 replace A175 : oArr Z h175 b19 k19 .char [.int p0, .int p1, .int p2, .int 34, .int p4, .int p5, .int p6] := A175
 refine o_iinc K X175 at_282 rfl rfl (L' := #[vJ i0, sS, vI i1, vI i2, vI i3, vI i4, vI 2, vI sv0, vI sv1, vI 1, vI tc, vI 1, vI 1, vI 2, vI 4, vI 3, vR b19, vI 4, uS, uS, uS, uS]) (by rw [show (3 : Int32) + Int32.ofInt 1 = (4 : Int32) from (by decide)]; rfl) ?_
 refine o_iload K X175 at_285 rfl rfl ?_
 refine o_iconst K X175 at_287 rfl (z := 1) rfl ?_
 refine o_icmp_lt_f K X175 at_288 rfl (by decide) ?_
 refine o_aload K X175 at_291 rfl rfl rfl ?_
 refine o_iload K X175 at_293 rfl rfl ?_
 refine o_iload K X175 at_295 rfl rfl ?_
 refine o_castore K X175 A175 (by decide) (show (4 : Int32).toNatClampNeg < 7 from (by decide)) G19 me0 (z := (.int sv0)) (congrArg Value.int (oChN c_sv0)) at_297 rfl ?_
 intro T176 h176 X176 W176 A176
 replace A176 : oArr Z h176 b19 k19 .char [.int p0, .int p1, .int p2, .int 34, .int sv0, .int p5, .int p6] := A176
 refine o_iinc K X176 at_298 rfl rfl (L' := #[vJ i0, sS, vI i1, vI i2, vI i3, vI i4, vI 2, vI sv0, vI sv1, vI 1, vI tc, vI 1, vI 1, vI 2, vI 4, vI 3, vR b19, vI 5, uS, uS, uS, uS]) (by rw [show (4 : Int32) + Int32.ofInt 1 = (5 : Int32) from (by decide)]; rfl) ?_
 refine o_iload K X176 at_301 rfl rfl ?_
 refine o_bipush K X176 at_303 rfl (z := 34) rfl ?_
 refine o_icmp_ne_t K X176 at_305 (by decide) (pc' := 318) (by decide) c271_141 ?_
 refine o_iload K X176 at_318 rfl rfl ?_
 refine o_iconst K X176 at_320 rfl (z := 2) rfl ?_
 refine o_icmp_lt_f K X176 at_321 rfl (by decide) ?_
 refine o_aload K X176 at_324 rfl rfl rfl ?_
 refine o_iload K X176 at_326 rfl rfl ?_
 refine o_iload K X176 at_328 rfl rfl ?_
 refine o_castore K X176 A176 (by decide) (show (5 : Int32).toNatClampNeg < 7 from (by decide)) G19 me0 (z := (.int sv1)) (congrArg Value.int (oChN c_sv1)) at_330 rfl ?_
 intro T177 h177 X177 W177 A177
 replace A177 : oArr Z h177 b19 k19 .char [.int p0, .int p1, .int p2, .int 34, .int sv0, .int sv1, .int p6] := A177
 refine o_iinc K X177 at_331 rfl rfl (L' := #[vJ i0, sS, vI i1, vI i2, vI i3, vI i4, vI 2, vI sv0, vI sv1, vI 1, vI tc, vI 1, vI 1, vI 2, vI 4, vI 3, vR b19, vI 6, uS, uS, uS, uS]) (by rw [show (5 : Int32) + Int32.ofInt 1 = (6 : Int32) from (by decide)]; rfl) ?_
 refine o_iload K X177 at_334 rfl rfl ?_
 refine o_bipush K X177 at_336 rfl (z := 34) rfl ?_
 refine o_icmp_ne_t K X177 at_338 (by decide) (pc' := 351) (by decide) c271_164 ?_
 refine o_iload K X177 at_351 rfl rfl ?_
 refine o_if_eq_f K X177 at_353 rfl (by decide) ?_
 refine o_aload K X177 at_356 rfl rfl rfl ?_
 refine o_iload K X177 at_358 rfl rfl ?_
 refine o_bipush K X177 at_360 rfl (z := 34) rfl ?_
 refine o_castore K X177 A177 (by decide) (show (6 : Int32).toNatClampNeg < 7 from (by decide)) G19 me0 (z := (.int 34)) (congrArg Value.int (by decide)) at_362 rfl ?_
 intro T178 h178 X178 W178 A178
 replace A178 : oArr Z h178 b19 k19 .char [.int p0, .int p1, .int p2, .int 34, .int sv0, .int sv1, .int 34] := A178
 refine o_iinc K X178 at_363 rfl rfl (L' := #[vJ i0, sS, vI i1, vI i2, vI i3, vI i4, vI 2, vI sv0, vI sv1, vI 1, vI tc, vI 1, vI 1, vI 2, vI 4, vI 3, vR b19, vI 7, uS, uS, uS, uS]) (by rw [show (6 : Int32) + Int32.ofInt 1 = (7 : Int32) from (by decide)]; rfl) ?_
 refine o_iload K X178 at_366 rfl rfl ?_
 refine o_iconst K X178 at_368 rfl (z := 2) rfl ?_
 refine o_icmp_lt_t K X178 at_369 (by decide) (pc' := 382) (by decide) (by decide) ?_
 refine o_new K X178 (w2 hw) (w3 hw) (w4 hw) at_382 rfl (by decide) (by decide) ?_
 intro T179 h179 b179 X179 g179 E179 A179 D179 G179
 have F179_coder : Fld Z h179 b179 z0 "coder" "B" (.int 0) := (D179 (Or.inr (w28 hw)) (ty := .byte) (by decide))
 have F179_value : Fld Z h179 b179 z0 "value" "[B" .null := (D179 (Or.inr (w30 hw)) (ty := (.array .byte)) (by decide))
 refine o_dup K X179 at_385 rfl rfl ?_
 refine o_aload K X179 at_386 rfl rfl rfl ?_
 have m180 := (A178.ext E179)
 refine o_special K X179 (y := (⟨z0, "<init>", "([C)V"⟩ : MethodName)) rfl (w5 hw) (w6 hw) (w4 hw) (w7 hw) (by decide) (rm_str_7 l Z a0 hw b179 b19 k19 cs p0 p1 p2 34 sv0 sv1 34 h179 A179 F179_value F179_coder G179 m180 q2 q3 c_p0.2 c_p1.2 c_p2.2 (by decide) c_sv0.2 c_sv1.2 (by decide)) (allS me0 all0) (by decide) rfl (argsL := [.ref b19]) rfl (lenOf pd33 rfl) (W := 1) rfl (by decide) (by decide) (by decide) at_388 rfl ?_
 intro v181 T181 h181 FX181 U181
 obtain ⟨vb_181, k_181, rfl, u181_0, u181_1, u181_2, u181_3, u181_4, u181_5⟩ := U181
 have G181_vb : Z.heap.size ≤ vb_181 := Nat.le_trans X179.ext0.1 u181_4
 have X181 := FX181 [vb_181] (Or.inl rfl) (allS ⟨u181_4, u181_5.lt⟩ all0)
 show oGoes pp ee bb ss Z T181 (mkF mm 391 _ [.ref b179]) _ _ _ _
 refine o_astore K X181 at_391 rfl rfl (L' := #[vJ i0, sS, vI i1, vI i2, vI i3, vI i4, vI 2, vI sv0, vI sv1, vI 1, vI tc, vI 1, vI 1, vI 2, vI 4, vI 3, vR b19, vI 7, vR b179, uS, uS, uS]) rfl ?_
 refine o_aload K X181 at_393 rfl rfl rfl ?_
 refine o_iload K X181 at_395 rfl rfl ?_
 refine o_static K X181  (w31 hw) (w32 hw) (w33 hw) (w34 hw) (by decide) (rm_read_nn_1 l Z a0 hw b179 vb_181 k_181 p0 p1 p2 34 sv0 sv1 34 fm cs em h181 u181_1 u181_2 u181_3 u181_5 (by decide) c271_141 c271_164 c_sv0 c_sv1 oCh34 c_sv0.2 c_sv1.2 q0 q1 q2 q3 q4) all0 (by decide) rfl (argsL := [.ref b179, .int 3]) rfl (lenOf pd34 rfl) (W := 0) rfl (by decide) (by decide) (by decide) at_397 rfl ?_
 intro v182 T182 h182 FX182 U182
 obtain ⟨r_182, qt_182, s_182, sv_182, ks_182, rfl, u182_0, u182_1, u182_2, u182_3, u182_4, u182_5, u182_6, u182_7, u182_8, u182_9, u182_10, u182_11⟩ := U182
 have G182_r : Z.heap.size ≤ r_182 := Nat.le_trans X181.ext0.1 u182_1
 have G182_s : Z.heap.size ≤ s_182 := Nat.le_trans X181.ext0.1 u182_7
 have X182 := FX182 [r_182, s_182] (Or.inl rfl) (allS ⟨u182_1, u182_2.lt⟩ (allS ⟨u182_7, u182_8.lt⟩ all0))
 show oGoes pp ee bb ss Z T182 (mkF mm 400 _ [.ref r_182]) _ _ _ _
 refine tl_lw2 l Z a0 hw i0 i1 i2 i3 i4 sv0 sv1 1 tc 1 1 2 4 3 7 b19 b179 r_182 qt_182 s_182 sv_182 ks_182 7 sv0 sv1 cs h182 u182_2 u182_3 u182_4 u182_5 u182_6 u182_8 u182_9 u182_10 u182_11 (by decide) (by decide) rfl rfl c_sv0 c_sv1 (oChN c_sv0) (oChN c_sv1) G182_s q2 q3 (fun v183 h183 U183 => ?_) K (X182.mono (by decide) (by decide) (by decide) (allS me1 all0))
 obtain rfl : v183 = some (.int 1) := U183
 exact rfl
 have mo0 : ¬ (mode = (0 : Int32)) := by rw [e_mode]; exact eM0
 have mo1 : ¬ (mode = (1 : Int32)) := by rw [e_mode]; exact eM1
 have mo2 : ¬ (mode < (2 : Int32)) := by rw [e_mode]; exact eM2
 by_cases c271_184 : sv0 = (34 : Int32)
 obtain rfl : ww0 = (2 : Int32) := e_ww0.trans (if_pos c271_184)
 by_cases c271_185 : sv1 = (34 : Int32)
 obtain rfl : ww1 = (2 : Int32) := e_ww1.trans (if_pos c271_185)
 obtain rfl : enc = (4 : Int32) := e_enc.trans (by simp +decide)
 obtain rfl : rest = (7 : Int32) := e_rest.trans (by rw [if_neg mo0, if_neg mo1]; decide)
 obtain rfl : start = (0 : Int32) := e_start.trans (by decide)
 refine o_iload K X26 at_271 rfl rfl ?_
 refine o_istore K X26 at_273 rfl (L' := #[vJ i0, sS, vI i1, vI i2, vI i3, vI i4, vI 2, vI sv0, vI sv1, vI mode, vI tc, vI 2, vI 2, vI 4, vI 7, vI 0, vR b19, vI 0, uS, uS, uS, uS]) rfl ?_
 refine o_aload K X26 at_275 rfl rfl rfl ?_
 refine o_iload K X26 at_277 rfl rfl ?_
 refine o_bipush K X26 at_279 rfl (z := 34) rfl ?_
 refine o_castore K X26 A26 (by decide) (show (0 : Int32).toNatClampNeg < 7 from (by decide)) G19 me0 (z := (.int 34)) (congrArg Value.int (by decide)) at_281 rfl ?_
 intro T186 h186 X186 W186 A186
 replace A186 : oArr Z h186 b19 k19 .char [.int 34, .int p1, .int p2, .int p3, .int p4, .int p5, .int p6] := A186
 refine o_iinc K X186 at_282 rfl rfl (L' := #[vJ i0, sS, vI i1, vI i2, vI i3, vI i4, vI 2, vI sv0, vI sv1, vI mode, vI tc, vI 2, vI 2, vI 4, vI 7, vI 0, vR b19, vI 1, uS, uS, uS, uS]) (by rw [show (0 : Int32) + Int32.ofInt 1 = (1 : Int32) from (by decide)]; rfl) ?_
 refine o_iload K X186 at_285 rfl rfl ?_
 refine o_iconst K X186 at_287 rfl (z := 1) rfl ?_
 refine o_icmp_lt_f K X186 at_288 rfl (by decide) ?_
 refine o_aload K X186 at_291 rfl rfl rfl ?_
 refine o_iload K X186 at_293 rfl rfl ?_
 refine o_iload K X186 at_295 rfl rfl ?_
 refine o_castore K X186 A186 (by decide) (show (1 : Int32).toNatClampNeg < 7 from (by decide)) G19 me0 (z := (.int sv0)) (congrArg Value.int (oChN c_sv0)) at_297 rfl ?_
 intro T187 h187 X187 W187 A187
 replace A187 : oArr Z h187 b19 k19 .char [.int 34, .int sv0, .int p2, .int p3, .int p4, .int p5, .int p6] := A187
 refine o_iinc K X187 at_298 rfl rfl (L' := #[vJ i0, sS, vI i1, vI i2, vI i3, vI i4, vI 2, vI sv0, vI sv1, vI mode, vI tc, vI 2, vI 2, vI 4, vI 7, vI 0, vR b19, vI 2, uS, uS, uS, uS]) (by rw [show (1 : Int32) + Int32.ofInt 1 = (2 : Int32) from (by decide)]; rfl) ?_
 refine o_iload K X187 at_301 rfl rfl ?_
 refine o_bipush K X187 at_303 rfl (z := 34) rfl ?_
 refine o_icmp_ne_f K X187 at_305 rfl c271_184 ?_
 refine o_aload K X187 at_308 rfl rfl rfl ?_
 refine o_iload K X187 at_310 rfl rfl ?_
 refine o_bipush K X187 at_312 rfl (z := 34) rfl ?_
 refine o_castore K X187 A187 (by decide) (show (2 : Int32).toNatClampNeg < 7 from (by decide)) G19 me0 (z := (.int 34)) (congrArg Value.int (by decide)) at_314 rfl ?_
 intro T188 h188 X188 W188 A188
 replace A188 : oArr Z h188 b19 k19 .char [.int 34, .int sv0, .int 34, .int p3, .int p4, .int p5, .int p6] := A188
 refine o_iinc K X188 at_315 rfl rfl (L' := #[vJ i0, sS, vI i1, vI i2, vI i3, vI i4, vI 2, vI sv0, vI sv1, vI mode, vI tc, vI 2, vI 2, vI 4, vI 7, vI 0, vR b19, vI 3, uS, uS, uS, uS]) (by rw [show (2 : Int32) + Int32.ofInt 1 = (3 : Int32) from (by decide)]; rfl) ?_
 refine o_iload K X188 at_318 rfl rfl ?_
 refine o_iconst K X188 at_320 rfl (z := 2) rfl ?_
 refine o_icmp_lt_f K X188 at_321 rfl (by decide) ?_
 refine o_aload K X188 at_324 rfl rfl rfl ?_
 refine o_iload K X188 at_326 rfl rfl ?_
 refine o_iload K X188 at_328 rfl rfl ?_
 refine o_castore K X188 A188 (by decide) (show (3 : Int32).toNatClampNeg < 7 from (by decide)) G19 me0 (z := (.int sv1)) (congrArg Value.int (oChN c_sv1)) at_330 rfl ?_
 intro T189 h189 X189 W189 A189
 replace A189 : oArr Z h189 b19 k19 .char [.int 34, .int sv0, .int 34, .int sv1, .int p4, .int p5, .int p6] := A189
 refine o_iinc K X189 at_331 rfl rfl (L' := #[vJ i0, sS, vI i1, vI i2, vI i3, vI i4, vI 2, vI sv0, vI sv1, vI mode, vI tc, vI 2, vI 2, vI 4, vI 7, vI 0, vR b19, vI 4, uS, uS, uS, uS]) (by rw [show (3 : Int32) + Int32.ofInt 1 = (4 : Int32) from (by decide)]; rfl) ?_
 refine o_iload K X189 at_334 rfl rfl ?_
 refine o_bipush K X189 at_336 rfl (z := 34) rfl ?_
 refine o_icmp_ne_f K X189 at_338 rfl c271_185 ?_
 refine o_aload K X189 at_341 rfl rfl rfl ?_
 refine o_iload K X189 at_343 rfl rfl ?_
 refine o_bipush K X189 at_345 rfl (z := 34) rfl ?_
 refine o_castore K X189 A189 (by decide) (show (4 : Int32).toNatClampNeg < 7 from (by decide)) G19 me0 (z := (.int 34)) (congrArg Value.int (by decide)) at_347 rfl ?_
 intro T190 h190 X190 W190 A190
 replace A190 : oArr Z h190 b19 k19 .char [.int 34, .int sv0, .int 34, .int sv1, .int 34, .int p5, .int p6] := A190
 refine o_iinc K X190 at_348 rfl rfl (L' := #[vJ i0, sS, vI i1, vI i2, vI i3, vI i4, vI 2, vI sv0, vI sv1, vI mode, vI tc, vI 2, vI 2, vI 4, vI 7, vI 0, vR b19, vI 5, uS, uS, uS, uS]) (by rw [show (4 : Int32) + Int32.ofInt 1 = (5 : Int32) from (by decide)]; rfl) ?_
 refine o_iload K X190 at_351 rfl rfl ?_
 refine o_if_eq_f K X190 at_353 rfl mo0 ?_
 refine o_aload K X190 at_356 rfl rfl rfl ?_
 refine o_iload K X190 at_358 rfl rfl ?_
 refine o_bipush K X190 at_360 rfl (z := 34) rfl ?_
 refine o_castore K X190 A190 (by decide) (show (5 : Int32).toNatClampNeg < 7 from (by decide)) G19 me0 (z := (.int 34)) (congrArg Value.int (by decide)) at_362 rfl ?_
 intro T191 h191 X191 W191 A191
 replace A191 : oArr Z h191 b19 k19 .char [.int 34, .int sv0, .int 34, .int sv1, .int 34, .int 34, .int p6] := A191
 refine o_iinc K X191 at_363 rfl rfl (L' := #[vJ i0, sS, vI i1, vI i2, vI i3, vI i4, vI 2, vI sv0, vI sv1, vI mode, vI tc, vI 2, vI 2, vI 4, vI 7, vI 0, vR b19, vI 6, uS, uS, uS, uS]) (by rw [show (5 : Int32) + Int32.ofInt 1 = (6 : Int32) from (by decide)]; rfl) ?_
 refine o_iload K X191 at_366 rfl rfl ?_
 refine o_iconst K X191 at_368 rfl (z := 2) rfl ?_
 refine o_icmp_lt_f K X191 at_369 rfl mo2 ?_
 refine o_aload K X191 at_372 rfl rfl rfl ?_
 refine o_iload K X191 at_374 rfl rfl ?_
 refine o_iload K X191 at_376 rfl rfl ?_
 refine o_castore K X191 A191 (by decide) (show (6 : Int32).toNatClampNeg < 7 from (by decide)) G19 me0 (z := (.int tc)) (congrArg Value.int (oChN c_tc)) at_378 rfl ?_
 intro T192 h192 X192 W192 A192
 replace A192 : oArr Z h192 b19 k19 .char [.int 34, .int sv0, .int 34, .int sv1, .int 34, .int 34, .int tc] := A192
 refine o_iinc K X192 at_379 rfl rfl (L' := #[vJ i0, sS, vI i1, vI i2, vI i3, vI i4, vI 2, vI sv0, vI sv1, vI mode, vI tc, vI 2, vI 2, vI 4, vI 7, vI 0, vR b19, vI 7, uS, uS, uS, uS]) (by rw [show (6 : Int32) + Int32.ofInt 1 = (7 : Int32) from (by decide)]; rfl) ?_
 refine o_new K X192 (w2 hw) (w3 hw) (w4 hw) at_382 rfl (by decide) (by decide) ?_
 intro T193 h193 b193 X193 g193 E193 A193 D193 G193
 have F193_coder : Fld Z h193 b193 z0 "coder" "B" (.int 0) := (D193 (Or.inr (w28 hw)) (ty := .byte) (by decide))
 have F193_value : Fld Z h193 b193 z0 "value" "[B" .null := (D193 (Or.inr (w30 hw)) (ty := (.array .byte)) (by decide))
 refine o_dup K X193 at_385 rfl rfl ?_
 refine o_aload K X193 at_386 rfl rfl rfl ?_
 have m194 := (A192.ext E193)
 refine o_special K X193 (y := (⟨z0, "<init>", "([C)V"⟩ : MethodName)) rfl (w5 hw) (w6 hw) (w4 hw) (w7 hw) (by decide) (rm_str_7 l Z a0 hw b193 b19 k19 cs 34 sv0 34 sv1 34 34 tc h193 A193 F193_value F193_coder G193 m194 q2 q3 (by decide) c_sv0.2 (by decide) c_sv1.2 (by decide) (by decide) c_tc.2) (allS me0 all0) (by decide) rfl (argsL := [.ref b19]) rfl (lenOf pd33 rfl) (W := 1) rfl (by decide) (by decide) (by decide) at_388 rfl ?_
 intro v195 T195 h195 FX195 U195
 obtain ⟨vb_195, k_195, rfl, u195_0, u195_1, u195_2, u195_3, u195_4, u195_5⟩ := U195
 have G195_vb : Z.heap.size ≤ vb_195 := Nat.le_trans X193.ext0.1 u195_4
 have X195 := FX195 [vb_195] (Or.inl rfl) (allS ⟨u195_4, u195_5.lt⟩ all0)
 show oGoes pp ee bb ss Z T195 (mkF mm 391 _ [.ref b193]) _ _ _ _
 refine o_astore K X195 at_391 rfl rfl (L' := #[vJ i0, sS, vI i1, vI i2, vI i3, vI i4, vI 2, vI sv0, vI sv1, vI mode, vI tc, vI 2, vI 2, vI 4, vI 7, vI 0, vR b19, vI 7, vR b193, uS, uS, uS]) rfl ?_
 refine o_aload K X195 at_393 rfl rfl rfl ?_
 refine o_iload K X195 at_395 rfl rfl ?_
 refine o_static K X195  (w31 hw) (w32 hw) (w33 hw) (w34 hw) (by decide) (rm_read_qq_2 l Z a0 hw b193 vb_195 k_195 34 sv0 34 sv1 34 34 tc fm cs em h195 u195_1 u195_2 u195_3 u195_5 c271_184 (by decide) c271_185 (by decide) (by decide) n_tc c_sv0 oCh34 c_sv1 oCh34 oCh34 c_tc c_tc.2 q0 q1 q2 q3 q4) all0 (by decide) rfl (argsL := [.ref b193, .int 0]) rfl (lenOf pd34 rfl) (W := 0) rfl (by decide) (by decide) (by decide) at_397 rfl ?_
 intro v196 T196 h196 FX196 U196
 obtain ⟨r_196, qt_196, s_196, sv_196, ks_196, rfl, u196_0, u196_1, u196_2, u196_3, u196_4, u196_5, u196_6, u196_7, u196_8, u196_9, u196_10, u196_11⟩ := U196
 have G196_r : Z.heap.size ≤ r_196 := Nat.le_trans X195.ext0.1 u196_1
 have G196_s : Z.heap.size ≤ s_196 := Nat.le_trans X195.ext0.1 u196_7
 have X196 := FX196 [r_196, s_196] (Or.inl rfl) (allS ⟨u196_1, u196_2.lt⟩ (allS ⟨u196_7, u196_8.lt⟩ all0))
 show oGoes pp ee bb ss Z T196 (mkF mm 400 _ [.ref r_196]) _ _ _ _
 refine tl_lw2 l Z a0 hw i0 i1 i2 i3 i4 sv0 sv1 mode tc 2 2 4 7 0 7 b19 b193 r_196 qt_196 s_196 sv_196 ks_196 6 34 34 cs h196 u196_2 u196_3 u196_4 u196_5 u196_6 u196_8 u196_9 u196_10 u196_11 mo0 (by decide) c271_184.symm c271_185.symm c_sv0 c_sv1 (oChN c_sv0) (oChN c_sv1) G196_s q2 q3 (fun v197 h197 U197 => ?_) K (X196.mono (by decide) (by decide) (by decide) (allS me1 all0))
 obtain rfl : v197 = some (.int 1) := U197
 exact rfl
 obtain rfl : ww1 = (1 : Int32) := e_ww1.trans (if_neg c271_185)
 obtain rfl : enc = (3 : Int32) := e_enc.trans (by simp +decide)
 obtain rfl : rest = (6 : Int32) := e_rest.trans (by rw [if_neg mo0, if_neg mo1]; decide)
 obtain rfl : start = (1 : Int32) := e_start.trans (by decide)
 refine o_iload K X26 at_271 rfl rfl ?_
 refine o_istore K X26 at_273 rfl (L' := #[vJ i0, sS, vI i1, vI i2, vI i3, vI i4, vI 2, vI sv0, vI sv1, vI mode, vI tc, vI 2, vI 1, vI 3, vI 6, vI 1, vR b19, vI 1, uS, uS, uS, uS]) rfl ?_
 refine o_aload K X26 at_275 rfl rfl rfl ?_
 refine o_iload K X26 at_277 rfl rfl ?_
 refine o_bipush K X26 at_279 rfl (z := 34) rfl ?_
 refine o_castore K X26 A26 (by decide) (show (1 : Int32).toNatClampNeg < 7 from (by decide)) G19 me0 (z := (.int 34)) (congrArg Value.int (by decide)) at_281 rfl ?_
 intro T198 h198 X198 W198 A198
 replace A198 : oArr Z h198 b19 k19 .char [.int p0, .int 34, .int p2, .int p3, .int p4, .int p5, .int p6] := A198
 refine o_iinc K X198 at_282 rfl rfl (L' := #[vJ i0, sS, vI i1, vI i2, vI i3, vI i4, vI 2, vI sv0, vI sv1, vI mode, vI tc, vI 2, vI 1, vI 3, vI 6, vI 1, vR b19, vI 2, uS, uS, uS, uS]) (by rw [show (1 : Int32) + Int32.ofInt 1 = (2 : Int32) from (by decide)]; rfl) ?_
 refine o_iload K X198 at_285 rfl rfl ?_
 refine o_iconst K X198 at_287 rfl (z := 1) rfl ?_
 refine o_icmp_lt_f K X198 at_288 rfl (by decide) ?_
 refine o_aload K X198 at_291 rfl rfl rfl ?_
 refine o_iload K X198 at_293 rfl rfl ?_
 refine o_iload K X198 at_295 rfl rfl ?_
 refine o_castore K X198 A198 (by decide) (show (2 : Int32).toNatClampNeg < 7 from (by decide)) G19 me0 (z := (.int sv0)) (congrArg Value.int (oChN c_sv0)) at_297 rfl ?_
 intro T199 h199 X199 W199 A199
 replace A199 : oArr Z h199 b19 k19 .char [.int p0, .int 34, .int sv0, .int p3, .int p4, .int p5, .int p6] := A199
 refine o_iinc K X199 at_298 rfl rfl (L' := #[vJ i0, sS, vI i1, vI i2, vI i3, vI i4, vI 2, vI sv0, vI sv1, vI mode, vI tc, vI 2, vI 1, vI 3, vI 6, vI 1, vR b19, vI 3, uS, uS, uS, uS]) (by rw [show (2 : Int32) + Int32.ofInt 1 = (3 : Int32) from (by decide)]; rfl) ?_
 refine o_iload K X199 at_301 rfl rfl ?_
 refine o_bipush K X199 at_303 rfl (z := 34) rfl ?_
 refine o_icmp_ne_f K X199 at_305 rfl c271_184 ?_
 refine o_aload K X199 at_308 rfl rfl rfl ?_
 refine o_iload K X199 at_310 rfl rfl ?_
 refine o_bipush K X199 at_312 rfl (z := 34) rfl ?_
 refine o_castore K X199 A199 (by decide) (show (3 : Int32).toNatClampNeg < 7 from (by decide)) G19 me0 (z := (.int 34)) (congrArg Value.int (by decide)) at_314 rfl ?_
 intro T200 h200 X200 W200 A200
 replace A200 : oArr Z h200 b19 k19 .char [.int p0, .int 34, .int sv0, .int 34, .int p4, .int p5, .int p6] := A200
 refine o_iinc K X200 at_315 rfl rfl (L' := #[vJ i0, sS, vI i1, vI i2, vI i3, vI i4, vI 2, vI sv0, vI sv1, vI mode, vI tc, vI 2, vI 1, vI 3, vI 6, vI 1, vR b19, vI 4, uS, uS, uS, uS]) (by rw [show (3 : Int32) + Int32.ofInt 1 = (4 : Int32) from (by decide)]; rfl) ?_
 refine o_iload K X200 at_318 rfl rfl ?_
 refine o_iconst K X200 at_320 rfl (z := 2) rfl ?_
 refine o_icmp_lt_f K X200 at_321 rfl (by decide) ?_
 refine o_aload K X200 at_324 rfl rfl rfl ?_
 refine o_iload K X200 at_326 rfl rfl ?_
 refine o_iload K X200 at_328 rfl rfl ?_
 refine o_castore K X200 A200 (by decide) (show (4 : Int32).toNatClampNeg < 7 from (by decide)) G19 me0 (z := (.int sv1)) (congrArg Value.int (oChN c_sv1)) at_330 rfl ?_
 intro T201 h201 X201 W201 A201
 replace A201 : oArr Z h201 b19 k19 .char [.int p0, .int 34, .int sv0, .int 34, .int sv1, .int p5, .int p6] := A201
 refine o_iinc K X201 at_331 rfl rfl (L' := #[vJ i0, sS, vI i1, vI i2, vI i3, vI i4, vI 2, vI sv0, vI sv1, vI mode, vI tc, vI 2, vI 1, vI 3, vI 6, vI 1, vR b19, vI 5, uS, uS, uS, uS]) (by rw [show (4 : Int32) + Int32.ofInt 1 = (5 : Int32) from (by decide)]; rfl) ?_
 refine o_iload K X201 at_334 rfl rfl ?_
 refine o_bipush K X201 at_336 rfl (z := 34) rfl ?_
 refine o_icmp_ne_t K X201 at_338 (by decide) (pc' := 351) (by decide) c271_185 ?_
 refine o_iload K X201 at_351 rfl rfl ?_
 refine o_if_eq_f K X201 at_353 rfl mo0 ?_
 refine o_aload K X201 at_356 rfl rfl rfl ?_
 refine o_iload K X201 at_358 rfl rfl ?_
 refine o_bipush K X201 at_360 rfl (z := 34) rfl ?_
 refine o_castore K X201 A201 (by decide) (show (5 : Int32).toNatClampNeg < 7 from (by decide)) G19 me0 (z := (.int 34)) (congrArg Value.int (by decide)) at_362 rfl ?_
 intro T202 h202 X202 W202 A202
 replace A202 : oArr Z h202 b19 k19 .char [.int p0, .int 34, .int sv0, .int 34, .int sv1, .int 34, .int p6] := A202
 refine o_iinc K X202 at_363 rfl rfl (L' := #[vJ i0, sS, vI i1, vI i2, vI i3, vI i4, vI 2, vI sv0, vI sv1, vI mode, vI tc, vI 2, vI 1, vI 3, vI 6, vI 1, vR b19, vI 6, uS, uS, uS, uS]) (by rw [show (5 : Int32) + Int32.ofInt 1 = (6 : Int32) from (by decide)]; rfl) ?_
 refine o_iload K X202 at_366 rfl rfl ?_
 refine o_iconst K X202 at_368 rfl (z := 2) rfl ?_
 refine o_icmp_lt_f K X202 at_369 rfl mo2 ?_
 refine o_aload K X202 at_372 rfl rfl rfl ?_
 refine o_iload K X202 at_374 rfl rfl ?_
 refine o_iload K X202 at_376 rfl rfl ?_
 refine o_castore K X202 A202 (by decide) (show (6 : Int32).toNatClampNeg < 7 from (by decide)) G19 me0 (z := (.int tc)) (congrArg Value.int (oChN c_tc)) at_378 rfl ?_
 intro T203 h203 X203 W203 A203
 replace A203 : oArr Z h203 b19 k19 .char [.int p0, .int 34, .int sv0, .int 34, .int sv1, .int 34, .int tc] := A203
 refine o_iinc K X203 at_379 rfl rfl (L' := #[vJ i0, sS, vI i1, vI i2, vI i3, vI i4, vI 2, vI sv0, vI sv1, vI mode, vI tc, vI 2, vI 1, vI 3, vI 6, vI 1, vR b19, vI 7, uS, uS, uS, uS]) (by rw [show (6 : Int32) + Int32.ofInt 1 = (7 : Int32) from (by decide)]; rfl) ?_
 refine o_new K X203 (w2 hw) (w3 hw) (w4 hw) at_382 rfl (by decide) (by decide) ?_
 intro T204 h204 b204 X204 g204 E204 A204 D204 G204
 have F204_coder : Fld Z h204 b204 z0 "coder" "B" (.int 0) := (D204 (Or.inr (w28 hw)) (ty := .byte) (by decide))
 have F204_value : Fld Z h204 b204 z0 "value" "[B" .null := (D204 (Or.inr (w30 hw)) (ty := (.array .byte)) (by decide))
 refine o_dup K X204 at_385 rfl rfl ?_
 refine o_aload K X204 at_386 rfl rfl rfl ?_
 have m205 := (A203.ext E204)
 refine o_special K X204 (y := (⟨z0, "<init>", "([C)V"⟩ : MethodName)) rfl (w5 hw) (w6 hw) (w4 hw) (w7 hw) (by decide) (rm_str_7 l Z a0 hw b204 b19 k19 cs p0 34 sv0 34 sv1 34 tc h204 A204 F204_value F204_coder G204 m205 q2 q3 c_p0.2 (by decide) c_sv0.2 (by decide) c_sv1.2 (by decide) c_tc.2) (allS me0 all0) (by decide) rfl (argsL := [.ref b19]) rfl (lenOf pd33 rfl) (W := 1) rfl (by decide) (by decide) (by decide) at_388 rfl ?_
 intro v206 T206 h206 FX206 U206
 obtain ⟨vb_206, k_206, rfl, u206_0, u206_1, u206_2, u206_3, u206_4, u206_5⟩ := U206
 have G206_vb : Z.heap.size ≤ vb_206 := Nat.le_trans X204.ext0.1 u206_4
 have X206 := FX206 [vb_206] (Or.inl rfl) (allS ⟨u206_4, u206_5.lt⟩ all0)
 show oGoes pp ee bb ss Z T206 (mkF mm 391 _ [.ref b204]) _ _ _ _
 refine o_astore K X206 at_391 rfl rfl (L' := #[vJ i0, sS, vI i1, vI i2, vI i3, vI i4, vI 2, vI sv0, vI sv1, vI mode, vI tc, vI 2, vI 1, vI 3, vI 6, vI 1, vR b19, vI 7, vR b204, uS, uS, uS]) rfl ?_
 refine o_aload K X206 at_393 rfl rfl rfl ?_
 refine o_iload K X206 at_395 rfl rfl ?_
 refine o_static K X206  (w31 hw) (w32 hw) (w33 hw) (w34 hw) (by decide) (rm_read_qn_2 l Z a0 hw b204 vb_206 k_206 p0 34 sv0 34 sv1 34 tc fm cs em h206 u206_1 u206_2 u206_3 u206_5 c271_184 (by decide) (by decide) c271_185 n_tc c_sv0 oCh34 c_sv1 oCh34 c_tc c_sv1.2 c_tc.2 q0 q1 q2 q3 q4) all0 (by decide) rfl (argsL := [.ref b204, .int 1]) rfl (lenOf pd34 rfl) (W := 0) rfl (by decide) (by decide) (by decide) at_397 rfl ?_
 intro v207 T207 h207 FX207 U207
 obtain ⟨r_207, qt_207, s_207, sv_207, ks_207, rfl, u207_0, u207_1, u207_2, u207_3, u207_4, u207_5, u207_6, u207_7, u207_8, u207_9, u207_10, u207_11⟩ := U207
 have G207_r : Z.heap.size ≤ r_207 := Nat.le_trans X206.ext0.1 u207_1
 have G207_s : Z.heap.size ≤ s_207 := Nat.le_trans X206.ext0.1 u207_7
 have X207 := FX207 [r_207, s_207] (Or.inl rfl) (allS ⟨u207_1, u207_2.lt⟩ (allS ⟨u207_7, u207_8.lt⟩ all0))
 show oGoes pp ee bb ss Z T207 (mkF mm 400 _ [.ref r_207]) _ _ _ _
 refine tl_lw2 l Z a0 hw i0 i1 i2 i3 i4 sv0 sv1 mode tc 2 1 3 6 1 7 b19 b204 r_207 qt_207 s_207 sv_207 ks_207 6 34 sv1 cs h207 u207_2 u207_3 u207_4 u207_5 u207_6 u207_8 u207_9 u207_10 u207_11 mo0 (by decide) c271_184.symm rfl c_sv0 c_sv1 (oChN c_sv0) (oChN c_sv1) G207_s q2 q3 (fun v208 h208 U208 => ?_) K (X207.mono (by decide) (by decide) (by decide) (allS me1 all0))
 obtain rfl : v208 = some (.int 1) := U208
 exact rfl
 obtain rfl : ww0 = (1 : Int32) := e_ww0.trans (if_neg c271_184)
 by_cases c271_209 : sv1 = (34 : Int32)
 obtain rfl : ww1 = (2 : Int32) := e_ww1.trans (if_pos c271_209)
 obtain rfl : enc = (3 : Int32) := e_enc.trans (by simp +decide)
 obtain rfl : rest = (6 : Int32) := e_rest.trans (by rw [if_neg mo0, if_neg mo1]; decide)
 obtain rfl : start = (1 : Int32) := e_start.trans (by decide)
 refine o_iload K X26 at_271 rfl rfl ?_
 refine o_istore K X26 at_273 rfl (L' := #[vJ i0, sS, vI i1, vI i2, vI i3, vI i4, vI 2, vI sv0, vI sv1, vI mode, vI tc, vI 1, vI 2, vI 3, vI 6, vI 1, vR b19, vI 1, uS, uS, uS, uS]) rfl ?_
 refine o_aload K X26 at_275 rfl rfl rfl ?_
 refine o_iload K X26 at_277 rfl rfl ?_
 refine o_bipush K X26 at_279 rfl (z := 34) rfl ?_
 refine o_castore K X26 A26 (by decide) (show (1 : Int32).toNatClampNeg < 7 from (by decide)) G19 me0 (z := (.int 34)) (congrArg Value.int (by decide)) at_281 rfl ?_
 intro T210 h210 X210 W210 A210
 replace A210 : oArr Z h210 b19 k19 .char [.int p0, .int 34, .int p2, .int p3, .int p4, .int p5, .int p6] := A210
 refine o_iinc K X210 at_282 rfl rfl (L' := #[vJ i0, sS, vI i1, vI i2, vI i3, vI i4, vI 2, vI sv0, vI sv1, vI mode, vI tc, vI 1, vI 2, vI 3, vI 6, vI 1, vR b19, vI 2, uS, uS, uS, uS]) (by rw [show (1 : Int32) + Int32.ofInt 1 = (2 : Int32) from (by decide)]; rfl) ?_
 refine o_iload K X210 at_285 rfl rfl ?_
 refine o_iconst K X210 at_287 rfl (z := 1) rfl ?_
 refine o_icmp_lt_f K X210 at_288 rfl (by decide) ?_
 refine o_aload K X210 at_291 rfl rfl rfl ?_
 refine o_iload K X210 at_293 rfl rfl ?_
 refine o_iload K X210 at_295 rfl rfl ?_
 refine o_castore K X210 A210 (by decide) (show (2 : Int32).toNatClampNeg < 7 from (by decide)) G19 me0 (z := (.int sv0)) (congrArg Value.int (oChN c_sv0)) at_297 rfl ?_
 intro T211 h211 X211 W211 A211
 replace A211 : oArr Z h211 b19 k19 .char [.int p0, .int 34, .int sv0, .int p3, .int p4, .int p5, .int p6] := A211
 refine o_iinc K X211 at_298 rfl rfl (L' := #[vJ i0, sS, vI i1, vI i2, vI i3, vI i4, vI 2, vI sv0, vI sv1, vI mode, vI tc, vI 1, vI 2, vI 3, vI 6, vI 1, vR b19, vI 3, uS, uS, uS, uS]) (by rw [show (2 : Int32) + Int32.ofInt 1 = (3 : Int32) from (by decide)]; rfl) ?_
 refine o_iload K X211 at_301 rfl rfl ?_
 refine o_bipush K X211 at_303 rfl (z := 34) rfl ?_
 refine o_icmp_ne_t K X211 at_305 (by decide) (pc' := 318) (by decide) c271_184 ?_
 refine o_iload K X211 at_318 rfl rfl ?_
 refine o_iconst K X211 at_320 rfl (z := 2) rfl ?_
 refine o_icmp_lt_f K X211 at_321 rfl (by decide) ?_
 refine o_aload K X211 at_324 rfl rfl rfl ?_
 refine o_iload K X211 at_326 rfl rfl ?_
 refine o_iload K X211 at_328 rfl rfl ?_
 refine o_castore K X211 A211 (by decide) (show (3 : Int32).toNatClampNeg < 7 from (by decide)) G19 me0 (z := (.int sv1)) (congrArg Value.int (oChN c_sv1)) at_330 rfl ?_
 intro T212 h212 X212 W212 A212
 replace A212 : oArr Z h212 b19 k19 .char [.int p0, .int 34, .int sv0, .int sv1, .int p4, .int p5, .int p6] := A212
 refine o_iinc K X212 at_331 rfl rfl (L' := #[vJ i0, sS, vI i1, vI i2, vI i3, vI i4, vI 2, vI sv0, vI sv1, vI mode, vI tc, vI 1, vI 2, vI 3, vI 6, vI 1, vR b19, vI 4, uS, uS, uS, uS]) (by rw [show (3 : Int32) + Int32.ofInt 1 = (4 : Int32) from (by decide)]; rfl) ?_
 refine o_iload K X212 at_334 rfl rfl ?_
 refine o_bipush K X212 at_336 rfl (z := 34) rfl ?_
 refine o_icmp_ne_f K X212 at_338 rfl c271_209 ?_
 refine o_aload K X212 at_341 rfl rfl rfl ?_
 refine o_iload K X212 at_343 rfl rfl ?_
 refine o_bipush K X212 at_345 rfl (z := 34) rfl ?_
 refine o_castore K X212 A212 (by decide) (show (4 : Int32).toNatClampNeg < 7 from (by decide)) G19 me0 (z := (.int 34)) (congrArg Value.int (by decide)) at_347 rfl ?_
 intro T213 h213 X213 W213 A213
 replace A213 : oArr Z h213 b19 k19 .char [.int p0, .int 34, .int sv0, .int sv1, .int 34, .int p5, .int p6] := A213
 refine o_iinc K X213 at_348 rfl rfl (L' := #[vJ i0, sS, vI i1, vI i2, vI i3, vI i4, vI 2, vI sv0, vI sv1, vI mode, vI tc, vI 1, vI 2, vI 3, vI 6, vI 1, vR b19, vI 5, uS, uS, uS, uS]) (by rw [show (4 : Int32) + Int32.ofInt 1 = (5 : Int32) from (by decide)]; rfl) ?_
 refine o_iload K X213 at_351 rfl rfl ?_
 refine o_if_eq_f K X213 at_353 rfl mo0 ?_
 refine o_aload K X213 at_356 rfl rfl rfl ?_
 refine o_iload K X213 at_358 rfl rfl ?_
 refine o_bipush K X213 at_360 rfl (z := 34) rfl ?_
 refine o_castore K X213 A213 (by decide) (show (5 : Int32).toNatClampNeg < 7 from (by decide)) G19 me0 (z := (.int 34)) (congrArg Value.int (by decide)) at_362 rfl ?_
 intro T214 h214 X214 W214 A214
 replace A214 : oArr Z h214 b19 k19 .char [.int p0, .int 34, .int sv0, .int sv1, .int 34, .int 34, .int p6] := A214
 refine o_iinc K X214 at_363 rfl rfl (L' := #[vJ i0, sS, vI i1, vI i2, vI i3, vI i4, vI 2, vI sv0, vI sv1, vI mode, vI tc, vI 1, vI 2, vI 3, vI 6, vI 1, vR b19, vI 6, uS, uS, uS, uS]) (by rw [show (5 : Int32) + Int32.ofInt 1 = (6 : Int32) from (by decide)]; rfl) ?_
 refine o_iload K X214 at_366 rfl rfl ?_
 refine o_iconst K X214 at_368 rfl (z := 2) rfl ?_
 refine o_icmp_lt_f K X214 at_369 rfl mo2 ?_
 refine o_aload K X214 at_372 rfl rfl rfl ?_
 refine o_iload K X214 at_374 rfl rfl ?_
 refine o_iload K X214 at_376 rfl rfl ?_
 refine o_castore K X214 A214 (by decide) (show (6 : Int32).toNatClampNeg < 7 from (by decide)) G19 me0 (z := (.int tc)) (congrArg Value.int (oChN c_tc)) at_378 rfl ?_
 intro T215 h215 X215 W215 A215
 replace A215 : oArr Z h215 b19 k19 .char [.int p0, .int 34, .int sv0, .int sv1, .int 34, .int 34, .int tc] := A215
 refine o_iinc K X215 at_379 rfl rfl (L' := #[vJ i0, sS, vI i1, vI i2, vI i3, vI i4, vI 2, vI sv0, vI sv1, vI mode, vI tc, vI 1, vI 2, vI 3, vI 6, vI 1, vR b19, vI 7, uS, uS, uS, uS]) (by rw [show (6 : Int32) + Int32.ofInt 1 = (7 : Int32) from (by decide)]; rfl) ?_
 refine o_new K X215 (w2 hw) (w3 hw) (w4 hw) at_382 rfl (by decide) (by decide) ?_
 intro T216 h216 b216 X216 g216 E216 A216 D216 G216
 have F216_coder : Fld Z h216 b216 z0 "coder" "B" (.int 0) := (D216 (Or.inr (w28 hw)) (ty := .byte) (by decide))
 have F216_value : Fld Z h216 b216 z0 "value" "[B" .null := (D216 (Or.inr (w30 hw)) (ty := (.array .byte)) (by decide))
 refine o_dup K X216 at_385 rfl rfl ?_
 refine o_aload K X216 at_386 rfl rfl rfl ?_
 have m217 := (A215.ext E216)
 refine o_special K X216 (y := (⟨z0, "<init>", "([C)V"⟩ : MethodName)) rfl (w5 hw) (w6 hw) (w4 hw) (w7 hw) (by decide) (rm_str_7 l Z a0 hw b216 b19 k19 cs p0 34 sv0 sv1 34 34 tc h216 A216 F216_value F216_coder G216 m217 q2 q3 c_p0.2 (by decide) c_sv0.2 c_sv1.2 (by decide) (by decide) c_tc.2) (allS me0 all0) (by decide) rfl (argsL := [.ref b19]) rfl (lenOf pd33 rfl) (W := 1) rfl (by decide) (by decide) (by decide) at_388 rfl ?_
 intro v218 T218 h218 FX218 U218
 obtain ⟨vb_218, k_218, rfl, u218_0, u218_1, u218_2, u218_3, u218_4, u218_5⟩ := U218
 have G218_vb : Z.heap.size ≤ vb_218 := Nat.le_trans X216.ext0.1 u218_4
 have X218 := FX218 [vb_218] (Or.inl rfl) (allS ⟨u218_4, u218_5.lt⟩ all0)
 show oGoes pp ee bb ss Z T218 (mkF mm 391 _ [.ref b216]) _ _ _ _
 refine o_astore K X218 at_391 rfl rfl (L' := #[vJ i0, sS, vI i1, vI i2, vI i3, vI i4, vI 2, vI sv0, vI sv1, vI mode, vI tc, vI 1, vI 2, vI 3, vI 6, vI 1, vR b19, vI 7, vR b216, uS, uS, uS]) rfl ?_
 refine o_aload K X218 at_393 rfl rfl rfl ?_
 refine o_iload K X218 at_395 rfl rfl ?_
 refine o_static K X218  (w31 hw) (w32 hw) (w33 hw) (w34 hw) (by decide) (rm_read_nq_2 l Z a0 hw b216 vb_218 k_218 p0 34 sv0 sv1 34 34 tc fm cs em h218 u218_1 u218_2 u218_3 u218_5 c271_209 (by decide) (by decide) c271_184 n_tc c_sv0 c_sv1 oCh34 oCh34 c_tc c_sv0.2 c_tc.2 q0 q1 q2 q3 q4) all0 (by decide) rfl (argsL := [.ref b216, .int 1]) rfl (lenOf pd34 rfl) (W := 0) rfl (by decide) (by decide) (by decide) at_397 rfl ?_
 intro v219 T219 h219 FX219 U219
 obtain ⟨r_219, qt_219, s_219, sv_219, ks_219, rfl, u219_0, u219_1, u219_2, u219_3, u219_4, u219_5, u219_6, u219_7, u219_8, u219_9, u219_10, u219_11⟩ := U219
 have G219_r : Z.heap.size ≤ r_219 := Nat.le_trans X218.ext0.1 u219_1
 have G219_s : Z.heap.size ≤ s_219 := Nat.le_trans X218.ext0.1 u219_7
 have X219 := FX219 [r_219, s_219] (Or.inl rfl) (allS ⟨u219_1, u219_2.lt⟩ (allS ⟨u219_7, u219_8.lt⟩ all0))
 show oGoes pp ee bb ss Z T219 (mkF mm 400 _ [.ref r_219]) _ _ _ _
 refine tl_lw2 l Z a0 hw i0 i1 i2 i3 i4 sv0 sv1 mode tc 1 2 3 6 1 7 b19 b216 r_219 qt_219 s_219 sv_219 ks_219 6 sv0 34 cs h219 u219_2 u219_3 u219_4 u219_5 u219_6 u219_8 u219_9 u219_10 u219_11 mo0 (by decide) rfl c271_209.symm c_sv0 c_sv1 (oChN c_sv0) (oChN c_sv1) G219_s q2 q3 (fun v220 h220 U220 => ?_) K (X219.mono (by decide) (by decide) (by decide) (allS me1 all0))
 obtain rfl : v220 = some (.int 1) := U220
 exact rfl
 obtain rfl : ww1 = (1 : Int32) := e_ww1.trans (if_neg c271_209)
 obtain rfl : enc = (2 : Int32) := e_enc.trans (by simp +decide)
 obtain rfl : rest = (5 : Int32) := e_rest.trans (by rw [if_neg mo0, if_neg mo1]; decide)
 obtain rfl : start = (2 : Int32) := e_start.trans (by decide)
 refine o_iload K X26 at_271 rfl rfl ?_
 refine o_istore K X26 at_273 rfl (L' := #[vJ i0, sS, vI i1, vI i2, vI i3, vI i4, vI 2, vI sv0, vI sv1, vI mode, vI tc, vI 1, vI 1, vI 2, vI 5, vI 2, vR b19, vI 2, uS, uS, uS, uS]) rfl ?_
 refine o_aload K X26 at_275 rfl rfl rfl ?_
 refine o_iload K X26 at_277 rfl rfl ?_
 refine o_bipush K X26 at_279 rfl (z := 34) rfl ?_
 refine o_castore K X26 A26 (by decide) (show (2 : Int32).toNatClampNeg < 7 from (by decide)) G19 me0 (z := (.int 34)) (congrArg Value.int (by decide)) at_281 rfl ?_
 intro T221 h221 X221 W221 A221
 replace A221 : oArr Z h221 b19 k19 .char [.int p0, .int p1, .int 34, .int p3, .int p4, .int p5, .int p6] := A221
 refine o_iinc K X221 at_282 rfl rfl (L' := #[vJ i0, sS, vI i1, vI i2, vI i3, vI i4, vI 2, vI sv0, vI sv1, vI mode, vI tc, vI 1, vI 1, vI 2, vI 5, vI 2, vR b19, vI 3, uS, uS, uS, uS]) (by rw [show (2 : Int32) + Int32.ofInt 1 = (3 : Int32) from (by decide)]; rfl) ?_
 refine o_iload K X221 at_285 rfl rfl ?_
 refine o_iconst K X221 at_287 rfl (z := 1) rfl ?_
 refine o_icmp_lt_f K X221 at_288 rfl (by decide) ?_
 refine o_aload K X221 at_291 rfl rfl rfl ?_
 refine o_iload K X221 at_293 rfl rfl ?_
 refine o_iload K X221 at_295 rfl rfl ?_
 refine o_castore K X221 A221 (by decide) (show (3 : Int32).toNatClampNeg < 7 from (by decide)) G19 me0 (z := (.int sv0)) (congrArg Value.int (oChN c_sv0)) at_297 rfl ?_
 intro T222 h222 X222 W222 A222
 replace A222 : oArr Z h222 b19 k19 .char [.int p0, .int p1, .int 34, .int sv0, .int p4, .int p5, .int p6] := A222
 refine o_iinc K X222 at_298 rfl rfl (L' := #[vJ i0, sS, vI i1, vI i2, vI i3, vI i4, vI 2, vI sv0, vI sv1, vI mode, vI tc, vI 1, vI 1, vI 2, vI 5, vI 2, vR b19, vI 4, uS, uS, uS, uS]) (by rw [show (3 : Int32) + Int32.ofInt 1 = (4 : Int32) from (by decide)]; rfl) ?_
 refine o_iload K X222 at_301 rfl rfl ?_
 refine o_bipush K X222 at_303 rfl (z := 34) rfl ?_
 refine o_icmp_ne_t K X222 at_305 (by decide) (pc' := 318) (by decide) c271_184 ?_
 refine o_iload K X222 at_318 rfl rfl ?_
 refine o_iconst K X222 at_320 rfl (z := 2) rfl ?_
 refine o_icmp_lt_f K X222 at_321 rfl (by decide) ?_
 refine o_aload K X222 at_324 rfl rfl rfl ?_
 refine o_iload K X222 at_326 rfl rfl ?_
 refine o_iload K X222 at_328 rfl rfl ?_
 refine o_castore K X222 A222 (by decide) (show (4 : Int32).toNatClampNeg < 7 from (by decide)) G19 me0 (z := (.int sv1)) (congrArg Value.int (oChN c_sv1)) at_330 rfl ?_
 intro T223 h223 X223 W223 A223
 replace A223 : oArr Z h223 b19 k19 .char [.int p0, .int p1, .int 34, .int sv0, .int sv1, .int p5, .int p6] := A223
 refine o_iinc K X223 at_331 rfl rfl (L' := #[vJ i0, sS, vI i1, vI i2, vI i3, vI i4, vI 2, vI sv0, vI sv1, vI mode, vI tc, vI 1, vI 1, vI 2, vI 5, vI 2, vR b19, vI 5, uS, uS, uS, uS]) (by rw [show (4 : Int32) + Int32.ofInt 1 = (5 : Int32) from (by decide)]; rfl) ?_
 refine o_iload K X223 at_334 rfl rfl ?_
 refine o_bipush K X223 at_336 rfl (z := 34) rfl ?_
 refine o_icmp_ne_t K X223 at_338 (by decide) (pc' := 351) (by decide) c271_209 ?_
 refine o_iload K X223 at_351 rfl rfl ?_
 refine o_if_eq_f K X223 at_353 rfl mo0 ?_
 refine o_aload K X223 at_356 rfl rfl rfl ?_
 refine o_iload K X223 at_358 rfl rfl ?_
 refine o_bipush K X223 at_360 rfl (z := 34) rfl ?_
 refine o_castore K X223 A223 (by decide) (show (5 : Int32).toNatClampNeg < 7 from (by decide)) G19 me0 (z := (.int 34)) (congrArg Value.int (by decide)) at_362 rfl ?_
 intro T224 h224 X224 W224 A224
 replace A224 : oArr Z h224 b19 k19 .char [.int p0, .int p1, .int 34, .int sv0, .int sv1, .int 34, .int p6] := A224
 refine o_iinc K X224 at_363 rfl rfl (L' := #[vJ i0, sS, vI i1, vI i2, vI i3, vI i4, vI 2, vI sv0, vI sv1, vI mode, vI tc, vI 1, vI 1, vI 2, vI 5, vI 2, vR b19, vI 6, uS, uS, uS, uS]) (by rw [show (5 : Int32) + Int32.ofInt 1 = (6 : Int32) from (by decide)]; rfl) ?_
 refine o_iload K X224 at_366 rfl rfl ?_
 refine o_iconst K X224 at_368 rfl (z := 2) rfl ?_
 refine o_icmp_lt_f K X224 at_369 rfl mo2 ?_
 refine o_aload K X224 at_372 rfl rfl rfl ?_
 refine o_iload K X224 at_374 rfl rfl ?_
 refine o_iload K X224 at_376 rfl rfl ?_
 refine o_castore K X224 A224 (by decide) (show (6 : Int32).toNatClampNeg < 7 from (by decide)) G19 me0 (z := (.int tc)) (congrArg Value.int (oChN c_tc)) at_378 rfl ?_
 intro T225 h225 X225 W225 A225
 replace A225 : oArr Z h225 b19 k19 .char [.int p0, .int p1, .int 34, .int sv0, .int sv1, .int 34, .int tc] := A225
 refine o_iinc K X225 at_379 rfl rfl (L' := #[vJ i0, sS, vI i1, vI i2, vI i3, vI i4, vI 2, vI sv0, vI sv1, vI mode, vI tc, vI 1, vI 1, vI 2, vI 5, vI 2, vR b19, vI 7, uS, uS, uS, uS]) (by rw [show (6 : Int32) + Int32.ofInt 1 = (7 : Int32) from (by decide)]; rfl) ?_
 refine o_new K X225 (w2 hw) (w3 hw) (w4 hw) at_382 rfl (by decide) (by decide) ?_
 intro T226 h226 b226 X226 g226 E226 A226 D226 G226
 have F226_coder : Fld Z h226 b226 z0 "coder" "B" (.int 0) := (D226 (Or.inr (w28 hw)) (ty := .byte) (by decide))
 have F226_value : Fld Z h226 b226 z0 "value" "[B" .null := (D226 (Or.inr (w30 hw)) (ty := (.array .byte)) (by decide))
 refine o_dup K X226 at_385 rfl rfl ?_
 refine o_aload K X226 at_386 rfl rfl rfl ?_
 have m227 := (A225.ext E226)
 refine o_special K X226 (y := (⟨z0, "<init>", "([C)V"⟩ : MethodName)) rfl (w5 hw) (w6 hw) (w4 hw) (w7 hw) (by decide) (rm_str_7 l Z a0 hw b226 b19 k19 cs p0 p1 34 sv0 sv1 34 tc h226 A226 F226_value F226_coder G226 m227 q2 q3 c_p0.2 c_p1.2 (by decide) c_sv0.2 c_sv1.2 (by decide) c_tc.2) (allS me0 all0) (by decide) rfl (argsL := [.ref b19]) rfl (lenOf pd33 rfl) (W := 1) rfl (by decide) (by decide) (by decide) at_388 rfl ?_
 intro v228 T228 h228 FX228 U228
 obtain ⟨vb_228, k_228, rfl, u228_0, u228_1, u228_2, u228_3, u228_4, u228_5⟩ := U228
 have G228_vb : Z.heap.size ≤ vb_228 := Nat.le_trans X226.ext0.1 u228_4
 have X228 := FX228 [vb_228] (Or.inl rfl) (allS ⟨u228_4, u228_5.lt⟩ all0)
 show oGoes pp ee bb ss Z T228 (mkF mm 391 _ [.ref b226]) _ _ _ _
 refine o_astore K X228 at_391 rfl rfl (L' := #[vJ i0, sS, vI i1, vI i2, vI i3, vI i4, vI 2, vI sv0, vI sv1, vI mode, vI tc, vI 1, vI 1, vI 2, vI 5, vI 2, vR b19, vI 7, vR b226, uS, uS, uS]) rfl ?_
 refine o_aload K X228 at_393 rfl rfl rfl ?_
 refine o_iload K X228 at_395 rfl rfl ?_
 refine o_static K X228  (w31 hw) (w32 hw) (w33 hw) (w34 hw) (by decide) (rm_read_nn_2 l Z a0 hw b226 vb_228 k_228 p0 p1 34 sv0 sv1 34 tc fm cs em h228 u228_1 u228_2 u228_3 u228_5 (by decide) c271_184 c271_209 n_tc c_sv0 c_sv1 oCh34 c_tc c_sv0.2 c_sv1.2 c_tc.2 q0 q1 q2 q3 q4) all0 (by decide) rfl (argsL := [.ref b226, .int 2]) rfl (lenOf pd34 rfl) (W := 0) rfl (by decide) (by decide) (by decide) at_397 rfl ?_
 intro v229 T229 h229 FX229 U229
 obtain ⟨r_229, qt_229, s_229, sv_229, ks_229, rfl, u229_0, u229_1, u229_2, u229_3, u229_4, u229_5, u229_6, u229_7, u229_8, u229_9, u229_10, u229_11⟩ := U229
 have G229_r : Z.heap.size ≤ r_229 := Nat.le_trans X228.ext0.1 u229_1
 have G229_s : Z.heap.size ≤ s_229 := Nat.le_trans X228.ext0.1 u229_7
 have X229 := FX229 [r_229, s_229] (Or.inl rfl) (allS ⟨u229_1, u229_2.lt⟩ (allS ⟨u229_7, u229_8.lt⟩ all0))
 show oGoes pp ee bb ss Z T229 (mkF mm 400 _ [.ref r_229]) _ _ _ _
 refine tl_lw2 l Z a0 hw i0 i1 i2 i3 i4 sv0 sv1 mode tc 1 1 2 5 2 7 b19 b226 r_229 qt_229 s_229 sv_229 ks_229 6 sv0 sv1 cs h229 u229_2 u229_3 u229_4 u229_5 u229_6 u229_8 u229_9 u229_10 u229_11 mo0 (by decide) rfl rfl c_sv0 c_sv1 (oChN c_sv0) (oChN c_sv1) G229_s q2 q3 (fun v230 h230 U230 => ?_) K (X229.mono (by decide) (by decide) (by decide) (allS me1 all0))
 obtain rfl : v230 = some (.int 1) := U230
 exact rfl
set_option maxRecDepth 65536 in
set_option maxHeartbeats 40000000 in
theorem comes_1 {Post : Tables → Env → Array Value → State → Outcome → State → Prop} (hpost : ∀ tb e args s v u, (limb_1_1.after args s (.returned v) u = true ∧ limb_1_2.after args s (.returned v) u = true ∧ True) → ReturnedEndW s (.returned v) u (Jvm.fieldLocs frame_1_writes args s ++ Jvm.arrayLocs frame_1_arrays args s ++ Jvm.staticLocs frame_1_statics s) 40 1216 → Post tb e args s (.returned v) u) :
    ArmFor flags0 classFile x code maxLocals ret World_1 tables_1 room_1 Calls_1 rest_1 Pre_1 Post := by
  intro l hfl _ _ p e ha hc hk s m args below hf hA hF happ hP
  obtain ⟨hcalls, hrest, hpre⟩ := hP
  obtain ⟨-, -, -, hnamed, -, -, -, hat⟩ := (Spec.applies_iff hf).mp happ
  obtain ⟨hg, hn⟩ := and_e (Cond.before_iff.mp (show (Jvm.Cond.and given_1 narrow_1).before args s = true from hpre))
  obtain ⟨g0, gr0⟩ := and_e hg
  obtain ⟨g1, gr1⟩ := and_e gr0
  obtain ⟨g2, gr2⟩ := and_e gr1
  obtain ⟨g3, gr3⟩ := and_e gr2
  obtain ⟨g4, gr4⟩ := and_e gr3
  obtain ⟨w_0, w_1, w_2, w_3, w_4, rfl⟩ : ∃ w_0 w_1 w_2 w_3 w_4 : Value, args = #[w_0, w_1, w_2, w_3, w_4] := by
    have hs : args.size = 5 := by simpa [Jvm.Cond.value] using g0
    obtain ⟨L⟩ := args
    match L, hs with
    | [w_0, w_1, w_2, w_3, w_4], _ => exact ⟨w_0, w_1, w_2, w_3, w_4, rfl⟩
  have hw : oHw s #[w_0, w_1, w_2, w_3, w_4] := fun d (hd : d ∈ tables_1) => atoms_spec (ws := Jvm.Cond.code x code maxLocals ret :: tables_1) hat d (List.mem_cons_of_mem _ hd)
  have hfit : Fit s := fun {y c} hc i hi => by
    obtain ⟨ha, rfl⟩ := Array.getElem?_eq_some_iff.mp hc
    have q := List.all_eq_true.mp ((Array.all_eq_true_iff_forall_mem.mp hF) _ (Array.getElem_mem ha)) i (List.mem_range.mpr hi)
    simpa [Array.getElem?_eq_getElem hi] using q
  obtain ⟨hsets, hown0⟩ := atoms_of _ (rest_1_c_eq ▸ (show rest_1_c.before _ s = true from hrest))
  obtain ⟨i0, ei0⟩ := isL_v g1
  obtain rfl : w_0 = (.long i0) := Option.some.inj ei0
  obtain ⟨i1, ei1⟩ := is_v g2
  obtain rfl : w_1 = (.int i1) := Option.some.inj ei1
  obtain ⟨i2, ei2⟩ := is_v g3
  obtain rfl : w_2 = (.int i2) := Option.some.inj ei2
  obtain ⟨i3, ei3⟩ := is_v g4
  obtain rfl : w_3 = (.int i3) := Option.some.inj ei3
  obtain ⟨i4, ei4⟩ := is_v gr4
  obtain rfl : w_4 = (.int i4) := Option.some.inj ei4
  obtain ⟨cs, ecs⟩ := is_v (Cond.before_iff.mp (hsets _ (List.mem_of_getElem? (i := 1) rfl)))
  have Scs := Sta.start ecs (Or.inl (hsets _ (List.mem_of_getElem? (i := 0) rfl)))
  have ncs : ¬ (cs = (0 : Int32)) := oNeInt_v ecs (Cond.before_iff.mp (hsets _ (List.mem_of_getElem? (i := 2) rfl)))
  obtain ⟨fm, efm, rfm⟩ := isR_v (Cond.before_iff.mp (hsets _ (List.mem_of_getElem? (i := 8) rfl)))
  have Sfm := Sta.start efm (Or.inl (hsets _ (List.mem_of_getElem? (i := 7) rfl)))
  obtain ⟨em, eem, Xem⟩ := own_exactly (Cond.before_iff.mp (hsets _ (List.mem_of_getElem? (i := 11) rfl)))
  have Sem := Sta.start eem (Or.inl (hsets _ (List.mem_of_getElem? (i := 10) rfl)))
  have nem := null_v (Cond.before_iff.mp (hsets _ (List.mem_of_getElem? (i := 12) rfl)))
  have Fem := Fld.start ((fld_at eem).symm.trans nem)
  have hheld : ∀ q ∈ oEL, Jvm.Lit.constHeld s q.1 q.2 := fun q hq => by
    simp only [oEL, List.mem_cons, List.not_mem_nil, or_false] at hq
    rcases hq with rfl
    · exact hcalls.1 _ (List.mem_of_getElem? (i := 0) rfl)
  have hch : CHv s oEL s.vm s.heap := CHv.start (oEW hw) hheld (hsets _ (List.mem_of_getElem? (i := 2) rfl)) (w20 hw) (w3 hw)
  obtain ⟨n, o, h1, h2, h3, v, L, rfl, ⟨hQ, N, E, hfin⟩, hq⟩ := rm_law l s _ hw i0 i1 i2 i3 i4 fm cs em s.heap Sfm rfm Scs ncs Sem Xem Fem tables_1 ⟨Nat.le_refl _, fun _ _ q => q⟩ p e ha hc hk s m _ below hf ((Spec.applies_iff_loose hf).mp happ).1 ⟨rfl, State.Warmed39.refl s, rfl, hch, fun _ q => nomatch q⟩ trivial
  obtain rfl : v = some (.int 1) := hQ
  refine ⟨n, _, h1, h2, h3, hpost _ _ _ _ _ _ ⟨Cond.after_iff.mpr rfl, Cond.after_iff.mpr (eq_i res_at (Term.int_eval (1)) rfl), trivial⟩ ⟨hq.1, hq.2.1, hq.2.2.1, (hq.2.2.2.sift fun y hy => Or.inr (N y hy)).mono (by decide) (by decide)⟩⟩
theorem main_1_1 : Claimed_1_1 := comes_1 fun _ _ _ _ _ _ h hF => ⟨h.1, hF⟩
theorem main_1_2 : Claimed_1_2 := comes_1 fun _ _ _ _ _ _ h hF => ⟨h.2.1, hF⟩
end Jvm.Pilot.@@N@@
namespace Jvm.Pilot.@@N@@
open Jvm Jvm.ClassFile Sem Op Lib Jvm.Free Jvm.Stand Jvm.Pilot.@@N@@.Jvm.D
/-! MADE BY PROGRAM (witnessworld.py) out of the Statement's table words and the real class files: 29 classes; the members and pool entries that the words name. The judged class is class 1, her method 1. -/
namespace start1
open Jvm.ClassFile
def u (s : String) : CpInfo := .utf8 (stringToUtf16 s)
/-- a pool by its gaps: so many unusable entries, then the entry; so many at the end -/
def gap : Nat → List CpInfo → List CpInfo
  | 0, r => r
  | n + 1, r => .unusable :: gap n r
def poolList (es : List (Nat × CpInfo)) (last : Nat) : List CpInfo := es.foldr (fun e r => gap e.1 (e.2 :: r)) (gap last [])
def pool (es : List (Nat × CpInfo)) (last : Nat) : Array CpInfo := ⟨poolList es last⟩
def fileOf (pool : Array CpInfo) (this : Nat) (attrs : Array Attribute := #[]) (ms : Array MethodInfo := #[]) (fl : Nat := 33) (sup : Nat := 0) (ifs : Array Nat := #[]) (fds : Array FieldInfo := #[]) : ClassFile where
  minorVersion := 0
  majorVersion := 65
  constantPool := pool
  accessFlags := fl
  thisClass := this
  superClass := sup
  interfaces := ifs
  fields := fds
  methods := ms
  attributes := attrs
def plain (name : String) (sup : Option ClassId) : Class where
  name := name
  kind := .ordinary
  loader := none
  accessFlags := 33
  super := sup
  interfaces := #[]
  cf := none
  fields := #[]
  methods := #[]
  instanceTypes := #[]
  staticTypes := #[]
  resolved := #[]
  callSites := []
  init := .initialized
  statics := none
  mirror := none

def pool0 : Array CpInfo := pool [(5, u "<init>"), (0, u "()V"), (1, .class_ 10), (1, u "java/lang/Object")] 113

def k0c0 : Code := { maxStack := 0, maxLocals := 1, code := object_method_1_code, exceptionTable := #[], attributes := #[] }
def k0m0 : Method := { name := "<init>", desc := "()V", sig := { parameters := [], returnType := none }, accessFlags := 1, code := some k0c0 }
/-- java/lang/Object -/
def k0 : Class := { plain "java/lang/Object" none with
  accessFlags := 33
  interfaces := #[]
  cf := some (fileOf pool0 8 #[] #[{ accessFlags := 1, nameIndex := 5, descriptorIndex := 6, attributes := #[] }] 33 0 #[] #[])
  fields := #[]
  methods := #[k0m0]
  instanceTypes := #[]
  staticTypes := #[]
  resolved := Array.replicate 124 none
  statics := none }

def pool1 : Array CpInfo := pool [(2, .class_ 4), (1, u "java/lang/Object"), (0, u "<init>"), (0, u "()V"), (0, .long 255), (1, .class_ 10), (0, u "java/lang/String"), (0, .methodref 9 12), (0, .nameAndType 5 13), (0, u "([C)V"), (0, .methodref 15 16), (0, .class_ 17), (0, .nameAndType 18 19), (0, u "com/example/latticube/latticube/csv/QuotedText"), (0, u "read"), (0, u "(Ljava/lang/String;I)Ljava/util/Optional;"), (0, .methodref 21 22), (0, .class_ 23), (0, .nameAndType 24 25), (0, u "java/util/Optional"), (0, u "isPresent"), (0, u "()Z"), (0, .string 27), (0, u ""), (0, .methodref 9 29), (0, .nameAndType 30 31), (0, u "valueOf"), (0, u "(C)Ljava/lang/String;"), (0, .methodref 21 33), (0, .nameAndType 34 35), (0, u "get"), (0, u "()Ljava/lang/Object;"), (0, .methodref 15 37), (0, .nameAndType 38 39), (0, u "value"), (0, u "()Ljava/lang/String;"), (0, .methodref 9 41), (0, .nameAndType 42 43), (0, u "equals"), (0, u "(Ljava/lang/Object;)Z"), (0, .methodref 15 45), (0, .nameAndType 46 47), (0, u "end"), (0, u "()I"), (0, .class_ 49), (0, u "com/example/latticube/latticube/csv/QuotedTextReadPinLaw"), (2, u "law"), (0, u "(JIIII)Z")] 5

def k1m0 : Method := { name := "<init>", desc := "()V", sig := { parameters := [], returnType := none }, accessFlags := 2, code := none }
def k1c1 : Code := { maxStack := 6, maxLocals := 22, code := code, exceptionTable := #[], attributes := #[] }
def k1m1 : Method := { name := "law", desc := "(JIIII)Z", sig := { parameters := [.long, .int, .int, .int, .int], returnType := some .boolean }, accessFlags := 9, code := some k1c1 }
/-- com/example/latticube/latticube/csv/QuotedTextReadPinLaw -/
def k1 : Class := { plain "com/example/latticube/latticube/csv/QuotedTextReadPinLaw" (some 0) with
  accessFlags := 49
  interfaces := #[]
  cf := some (fileOf pool1 48 #[] #[{ accessFlags := 2, nameIndex := 5, descriptorIndex := 6, attributes := #[] }, { accessFlags := 9, nameIndex := 52, descriptorIndex := 53, attributes := #[] }] 49 2 #[] #[])
  fields := #[]
  methods := #[k1m0, k1m1]
  instanceTypes := #[]
  staticTypes := #[]
  resolved := Array.replicate 59 none
  statics := none }

def pool2 : Array CpInfo := pool [(1, .class_ 2), (0, u "java/io/Serializable"), (0, .class_ 4), (0, u "java/lang/Object")] 2

/-- java/io/Serializable -/
def k2 : Class := { plain "java/io/Serializable" (some 0) with
  accessFlags := 1537
  interfaces := #[]
  cf := some (fileOf pool2 1 #[] #[] 1537 3 #[] #[])
  fields := #[]
  methods := #[]
  instanceTypes := #[]
  staticTypes := #[]
  resolved := Array.replicate 7 none
  statics := none }

def pool3 : Array CpInfo := pool [(1, .class_ 2), (0, u "java/lang/Comparable"), (0, .class_ 4), (0, u "java/lang/Object")] 7

/-- java/lang/Comparable -/
def k3 : Class := { plain "java/lang/Comparable" (some 0) with
  accessFlags := 1537
  interfaces := #[]
  cf := some (fileOf pool3 1 #[] #[] 1537 3 #[] #[])
  fields := #[]
  methods := #[]
  instanceTypes := #[]
  staticTypes := #[]
  resolved := Array.replicate 12 none
  statics := none }

def pool4 : Array CpInfo := pool [(2, .class_ 4), (1, u "java/lang/CharSequence"), (42, .class_ 48), (0, u "java/lang/CharSequence$1CodePointIterator"), (10, .class_ 60), (0, u "java/lang/CharSequence$1CharIterator"), (5, .class_ 67), (0, u "java/lang/Object")] 63

/-- java/lang/CharSequence -/
def k4 : Class := { plain "java/lang/CharSequence" (some 0) with
  accessFlags := 1537
  interfaces := #[]
  cf := some (fileOf pool4 2 #[.nestMembers #[47, 59]] #[] 1537 66 #[] #[])
  fields := #[]
  methods := #[]
  instanceTypes := #[]
  staticTypes := #[]
  resolved := Array.replicate 131 none
  statics := none }

def pool5 : Array CpInfo := pool [(1, .class_ 2), (0, u "java/lang/constant/Constable"), (0, .class_ 4), (0, u "java/lang/Object")] 6

/-- java/lang/constant/Constable -/
def k5 : Class := { plain "java/lang/constant/Constable" (some 0) with
  accessFlags := 1537
  interfaces := #[]
  cf := some (fileOf pool5 1 #[] #[] 1537 3 #[] #[])
  fields := #[]
  methods := #[]
  instanceTypes := #[]
  staticTypes := #[]
  resolved := Array.replicate 11 none
  statics := none }

def pool6 : Array CpInfo := pool [(1, .class_ 2), (0, u "java/lang/constant/ConstantDesc"), (0, .class_ 4), (0, u "java/lang/Object")] 32

/-- java/lang/constant/ConstantDesc -/
def k6 : Class := { plain "java/lang/constant/ConstantDesc" (some 0) with
  accessFlags := 1537
  interfaces := #[]
  cf := some (fileOf pool6 1 #[] #[] 1537 3 #[] #[])
  fields := #[]
  methods := #[]
  instanceTypes := #[]
  staticTypes := #[]
  resolved := Array.replicate 37 none
  statics := none }

def pool7 : Array CpInfo := pool [(1, .methodref 2 3), (0, .class_ 4), (0, .nameAndType 5 6), (0, u "java/lang/Object"), (0, u "<init>"), (0, u "()V"), (2, .fieldref 10 11), (0, .class_ 12), (0, .nameAndType 13 14), (0, u "java/lang/String"), (0, u "value"), (0, u "[B"), (0, .fieldref 10 16), (0, .nameAndType 17 18), (0, u "coder"), (0, u "B"), (2, u "hash"), (0, u "I"), (2, u "hashIsZero"), (0, u "Z"), (0, .methodref 10 28), (0, .nameAndType 5 29), (0, u "([CIILjava/lang/Void;)V"), (8, .fieldref 10 39), (0, .nameAndType 40 26), (0, u "COMPACT_STRINGS"), (1, .class_ 44), (1, u "java/lang/StringUTF16"), (0, u "compress"), (1, .methodref 42 48), (0, .nameAndType 49 50), (0, u "coderFromArrayLen"), (0, u "([BI)B"), (2, u "toBytes"), (0, .methodref 55 56), (0, .class_ 57), (0, .nameAndType 58 59), (0, u "java/util/Arrays"), (0, u "copyOfRange"), (0, u "([BII)[B"), (47, .class_ 109), (1, u "java/lang/StringLatin1"), (32, u "()Z"), (34, .methodref 42 178), (0, .nameAndType 45 179), (0, u "([CII)[B"), (29, .methodref 10 210), (0, .nameAndType 5 211), (0, u "([BB)V"), (122, u "()I"), (0, .methodref 10 336), (0, .nameAndType 17 337), (0, u "()B"), (2, u "()[B"), (22, u "([BI)C"), (5, u "(C)Z"), (21, u "(II)V"), (35, u "(I)C"), (61, .methodref 10 490), (0, .nameAndType 5 491), (0, u "(Ljava/lang/AbstractStringBuilder;Ljava/lang/Void;)V"), (0, .methodref 10 493), (0, .nameAndType 494 142), (0, u "isLatin1"), (0, .methodref 107 496), (0, .nameAndType 497 363), (0, u "charAt"), (3, u "checkIndex"), (4, .nameAndType 507 334), (0, u "length"), (33, .methodref 107 542), (0, .nameAndType 543 544), (0, u "equals"), (0, u "([B[B)Z"), (4, .methodref 550 506), (0, .class_ 551), (0, u "java/lang/AbstractStringBuilder"), (0, .methodref 550 553), (0, .nameAndType 554 340), (0, u "getValue"), (18, u "(Ljava/lang/Object;)Z"), (1, .class_ 576), (0, u "java/lang/CharSequence"), (22, u "CASE_INSENSITIVE_ORDER"), (0, u "Ljava/util/Comparator;"), (181, u "valueOf"), (0, u "(C)Ljava/lang/String;"), (226, u "([C)V"), (4, .methodref 107 1016), (0, .nameAndType 1017 369), (0, u "canEncode"), (0, .methodref 107 1019), (0, .nameAndType 53 1020), (0, u "(C)[B"), (26, .methodref 550 493), (5, .fieldref 1054 1055), (0, .class_ 1056), (0, .nameAndType 1057 1058), (0, u "jdk/internal/util/Preconditions"), (0, u "SIOOBE_FORMATTER"), (0, u "Ljava/util/function/BiFunction;"), (0, .methodref 1054 1060), (0, .nameAndType 501 1061), (0, u "(IILjava/util/function/BiFunction;)I"), (39, u "serialPersistentFields"), (0, u "[Ljava/io/ObjectStreamField;"), (0, .class_ 1104), (0, u "java/lang/String$CaseInsensitiveComparator"), (1, .class_ 1107), (0, u "java/io/Serializable"), (0, .class_ 1109), (0, u "java/lang/Comparable"), (0, .class_ 1111), (0, u "java/lang/constant/Constable"), (0, .class_ 1113), (0, u "java/lang/constant/ConstantDesc"), (2, u "serialVersionUID"), (0, u "J"), (3, u "REPL"), (0, u "C"), (2, u "LATIN1"), (1, u "UTF16"), (105, u "(Ljava/lang/StringBuilder;)V")] 217

def k7m0 : Method := { name := "<init>", desc := "()V", sig := { parameters := [], returnType := none }, accessFlags := 1, code := none }
def k7c1 : Code := { maxStack := 5, maxLocals := 2, code := jdk_42_method_3_code, exceptionTable := #[], attributes := #[] }
def k7m1 : Method := { name := "<init>", desc := "([C)V", sig := { parameters := [(.array .char)], returnType := none }, accessFlags := 1, code := some k7c1 }
def k7c2 : Code := { maxStack := 3, maxLocals := 2, code := jdk_42_method_53_code, exceptionTable := #[], attributes := #[] }
def k7m2 : Method := { name := "<init>", desc := "(Ljava/lang/StringBuilder;)V", sig := { parameters := [(.object "java/lang/StringBuilder")], returnType := none }, accessFlags := 1, code := some k7c2 }
def k7c3 : Code := { maxStack := 2, maxLocals := 1, code := jdk_42_method_54_code, exceptionTable := #[], attributes := #[] }
def k7m3 : Method := { name := "length", desc := "()I", sig := { parameters := [], returnType := some .int }, accessFlags := 1, code := some k7c3 }
def k7c4 : Code := { maxStack := 2, maxLocals := 2, code := jdk_42_method_56_code, exceptionTable := #[], attributes := #[] }
def k7m4 : Method := { name := "charAt", desc := "(I)C", sig := { parameters := [.int], returnType := some .char }, accessFlags := 1, code := some k7c4 }
def k7c5 : Code := { maxStack := 2, maxLocals := 3, code := jdk_42_method_66_code, exceptionTable := #[], attributes := #[] }
def k7m5 : Method := { name := "equals", desc := "(Ljava/lang/Object;)Z", sig := { parameters := [(.object "java/lang/Object")], returnType := some .boolean }, accessFlags := 1, code := some k7c5 }
def k7c6 : Code := { maxStack := 4, maxLocals := 1, code := jdk_42_method_139_code, exceptionTable := #[], attributes := #[] }
def k7m6 : Method := { name := "valueOf", desc := "(C)Ljava/lang/String;", sig := { parameters := [.char], returnType := some (.object "java/lang/String") }, accessFlags := 9, code := some k7c6 }
def k7c7 : Code := { maxStack := 4, maxLocals := 6, code := jdk_42_method_149_code, exceptionTable := #[], attributes := #[] }
def k7m7 : Method := { name := "<init>", desc := "([CIILjava/lang/Void;)V", sig := { parameters := [(.array .char), .int, .int, (.object "java/lang/Void")], returnType := none }, accessFlags := 2, code := some k7c7 }
def k7c8 : Code := { maxStack := 5, maxLocals := 5, code := jdk_42_method_150_code, exceptionTable := #[], attributes := #[] }
def k7m8 : Method := { name := "<init>", desc := "(Ljava/lang/AbstractStringBuilder;Ljava/lang/Void;)V", sig := { parameters := [(.object "java/lang/AbstractStringBuilder"), (.object "java/lang/Void")], returnType := none }, accessFlags := 0, code := some k7c8 }
def k7c9 : Code := { maxStack := 2, maxLocals := 3, code := jdk_42_method_151_code, exceptionTable := #[], attributes := #[] }
def k7m9 : Method := { name := "<init>", desc := "([BB)V", sig := { parameters := [(.array .byte), .byte], returnType := none }, accessFlags := 0, code := some k7c9 }
def k7c10 : Code := { maxStack := 1, maxLocals := 1, code := jdk_42_method_152_code, exceptionTable := #[], attributes := #[] }
def k7m10 : Method := { name := "coder", desc := "()B", sig := { parameters := [], returnType := some .byte }, accessFlags := 0, code := some k7c10 }
def k7c11 : Code := { maxStack := 1, maxLocals := 1, code := jdk_42_method_154_code, exceptionTable := #[], attributes := #[] }
def k7m11 : Method := { name := "isLatin1", desc := "()Z", sig := { parameters := [], returnType := some .boolean }, accessFlags := 0, code := some k7c11 }
def k7c12 : Code := { maxStack := 3, maxLocals := 2, code := jdk_42_method_155_code, exceptionTable := #[], attributes := #[] }
def k7m12 : Method := { name := "checkIndex", desc := "(II)V", sig := { parameters := [.int, .int], returnType := none }, accessFlags := 8, code := some k7c12 }
/-- java/lang/String -/
def k7 : Class := { plain "java/lang/String" (some 0) with
  accessFlags := 49
  interfaces := #[2, 3, 4, 5, 6]
  cf := some (fileOf pool7 10 #[.nestMembers #[1103]] #[{ accessFlags := 1, nameIndex := 5, descriptorIndex := 6, attributes := #[] }, { accessFlags := 1, nameIndex := 5, descriptorIndex := 1010, attributes := #[] }, { accessFlags := 1, nameIndex := 5, descriptorIndex := 1233, attributes := #[] }, { accessFlags := 1, nameIndex := 507, descriptorIndex := 334, attributes := #[] }, { accessFlags := 1, nameIndex := 497, descriptorIndex := 427, attributes := #[] }, { accessFlags := 1, nameIndex := 543, descriptorIndex := 573, attributes := #[] }, { accessFlags := 9, nameIndex := 782, descriptorIndex := 783, attributes := #[] }, { accessFlags := 2, nameIndex := 5, descriptorIndex := 29, attributes := #[] }, { accessFlags := 0, nameIndex := 5, descriptorIndex := 491, attributes := #[] }, { accessFlags := 0, nameIndex := 5, descriptorIndex := 211, attributes := #[] }, { accessFlags := 0, nameIndex := 17, descriptorIndex := 337, attributes := #[] }, { accessFlags := 0, nameIndex := 494, descriptorIndex := 142, attributes := #[] }, { accessFlags := 8, nameIndex := 501, descriptorIndex := 391, attributes := #[] }] 49 2 #[1106, 1108, 575, 1110, 1112] #[{ accessFlags := 18, nameIndex := 13, descriptorIndex := 14, attributes := #[] }, { accessFlags := 18, nameIndex := 17, descriptorIndex := 18, attributes := #[] }, { accessFlags := 2, nameIndex := 21, descriptorIndex := 22, attributes := #[] }, { accessFlags := 2, nameIndex := 25, descriptorIndex := 26, attributes := #[] }, { accessFlags := 26, nameIndex := 1116, descriptorIndex := 1117, attributes := #[] }, { accessFlags := 24, nameIndex := 40, descriptorIndex := 26, attributes := #[] }, { accessFlags := 26, nameIndex := 1101, descriptorIndex := 1102, attributes := #[] }, { accessFlags := 26, nameIndex := 1121, descriptorIndex := 1122, attributes := #[] }, { accessFlags := 25, nameIndex := 599, descriptorIndex := 600, attributes := #[] }, { accessFlags := 24, nameIndex := 1125, descriptorIndex := 18, attributes := #[] }, { accessFlags := 24, nameIndex := 1127, descriptorIndex := 18, attributes := #[] }])
  fields := #[{ name := "value", type := (.array .byte), accessFlags := 18, slot := 0, constantValue := 0 }, { name := "coder", type := .byte, accessFlags := 18, slot := 1, constantValue := 0 }, { name := "hash", type := .int, accessFlags := 2, slot := 2, constantValue := 0 }, { name := "hashIsZero", type := .boolean, accessFlags := 2, slot := 3, constantValue := 0 }, { name := "serialVersionUID", type := .long, accessFlags := 26, slot := 0, constantValue := 0 }, { name := "COMPACT_STRINGS", type := .boolean, accessFlags := 24, slot := 1, constantValue := 0 }, { name := "serialPersistentFields", type := (.array (.object "java/io/ObjectStreamField")), accessFlags := 26, slot := 2, constantValue := 0 }, { name := "REPL", type := .char, accessFlags := 26, slot := 3, constantValue := 0 }, { name := "CASE_INSENSITIVE_ORDER", type := (.object "java/util/Comparator"), accessFlags := 25, slot := 4, constantValue := 0 }, { name := "LATIN1", type := .byte, accessFlags := 24, slot := 5, constantValue := 0 }, { name := "UTF16", type := .byte, accessFlags := 24, slot := 6, constantValue := 0 }]
  methods := #[k7m0, k7m1, k7m2, k7m3, k7m4, k7m5, k7m6, k7m7, k7m8, k7m9, k7m10, k7m11, k7m12]
  instanceTypes := #[(.array .byte), .byte, .int, .boolean]
  staticTypes := #[.long, .boolean, (.array (.object "java/io/ObjectStreamField")), .char, (.object "java/util/Comparator"), .byte, .byte]
  resolved := Array.replicate 1451 none
  statics := some 0 }

def pool8 : Array CpInfo := pool [(6, .class_ 8), (1, u "java/lang/Object"), (0, u "<init>"), (0, u "()V"), (1, .class_ 14), (1, u "java/lang/StringUTF16"), (31, u "$assertionsDisabled"), (0, u "Z"), (13, u "HI_BYTE_SHIFT"), (0, u "I"), (2, u "LO_BYTE_SHIFT"), (49, .methodref 12 116), (0, .nameAndType 117 118), (0, u "compress"), (0, u "([CI[BII)I"), (3, u "([CII)[B"), (138, u "coderFromArrayLen"), (0, u "([BI)B"), (106, .class_ 371), (1, u "java/lang/StringUTF16$LinesSpliterator"), (58, u "MAX_LENGTH"), (196, .class_ 628), (0, u "java/lang/StringUTF16$CodePointsSpliterator"), (0, .class_ 630), (0, u "java/lang/StringUTF16$CharsSpliterator")] 4

def k8m0 : Method := { name := "<init>", desc := "()V", sig := { parameters := [], returnType := none }, accessFlags := 0, code := none }
def k8c1 : Code := { maxStack := 2, maxLocals := 2, code := jdk_52_method_15_code, exceptionTable := #[], attributes := #[] }
def k8m1 : Method := { name := "coderFromArrayLen", desc := "([BI)B", sig := { parameters := [(.array .byte), .int], returnType := some .byte }, accessFlags := 8, code := some k8c1 }
def k8c2 : Code := { maxStack := 5, maxLocals := 6, code := jdk_52_method_16_code, exceptionTable := #[], attributes := #[] }
def k8m2 : Method := { name := "compress", desc := "([CII)[B", sig := { parameters := [(.array .char), .int, .int], returnType := some (.array .byte) }, accessFlags := 9, code := some k8c2 }
def k8c3 : Code := { maxStack := 3, maxLocals := 7, code := jdk_52_method_21_code, exceptionTable := #[], attributes := #[] }
def k8m3 : Method := { name := "compress", desc := "([CI[BII)I", sig := { parameters := [(.array .char), .int, (.array .byte), .int, .int], returnType := some .int }, accessFlags := 9, code := some k8c3 }
/-- java/lang/StringUTF16 -/
def k8 : Class := { plain "java/lang/StringUTF16" (some 0) with
  accessFlags := 48
  interfaces := #[]
  cf := some (fileOf pool8 12 #[.nestMembers #[627, 629, 369]] #[{ accessFlags := 0, nameIndex := 9, descriptorIndex := 10, attributes := #[] }, { accessFlags := 8, nameIndex := 261, descriptorIndex := 262, attributes := #[] }, { accessFlags := 9, nameIndex := 117, descriptorIndex := 122, attributes := #[] }, { accessFlags := 9, nameIndex := 117, descriptorIndex := 118, attributes := #[] }] 48 6 #[] #[{ accessFlags := 26, nameIndex := 61, descriptorIndex := 62, attributes := #[] }, { accessFlags := 26, nameIndex := 65, descriptorIndex := 62, attributes := #[] }, { accessFlags := 24, nameIndex := 430, descriptorIndex := 62, attributes := #[] }, { accessFlags := 4120, nameIndex := 46, descriptorIndex := 47, attributes := #[] }])
  fields := #[{ name := "HI_BYTE_SHIFT", type := .int, accessFlags := 26, slot := 0, constantValue := 0 }, { name := "LO_BYTE_SHIFT", type := .int, accessFlags := 26, slot := 1, constantValue := 0 }, { name := "MAX_LENGTH", type := .int, accessFlags := 24, slot := 2, constantValue := 0 }, { name := "$assertionsDisabled", type := .boolean, accessFlags := 4120, slot := 3, constantValue := 0 }]
  methods := #[k8m0, k8m1, k8m2, k8m3]
  instanceTypes := #[]
  staticTypes := #[.int, .int, .int, .boolean]
  resolved := Array.replicate 635 none
  statics := none }

def pool9 : Array CpInfo := pool [(1, .methodref 2 3), (0, .class_ 4), (0, .nameAndType 5 6), (0, u "java/lang/Object"), (0, u "<init>"), (0, u "()V"), (0, .class_ 8), (0, u "java/lang/Record")] 13

def k9c0 : Code := { maxStack := 1, maxLocals := 1, code := jdk_30_method_1_code, exceptionTable := #[], attributes := #[] }
def k9m0 : Method := { name := "<init>", desc := "()V", sig := { parameters := [], returnType := none }, accessFlags := 4, code := some k9c0 }
/-- java/lang/Record -/
def k9 : Class := { plain "java/lang/Record" (some 0) with
  accessFlags := 1057
  interfaces := #[]
  cf := some (fileOf pool9 7 #[] #[{ accessFlags := 4, nameIndex := 5, descriptorIndex := 6, attributes := #[] }] 1057 2 #[] #[])
  fields := #[]
  methods := #[k9m0]
  instanceTypes := #[]
  staticTypes := #[]
  resolved := Array.replicate 22 none
  statics := none }

def pool10 : Array CpInfo := pool [(1, .methodref 2 3), (0, .class_ 4), (0, .nameAndType 5 6), (0, u "java/lang/Record"), (0, u "<init>"), (0, u "()V"), (0, .fieldref 8 9), (0, .class_ 10), (0, .nameAndType 11 12), (0, u "com/example/latticube/latticube/csv/QuotedText"), (0, u "value"), (0, u "Ljava/lang/String;"), (0, .fieldref 8 14), (0, .nameAndType 15 16), (0, u "end"), (0, u "I"), (0, .class_ 18), (0, u "java/lang/StringBuilder"), (0, .methodref 17 3), (0, .methodref 21 22), (0, .class_ 23), (0, .nameAndType 24 25), (0, u "java/lang/String"), (0, u "length"), (0, u "()I"), (0, .methodref 21 27), (0, .nameAndType 28 29), (0, u "charAt"), (0, u "(I)C"), (0, .methodref 17 31), (0, .nameAndType 32 33), (0, u "append"), (0, u "(C)Ljava/lang/StringBuilder;"), (0, .methodref 17 35), (0, .nameAndType 36 37), (0, u "toString"), (0, u "()Ljava/lang/String;"), (0, .methodref 8 39), (0, .nameAndType 5 40), (0, u "(Ljava/lang/String;I)V"), (0, .methodref 42 43), (0, .class_ 44), (0, .nameAndType 45 46), (0, u "java/util/Optional"), (0, u "of"), (0, u "(Ljava/lang/Object;)Ljava/util/Optional;"), (0, .methodref 42 48), (0, .nameAndType 49 50), (0, u "empty"), (0, u "()Ljava/util/Optional;"), (11, u "QUOTE"), (0, u "C"), (5, u "read"), (0, u "(Ljava/lang/String;I)Ljava/util/Optional;")] 25

def k10c0 : Code := { maxStack := 2, maxLocals := 3, code := prog_30_method_1_code, exceptionTable := #[], attributes := #[] }
def k10m0 : Method := { name := "<init>", desc := "(Ljava/lang/String;I)V", sig := { parameters := [(.object "java/lang/String"), .int], returnType := none }, accessFlags := 1, code := some k10c0 }
def k10c1 : Code := { maxStack := 5, maxLocals := 5, code := prog_30_method_2_code, exceptionTable := #[], attributes := #[] }
def k10m1 : Method := { name := "read", desc := "(Ljava/lang/String;I)Ljava/util/Optional;", sig := { parameters := [(.object "java/lang/String"), .int], returnType := some (.object "java/util/Optional") }, accessFlags := 9, code := some k10c1 }
def k10c2 : Code := { maxStack := 1, maxLocals := 1, code := prog_30_method_6_code, exceptionTable := #[], attributes := #[] }
def k10m2 : Method := { name := "value", desc := "()Ljava/lang/String;", sig := { parameters := [], returnType := some (.object "java/lang/String") }, accessFlags := 1, code := some k10c2 }
def k10c3 : Code := { maxStack := 1, maxLocals := 1, code := prog_30_method_7_code, exceptionTable := #[], attributes := #[] }
def k10m3 : Method := { name := "end", desc := "()I", sig := { parameters := [], returnType := some .int }, accessFlags := 1, code := some k10c3 }
/-- com/example/latticube/latticube/csv/QuotedText -/
def k10 : Class := { plain "com/example/latticube/latticube/csv/QuotedText" (some 9) with
  accessFlags := 49
  interfaces := #[]
  cf := some (fileOf pool10 8 #[] #[{ accessFlags := 1, nameIndex := 5, descriptorIndex := 40, attributes := #[] }, { accessFlags := 9, nameIndex := 69, descriptorIndex := 70, attributes := #[] }, { accessFlags := 1, nameIndex := 11, descriptorIndex := 37, attributes := #[] }, { accessFlags := 1, nameIndex := 15, descriptorIndex := 25, attributes := #[] }] 49 2 #[] #[{ accessFlags := 18, nameIndex := 11, descriptorIndex := 12, attributes := #[] }, { accessFlags := 18, nameIndex := 15, descriptorIndex := 16, attributes := #[] }, { accessFlags := 26, nameIndex := 62, descriptorIndex := 63, attributes := #[] }])
  fields := #[{ name := "value", type := (.object "java/lang/String"), accessFlags := 18, slot := 0, constantValue := 0 }, { name := "end", type := .int, accessFlags := 18, slot := 1, constantValue := 0 }, { name := "QUOTE", type := .char, accessFlags := 26, slot := 0, constantValue := 0 }]
  methods := #[k10m0, k10m1, k10m2, k10m3]
  instanceTypes := #[(.object "java/lang/String"), .int]
  staticTypes := #[.char]
  resolved := Array.replicate 96 none
  statics := none }

def pool11 : Array CpInfo := pool [(1, .class_ 2), (0, u "java/lang/Appendable"), (0, .class_ 4), (0, u "java/lang/Object")] 9

/-- java/lang/Appendable -/
def k11 : Class := { plain "java/lang/Appendable" (some 0) with
  accessFlags := 1537
  interfaces := #[]
  cf := some (fileOf pool11 1 #[] #[] 1537 3 #[] #[])
  fields := #[]
  methods := #[]
  instanceTypes := #[]
  staticTypes := #[]
  resolved := Array.replicate 14 none
  statics := none }

def pool12 : Array CpInfo := pool [(1, .class_ 2), (0, u "java/lang/String"), (0, .methodref 4 5), (0, .class_ 6), (0, .nameAndType 7 8), (0, u "java/lang/Object"), (0, u "<init>"), (0, u "()V"), (1, .class_ 12), (1, u "java/lang/AbstractStringBuilder"), (0, u "EMPTYVALUE"), (0, u "[B"), (0, .fieldref 10 16), (0, .nameAndType 17 14), (0, u "value"), (0, .fieldref 1 19), (0, .nameAndType 20 21), (0, u "COMPACT_STRINGS"), (0, u "Z"), (0, .fieldref 10 23), (0, .nameAndType 24 25), (0, u "coder"), (0, u "B"), (8, u "length"), (0, u "()I"), (9, u "append"), (2, .class_ 49), (0, u "java/lang/CharSequence"), (25, u "maybeLatin1"), (3, .fieldref 10 80), (0, .nameAndType 81 82), (0, u "count"), (0, u "I"), (0, .methodref 10 84), (0, .nameAndType 85 86), (0, u "isLatin1"), (0, u "()Z"), (1, .class_ 90), (1, u "java/lang/StringLatin1"), (9, .methodref 10 101), (0, .nameAndType 102 103), (0, u "ensureCapacityInternal"), (0, u "(I)V"), (87, .methodref 88 192), (0, .nameAndType 193 194), (0, u "canEncode"), (0, u "(C)Z"), (97, u "(C)Ljava/lang/AbstractStringBuilder;"), (110, u "()[B"), (40, .class_ 445), (0, u "java/lang/Appendable"), (106, u "getValue")] 56

def k12m0 : Method := { name := "<init>", desc := "()V", sig := { parameters := [], returnType := none }, accessFlags := 0, code := none }
def k12c1 : Code := { maxStack := 2, maxLocals := 2, code := jdk_68_method_2_code, exceptionTable := #[], attributes := #[] }
def k12m1 : Method := { name := "<init>", desc := "(I)V", sig := { parameters := [.int], returnType := none }, accessFlags := 0, code := some k12c1 }
def k12c2 : Code := { maxStack := 1, maxLocals := 1, code := jdk_68_method_6_code, exceptionTable := #[], attributes := #[] }
def k12m2 : Method := { name := "length", desc := "()I", sig := { parameters := [], returnType := some .int }, accessFlags := 1, code := some k12c2 }
def k12c3 : Code := { maxStack := 4, maxLocals := 3, code := jdk_68_method_9_code, exceptionTable := #[], attributes := #[] }
def k12m3 : Method := { name := "ensureCapacityInternal", desc := "(I)V", sig := { parameters := [.int], returnType := none }, accessFlags := 2, code := some k12c3 }
def k12c4 : Code := { maxStack := 5, maxLocals := 2, code := jdk_68_method_31_code, exceptionTable := #[], attributes := #[] }
def k12m4 : Method := { name := "append", desc := "(C)Ljava/lang/AbstractStringBuilder;", sig := { parameters := [.char], returnType := some (.object "java/lang/AbstractStringBuilder") }, accessFlags := 1, code := some k12c4 }
def k12c5 : Code := { maxStack := 1, maxLocals := 1, code := jdk_68_method_64_code, exceptionTable := #[], attributes := #[] }
def k12m5 : Method := { name := "getValue", desc := "()[B", sig := { parameters := [], returnType := some (.array .byte) }, accessFlags := 16, code := some k12c5 }
def k12c6 : Code := { maxStack := 1, maxLocals := 1, code := jdk_68_method_68_code, exceptionTable := #[], attributes := #[] }
def k12m6 : Method := { name := "isLatin1", desc := "()Z", sig := { parameters := [], returnType := some .boolean }, accessFlags := 16, code := some k12c6 }
/-- java/lang/AbstractStringBuilder -/
def k12 : Class := { plain "java/lang/AbstractStringBuilder" (some 0) with
  accessFlags := 1056
  interfaces := #[11, 4]
  cf := some (fileOf pool12 10 #[] #[{ accessFlags := 0, nameIndex := 7, descriptorIndex := 8, attributes := #[] }, { accessFlags := 0, nameIndex := 7, descriptorIndex := 103, attributes := #[] }, { accessFlags := 1, nameIndex := 34, descriptorIndex := 35, attributes := #[] }, { accessFlags := 2, nameIndex := 102, descriptorIndex := 103, attributes := #[] }, { accessFlags := 1, nameIndex := 45, descriptorIndex := 292, attributes := #[] }, { accessFlags := 16, nameIndex := 552, descriptorIndex := 403, attributes := #[] }, { accessFlags := 16, nameIndex := 85, descriptorIndex := 86, attributes := #[] }] 1056 4 #[444, 48] #[{ accessFlags := 0, nameIndex := 17, descriptorIndex := 14, attributes := #[] }, { accessFlags := 0, nameIndex := 24, descriptorIndex := 25, attributes := #[] }, { accessFlags := 0, nameIndex := 75, descriptorIndex := 21, attributes := #[] }, { accessFlags := 0, nameIndex := 81, descriptorIndex := 82, attributes := #[] }, { accessFlags := 26, nameIndex := 13, descriptorIndex := 14, attributes := #[] }])
  fields := #[{ name := "value", type := (.array .byte), accessFlags := 0, slot := 0, constantValue := 0 }, { name := "coder", type := .byte, accessFlags := 0, slot := 1, constantValue := 0 }, { name := "maybeLatin1", type := .boolean, accessFlags := 0, slot := 2, constantValue := 0 }, { name := "count", type := .int, accessFlags := 0, slot := 3, constantValue := 0 }, { name := "EMPTYVALUE", type := (.array .byte), accessFlags := 26, slot := 0, constantValue := 0 }]
  methods := #[k12m0, k12m1, k12m2, k12m3, k12m4, k12m5, k12m6]
  instanceTypes := #[(.array .byte), .byte, .boolean, .int]
  staticTypes := #[(.array .byte)]
  resolved := Array.replicate 609 none
  statics := none }

def pool13 : Array CpInfo := pool [(1, .methodref 2 3), (0, .class_ 4), (0, .nameAndType 5 6), (0, u "java/lang/AbstractStringBuilder"), (0, u "<init>"), (0, u "(I)V"), (11, .class_ 20), (1, u "java/lang/String"), (3, .class_ 26), (1, u "java/lang/StringBuilder"), (0, u "append"), (22, .methodref 2 51), (0, .nameAndType 27 52), (0, u "(C)Ljava/lang/AbstractStringBuilder;"), (84, .methodref 18 138), (0, .nameAndType 5 139), (0, u "(Ljava/lang/StringBuilder;)V"), (5, u "()V"), (10, u "()I"), (129, u "(C)Ljava/lang/StringBuilder;"), (56, .methodref 2 344), (0, .nameAndType 345 156), (0, u "length"), (3, .class_ 350), (0, u "java/lang/Appendable"), (0, .class_ 352), (0, u "java/io/Serializable"), (0, .class_ 354), (0, u "java/lang/Comparable"), (0, .class_ 356), (0, u "java/lang/CharSequence"), (0, u "serialVersionUID"), (0, u "J"), (40, u "toString"), (0, u "()Ljava/lang/String;")] 21

def k13c0 : Code := { maxStack := 2, maxLocals := 1, code := jdk_67_method_1_code, exceptionTable := #[], attributes := #[] }
def k13m0 : Method := { name := "<init>", desc := "()V", sig := { parameters := [], returnType := none }, accessFlags := 1, code := some k13c0 }
def k13c1 : Code := { maxStack := 2, maxLocals := 2, code := jdk_67_method_14_code, exceptionTable := #[], attributes := #[] }
def k13m1 : Method := { name := "append", desc := "(C)Ljava/lang/StringBuilder;", sig := { parameters := [.char], returnType := some (.object "java/lang/StringBuilder") }, accessFlags := 1, code := some k13c1 }
def k13c2 : Code := { maxStack := 3, maxLocals := 1, code := jdk_67_method_42_code, exceptionTable := #[], attributes := #[] }
def k13m2 : Method := { name := "toString", desc := "()Ljava/lang/String;", sig := { parameters := [], returnType := some (.object "java/lang/String") }, accessFlags := 1, code := some k13c2 }
def k13c3 : Code := { maxStack := 1, maxLocals := 1, code := jdk_67_method_93_code, exceptionTable := #[], attributes := #[] }
def k13m3 : Method := { name := "length", desc := "()I", sig := { parameters := [], returnType := some .int }, accessFlags := 4161, code := some k13c3 }
/-- java/lang/StringBuilder -/
def k13 : Class := { plain "java/lang/StringBuilder" (some 12) with
  accessFlags := 49
  interfaces := #[11, 2, 3, 4]
  cf := some (fileOf pool13 24 #[] #[{ accessFlags := 1, nameIndex := 5, descriptorIndex := 145, attributes := #[] }, { accessFlags := 1, nameIndex := 27, descriptorIndex := 286, attributes := #[] }, { accessFlags := 1, nameIndex := 399, descriptorIndex := 400, attributes := #[] }, { accessFlags := 4161, nameIndex := 345, descriptorIndex := 156, attributes := #[] }] 49 2 #[349, 351, 353, 355] #[{ accessFlags := 24, nameIndex := 357, descriptorIndex := 358, attributes := #[] }])
  fields := #[{ name := "serialVersionUID", type := .long, accessFlags := 24, slot := 0, constantValue := 0 }]
  methods := #[k13m0, k13m1, k13m2, k13m3]
  instanceTypes := #[(.array .byte), .byte, .boolean, .int]
  staticTypes := #[.long]
  resolved := Array.replicate 422 none
  statics := none }

def pool14 : Array CpInfo := pool [(1, .fieldref 2 3), (0, .class_ 4), (0, .nameAndType 5 6), (0, u "java/util/Optional"), (0, u "EMPTY"), (0, u "Ljava/util/Optional;"), (0, .methodref 8 9), (0, .class_ 10), (0, .nameAndType 11 12), (0, u "java/lang/Object"), (0, u "<init>"), (0, u "()V"), (0, .fieldref 2 14), (0, .nameAndType 15 16), (0, u "value"), (0, u "Ljava/lang/Object;"), (0, .methodref 18 19), (0, .class_ 20), (0, .nameAndType 21 22), (0, u "java/util/Objects"), (0, u "requireNonNull"), (0, u "(Ljava/lang/Object;)Ljava/lang/Object;"), (0, .methodref 2 24), (0, .nameAndType 11 25), (0, u "(Ljava/lang/Object;)V"), (20, u "()Z"), (8, u "empty"), (0, u "()Ljava/util/Optional;"), (8, u "(Ljava/lang/Object;)Ljava/util/Optional;"), (2, u "isPresent"), (4, u "get"), (0, u "()Ljava/lang/Object;"), (7, u "of")] 104

def k14c0 : Code := { maxStack := 1, maxLocals := 1, code := jdk_32_method_1_code, exceptionTable := #[], attributes := #[] }
def k14m0 : Method := { name := "empty", desc := "()Ljava/util/Optional;", sig := { parameters := [], returnType := some (.object "java/util/Optional") }, accessFlags := 9, code := some k14c0 }
def k14c1 : Code := { maxStack := 2, maxLocals := 2, code := jdk_32_method_2_code, exceptionTable := #[], attributes := #[] }
def k14m1 : Method := { name := "<init>", desc := "(Ljava/lang/Object;)V", sig := { parameters := [(.object "java/lang/Object")], returnType := none }, accessFlags := 2, code := some k14c1 }
def k14c2 : Code := { maxStack := 3, maxLocals := 1, code := jdk_32_method_3_code, exceptionTable := #[], attributes := #[] }
def k14m2 : Method := { name := "of", desc := "(Ljava/lang/Object;)Ljava/util/Optional;", sig := { parameters := [(.object "java/lang/Object")], returnType := some (.object "java/util/Optional") }, accessFlags := 9, code := some k14c2 }
def k14c3 : Code := { maxStack := 3, maxLocals := 1, code := jdk_32_method_5_code, exceptionTable := #[], attributes := #[] }
def k14m3 : Method := { name := "get", desc := "()Ljava/lang/Object;", sig := { parameters := [], returnType := some (.object "java/lang/Object") }, accessFlags := 1, code := some k14c3 }
def k14c4 : Code := { maxStack := 1, maxLocals := 1, code := jdk_32_method_6_code, exceptionTable := #[], attributes := #[] }
def k14m4 : Method := { name := "isPresent", desc := "()Z", sig := { parameters := [], returnType := some .boolean }, accessFlags := 1, code := some k14c4 }
/-- java/util/Optional -/
def k14 : Class := { plain "java/util/Optional" (some 0) with
  accessFlags := 49
  interfaces := #[]
  cf := some (fileOf pool14 2 #[] #[{ accessFlags := 9, nameIndex := 55, descriptorIndex := 56, attributes := #[] }, { accessFlags := 2, nameIndex := 11, descriptorIndex := 25, attributes := #[] }, { accessFlags := 9, nameIndex := 82, descriptorIndex := 65, attributes := #[] }, { accessFlags := 1, nameIndex := 73, descriptorIndex := 74, attributes := #[] }, { accessFlags := 1, nameIndex := 68, descriptorIndex := 46, attributes := #[] }] 49 8 #[] #[{ accessFlags := 26, nameIndex := 5, descriptorIndex := 6, attributes := #[] }, { accessFlags := 18, nameIndex := 15, descriptorIndex := 16, attributes := #[] }])
  fields := #[{ name := "EMPTY", type := (.object "java/util/Optional"), accessFlags := 26, slot := 0, constantValue := 0 }, { name := "value", type := (.object "java/lang/Object"), accessFlags := 18, slot := 0, constantValue := 0 }]
  methods := #[k14m0, k14m1, k14m2, k14m3, k14m4]
  instanceTypes := #[(.object "java/lang/Object")]
  staticTypes := #[(.object "java/util/Optional")]
  resolved := Array.replicate 187 none
  statics := some 1 }

def pool15 : Array CpInfo := pool [(1, .class_ 2), (0, u "java/lang/String"), (1, .class_ 6), (1, u "java/lang/Object"), (0, u "<init>"), (0, u "()V"), (0, .methodref 1 10), (0, .nameAndType 11 12), (0, u "checkIndex"), (0, u "(II)V"), (1, .class_ 16), (1, u "java/lang/StringLatin1"), (36, u "([BI)C"), (36, u "canEncode"), (14, u "(C)Z"), (15, u "$assertionsDisabled"), (0, u "Z"), (98, .class_ 223), (1, u "java/lang/StringLatin1$LinesSpliterator"), (28, u "charAt"), (28, u "equals"), (0, u "([B[B)Z"), (97, u "toBytes"), (1, u "(C)[B"), (7, .class_ 391), (0, u "java/lang/StringLatin1$CharsSpliterator")] 3

def k15m0 : Method := { name := "<init>", desc := "()V", sig := { parameters := [], returnType := none }, accessFlags := 0, code := none }
def k15c1 : Code := { maxStack := 2, maxLocals := 2, code := jdk_43_method_2_code, exceptionTable := #[], attributes := #[] }
def k15m1 : Method := { name := "charAt", desc := "([BI)C", sig := { parameters := [(.array .byte), .int], returnType := some .char }, accessFlags := 9, code := some k15c1 }
def k15c2 : Code := { maxStack := 2, maxLocals := 1, code := jdk_43_method_3_code, exceptionTable := #[], attributes := #[] }
def k15m2 : Method := { name := "canEncode", desc := "(C)Z", sig := { parameters := [.char], returnType := some .boolean }, accessFlags := 9, code := some k15c2 }
def k15c3 : Code := { maxStack := 3, maxLocals := 3, code := jdk_43_method_13_code, exceptionTable := #[], attributes := #[] }
def k15m3 : Method := { name := "equals", desc := "([B[B)Z", sig := { parameters := [(.array .byte), (.array .byte)], returnType := some .boolean }, accessFlags := 9, code := some k15c3 }
def k15c4 : Code := { maxStack := 4, maxLocals := 1, code := jdk_43_method_46_code, exceptionTable := #[], attributes := #[] }
def k15m4 : Method := { name := "toBytes", desc := "(C)[B", sig := { parameters := [.char], returnType := some (.array .byte) }, accessFlags := 9, code := some k15c4 }
/-- java/lang/StringLatin1 -/
def k15 : Class := { plain "java/lang/StringLatin1" (some 0) with
  accessFlags := 48
  interfaces := #[]
  cf := some (fileOf pool15 14 #[.nestMembers #[390, 221]] #[{ accessFlags := 0, nameIndex := 7, descriptorIndex := 8, attributes := #[] }, { accessFlags := 9, nameIndex := 252, descriptorIndex := 53, attributes := #[] }, { accessFlags := 9, nameIndex := 90, descriptorIndex := 105, attributes := #[] }, { accessFlags := 9, nameIndex := 281, descriptorIndex := 282, attributes := #[] }, { accessFlags := 9, nameIndex := 380, descriptorIndex := 382, attributes := #[] }] 48 4 #[] #[{ accessFlags := 4120, nameIndex := 121, descriptorIndex := 122, attributes := #[] }])
  fields := #[{ name := "$assertionsDisabled", type := .boolean, accessFlags := 4120, slot := 0, constantValue := 0 }]
  methods := #[k15m0, k15m1, k15m2, k15m3, k15m4]
  instanceTypes := #[]
  staticTypes := #[.boolean]
  resolved := Array.replicate 395 none
  statics := none }

def pool16 : Array CpInfo := pool [(2, .class_ 4), (1, u "java/lang/Object"), (0, u "<init>"), (0, u "()V"), (17, .class_ 26), (1, u "jdk/internal/util/Preconditions"), (6, u "checkIndex"), (21, .class_ 56), (0, u "jdk/internal/util/Preconditions$4"), (57, .class_ 115), (0, u "jdk/internal/util/Preconditions$1"), (7, u "SIOOBE_FORMATTER"), (0, u "Ljava/util/function/BiFunction;"), (0, .class_ 126), (0, u "jdk/internal/util/Preconditions$2"), (3, u "AIOOBE_FORMATTER"), (0, .class_ 132), (0, u "jdk/internal/util/Preconditions$3"), (3, u "IOOBE_FORMATTER"), (41, u "(IILjava/util/function/BiFunction;)I")] 15

def k16m0 : Method := { name := "<init>", desc := "()V", sig := { parameters := [], returnType := none }, accessFlags := 1, code := none }
def k16c1 : Code := { maxStack := 3, maxLocals := 3, code := jdk_41_method_11_code, exceptionTable := #[], attributes := #[] }
def k16m1 : Method := { name := "checkIndex", desc := "(IILjava/util/function/BiFunction;)I", sig := { parameters := [.int, .int, (.object "java/util/function/BiFunction")], returnType := some .int }, accessFlags := 9, code := some k16c1 }
/-- jdk/internal/util/Preconditions -/
def k16 : Class := { plain "jdk/internal/util/Preconditions" (some 0) with
  accessFlags := 33
  interfaces := #[]
  cf := some (fileOf pool16 24 #[.nestMembers #[55, 131, 125, 114]] #[{ accessFlags := 1, nameIndex := 5, descriptorIndex := 6, attributes := #[] }, { accessFlags := 9, nameIndex := 33, descriptorIndex := 178, attributes := #[] }] 33 2 #[] #[{ accessFlags := 25, nameIndex := 123, descriptorIndex := 124, attributes := #[] }, { accessFlags := 25, nameIndex := 130, descriptorIndex := 124, attributes := #[] }, { accessFlags := 25, nameIndex := 136, descriptorIndex := 124, attributes := #[] }])
  fields := #[{ name := "SIOOBE_FORMATTER", type := (.object "java/util/function/BiFunction"), accessFlags := 25, slot := 0, constantValue := 0 }, { name := "AIOOBE_FORMATTER", type := (.object "java/util/function/BiFunction"), accessFlags := 25, slot := 1, constantValue := 0 }, { name := "IOOBE_FORMATTER", type := (.object "java/util/function/BiFunction"), accessFlags := 25, slot := 2, constantValue := 0 }]
  methods := #[k16m0, k16m1]
  instanceTypes := #[]
  staticTypes := #[(.object "java/util/function/BiFunction"), (.object "java/util/function/BiFunction"), (.object "java/util/function/BiFunction")]
  resolved := Array.replicate 194 none
  statics := some 2 }

def pool17 : Array CpInfo := pool [(2, .class_ 4), (1, u "java/lang/Object"), (0, u "<init>"), (0, u "()V"), (7, .class_ 16), (1, u "java/util/Arrays"), (57, .class_ 76), (1, u "java/util/Arrays$NaturalOrder"), (36, .class_ 115), (1, u "java/util/Arrays$LegacyMergeSort"), (1, u "Z"), (21, u "copyOfRange"), (10, .methodref 151 152), (0, .class_ 153), (0, .nameAndType 154 155), (0, u "java/lang/System"), (0, u "arraycopy"), (0, u "(Ljava/lang/Object;ILjava/lang/Object;II)V"), (148, .methodref 305 306), (0, .class_ 307), (0, .nameAndType 308 309), (0, u "java/lang/Math"), (0, u "min"), (0, u "(II)I"), (29, .methodref 14 340), (0, .nameAndType 341 342), (0, u "copyOfRangeByte"), (0, u "([BII)[B"), (0, .methodref 14 344), (0, .nameAndType 345 346), (0, u "checkLength"), (0, u "(II)V"), (28, .class_ 376), (0, u "java/util/Arrays$ArrayList"), (68, u "$assertionsDisabled"), (269, u "MIN_ARRAY_SORT_GRAN"), (0, u "I"), (2, u "INSERTIONSORT_THRESHOLD"), (255, .class_ 976), (0, u "java/util/Arrays$ArrayItr")] 52

def k17m0 : Method := { name := "<init>", desc := "()V", sig := { parameters := [], returnType := none }, accessFlags := 2, code := none }
def k17c1 : Code := { maxStack := 4, maxLocals := 2, code := jdk_65_method_131_code, exceptionTable := #[], attributes := #[] }
def k17m1 : Method := { name := "checkLength", desc := "(II)V", sig := { parameters := [.int, .int], returnType := none }, accessFlags := 10, code := some k17c1 }
def k17c2 : Code := { maxStack := 3, maxLocals := 3, code := jdk_65_method_132_code, exceptionTable := #[], attributes := #[] }
def k17m2 : Method := { name := "copyOfRange", desc := "([BII)[B", sig := { parameters := [(.array .byte), .int, .int], returnType := some (.array .byte) }, accessFlags := 9, code := some k17c2 }
def k17c3 : Code := { maxStack := 6, maxLocals := 5, code := jdk_65_method_133_code, exceptionTable := #[], attributes := #[] }
def k17m3 : Method := { name := "copyOfRangeByte", desc := "([BII)[B", sig := { parameters := [(.array .byte), .int, .int], returnType := some (.array .byte) }, accessFlags := 10, code := some k17c3 }
/-- java/util/Arrays -/
def k17 : Class := { plain "java/util/Arrays" (some 0) with
  accessFlags := 49
  interfaces := #[]
  cf := some (fileOf pool17 14 #[.nestMembers #[975, 375, 113, 74]] #[{ accessFlags := 2, nameIndex := 5, descriptorIndex := 6, attributes := #[] }, { accessFlags := 10, nameIndex := 345, descriptorIndex := 346, attributes := #[] }, { accessFlags := 9, nameIndex := 139, descriptorIndex := 342, attributes := #[] }, { accessFlags := 10, nameIndex := 341, descriptorIndex := 342, attributes := #[] }] 49 2 #[] #[{ accessFlags := 26, nameIndex := 715, descriptorIndex := 716, attributes := #[] }, { accessFlags := 26, nameIndex := 719, descriptorIndex := 716, attributes := #[] }, { accessFlags := 4120, nameIndex := 445, descriptorIndex := 117, attributes := #[] }])
  fields := #[{ name := "MIN_ARRAY_SORT_GRAN", type := .int, accessFlags := 26, slot := 0, constantValue := 0 }, { name := "INSERTIONSORT_THRESHOLD", type := .int, accessFlags := 26, slot := 1, constantValue := 0 }, { name := "$assertionsDisabled", type := .boolean, accessFlags := 4120, slot := 2, constantValue := 0 }]
  methods := #[k17m0, k17m1, k17m2, k17m3]
  instanceTypes := #[]
  staticTypes := #[.int, .int, .boolean]
  resolved := Array.replicate 1029 none
  statics := none }

def pool18 : Array CpInfo := pool [(1, .class_ 2), (0, u "java/lang/Math"), (1, .class_ 6), (1, u "java/lang/Object"), (0, u "<init>"), (0, u "()V"), (89, .class_ 100), (1, u "java/lang/Math$RandomNumberGeneratorHolder"), (71, u "negativeZeroFloatBits"), (0, u "J"), (2, u "negativeZeroDoubleBits"), (24, u "min"), (43, u "$assertionsDisabled"), (0, u "Z"), (88, u "(II)I"), (2, u "twoToTheDoubleScaleDown"), (0, u "D"), (4, u "twoToTheDoubleScaleUp"), (9, u "E"), (3, u "PI"), (2, u "TAU"), (2, u "DEGREES_TO_RADIANS"), (0, u "RADIANS_TO_DEGREES")] 94

def k18m0 : Method := { name := "<init>", desc := "()V", sig := { parameters := [], returnType := none }, accessFlags := 2, code := none }
def k18c1 : Code := { maxStack := 2, maxLocals := 2, code := jdk_29_method_69_code, exceptionTable := #[], attributes := #[] }
def k18m1 : Method := { name := "min", desc := "(II)I", sig := { parameters := [.int, .int], returnType := some .int }, accessFlags := 9, code := some k18c1 }
/-- java/lang/Math -/
def k18 : Class := { plain "java/lang/Math" (some 0) with
  accessFlags := 49
  interfaces := #[]
  cf := some (fileOf pool18 1 #[.nestMembers #[98]] #[{ accessFlags := 2, nameIndex := 7, descriptorIndex := 8, attributes := #[] }, { accessFlags := 9, nameIndex := 201, descriptorIndex := 335, attributes := #[] }] 49 4 #[] #[{ accessFlags := 25, nameIndex := 354, descriptorIndex := 339, attributes := #[] }, { accessFlags := 25, nameIndex := 358, descriptorIndex := 339, attributes := #[] }, { accessFlags := 25, nameIndex := 361, descriptorIndex := 339, attributes := #[] }, { accessFlags := 26, nameIndex := 364, descriptorIndex := 339, attributes := #[] }, { accessFlags := 26, nameIndex := 365, descriptorIndex := 339, attributes := #[] }, { accessFlags := 26, nameIndex := 172, descriptorIndex := 173, attributes := #[] }, { accessFlags := 26, nameIndex := 176, descriptorIndex := 173, attributes := #[] }, { accessFlags := 8, nameIndex := 344, descriptorIndex := 339, attributes := #[] }, { accessFlags := 8, nameIndex := 338, descriptorIndex := 339, attributes := #[] }, { accessFlags := 4120, nameIndex := 245, descriptorIndex := 246, attributes := #[] }])
  fields := #[{ name := "E", type := .double, accessFlags := 25, slot := 0, constantValue := 0 }, { name := "PI", type := .double, accessFlags := 25, slot := 1, constantValue := 0 }, { name := "TAU", type := .double, accessFlags := 25, slot := 2, constantValue := 0 }, { name := "DEGREES_TO_RADIANS", type := .double, accessFlags := 26, slot := 3, constantValue := 0 }, { name := "RADIANS_TO_DEGREES", type := .double, accessFlags := 26, slot := 4, constantValue := 0 }, { name := "negativeZeroFloatBits", type := .long, accessFlags := 26, slot := 5, constantValue := 0 }, { name := "negativeZeroDoubleBits", type := .long, accessFlags := 26, slot := 6, constantValue := 0 }, { name := "twoToTheDoubleScaleUp", type := .double, accessFlags := 8, slot := 7, constantValue := 0 }, { name := "twoToTheDoubleScaleDown", type := .double, accessFlags := 8, slot := 8, constantValue := 0 }, { name := "$assertionsDisabled", type := .boolean, accessFlags := 4120, slot := 9, constantValue := 0 }]
  methods := #[k18m0, k18m1]
  instanceTypes := #[]
  staticTypes := #[.double, .double, .double, .double, .double, .long, .long, .double, .double, .boolean]
  resolved := Array.replicate 460 none
  statics := none }

def pool19 : Array CpInfo := pool [(2, .class_ 4), (1, u "java/lang/Object"), (0, u "<init>"), (0, u "()V"), (1, .class_ 10), (1, u "java/lang/System"), (0, u "allowSecurityManager"), (0, u "I"), (16, u "cons"), (0, u "Ljava/io/Console;"), (77, .class_ 110), (1, u "java/lang/System$CallersHolder"), (43, u "initialErrStream"), (0, u "Ljava/io/PrintStream;"), (19, u "security"), (0, u "Ljava/lang/SecurityManager;"), (31, .class_ 209), (0, u "java/lang/System$1"), (7, u "props"), (0, u "Ljava/util/Properties;"), (2, u "lineSeparator"), (0, u "Ljava/lang/String;"), (96, .class_ 321), (1, u "java/lang/System$LoggerFinder"), (5, .class_ 328), (0, u "java/lang/System$Logger"), (67, u "err"), (2, u "out"), (91, u "notSupportedJnuEncoding"), (15, u "in"), (17, u "initialIn"), (0, u "Ljava/io/InputStream;"), (35, u "bootLayer"), (0, u "Ljava/lang/ModuleLayer;"), (99, .class_ 664), (0, u "java/lang/System$2"), (9, u "NEVER"), (2, u "MAYBE"), (49, u "arraycopy"), (0, u "(Ljava/lang/Object;ILjava/lang/Object;II)V"), (72, .class_ 802), (0, u "java/lang/System$Logger$Level")] 31

def k19m0 : Method := { name := "<init>", desc := "()V", sig := { parameters := [], returnType := none }, accessFlags := 2, code := none }
def k19m1 : Method := { name := "arraycopy", desc := "(Ljava/lang/Object;ILjava/lang/Object;II)V", sig := { parameters := [(.object "java/lang/Object"), .int, (.object "java/lang/Object"), .int, .int], returnType := none }, accessFlags := 265, code := none }
/-- java/lang/System -/
def k19 : Class := { plain "java/lang/System" (some 0) with
  accessFlags := 49
  interfaces := #[]
  cf := some (fileOf pool19 8 #[.nestMembers #[319, 327, 801, 108, 663, 208]] #[{ accessFlags := 2, nameIndex := 5, descriptorIndex := 6, attributes := #[] }, { accessFlags := 265, nameIndex := 727, descriptorIndex := 728, attributes := #[] }] 49 2 #[] #[{ accessFlags := 25, nameIndex := 507, descriptorIndex := 526, attributes := #[] }, { accessFlags := 25, nameIndex := 399, descriptorIndex := 155, attributes := #[] }, { accessFlags := 25, nameIndex := 396, descriptorIndex := 155, attributes := #[] }, { accessFlags := 10, nameIndex := 525, descriptorIndex := 526, attributes := #[] }, { accessFlags := 26, nameIndex := 674, descriptorIndex := 12, attributes := #[] }, { accessFlags := 26, nameIndex := 677, descriptorIndex := 12, attributes := #[] }, { accessFlags := 10, nameIndex := 11, descriptorIndex := 12, attributes := #[] }, { accessFlags := 74, nameIndex := 175, descriptorIndex := 176, attributes := #[] }, { accessFlags := 10, nameIndex := 491, descriptorIndex := 222, attributes := #[] }, { accessFlags := 74, nameIndex := 29, descriptorIndex := 30, attributes := #[] }, { accessFlags := 74, nameIndex := 154, descriptorIndex := 155, attributes := #[] }, { accessFlags := 10, nameIndex := 217, descriptorIndex := 218, attributes := #[] }, { accessFlags := 10, nameIndex := 221, descriptorIndex := 222, attributes := #[] }, { accessFlags := 8, nameIndex := 562, descriptorIndex := 563, attributes := #[] }])
  fields := #[{ name := "in", type := (.object "java/io/InputStream"), accessFlags := 25, slot := 0, constantValue := 0 }, { name := "out", type := (.object "java/io/PrintStream"), accessFlags := 25, slot := 1, constantValue := 0 }, { name := "err", type := (.object "java/io/PrintStream"), accessFlags := 25, slot := 2, constantValue := 0 }, { name := "initialIn", type := (.object "java/io/InputStream"), accessFlags := 10, slot := 3, constantValue := 0 }, { name := "NEVER", type := .int, accessFlags := 26, slot := 4, constantValue := 0 }, { name := "MAYBE", type := .int, accessFlags := 26, slot := 5, constantValue := 0 }, { name := "allowSecurityManager", type := .int, accessFlags := 10, slot := 6, constantValue := 0 }, { name := "security", type := (.object "java/lang/SecurityManager"), accessFlags := 74, slot := 7, constantValue := 0 }, { name := "notSupportedJnuEncoding", type := (.object "java/lang/String"), accessFlags := 10, slot := 8, constantValue := 0 }, { name := "cons", type := (.object "java/io/Console"), accessFlags := 74, slot := 9, constantValue := 0 }, { name := "initialErrStream", type := (.object "java/io/PrintStream"), accessFlags := 74, slot := 10, constantValue := 0 }, { name := "props", type := (.object "java/util/Properties"), accessFlags := 10, slot := 11, constantValue := 0 }, { name := "lineSeparator", type := (.object "java/lang/String"), accessFlags := 10, slot := 12, constantValue := 0 }, { name := "bootLayer", type := (.object "java/lang/ModuleLayer"), accessFlags := 8, slot := 13, constantValue := 0 }]
  methods := #[k19m0, k19m1]
  instanceTypes := #[]
  staticTypes := #[(.object "java/io/InputStream"), (.object "java/io/PrintStream"), (.object "java/io/PrintStream"), (.object "java/io/InputStream"), .int, .int, .int, (.object "java/lang/SecurityManager"), (.object "java/lang/String"), (.object "java/io/Console"), (.object "java/io/PrintStream"), (.object "java/util/Properties"), (.object "java/lang/String"), (.object "java/lang/ModuleLayer")]
  resolved := Array.replicate 834 none
  statics := none }

def pool20 : Array CpInfo := pool [(2, .class_ 4), (1, u "java/lang/Object"), (0, u "<init>"), (0, u "()V"), (35, .class_ 44), (1, u "java/util/Objects"), (0, u "requireNonNull"), (0, u "(Ljava/lang/Object;)Ljava/lang/Object;")] 137

def k20m0 : Method := { name := "<init>", desc := "()V", sig := { parameters := [], returnType := none }, accessFlags := 2, code := none }
def k20c1 : Code := { maxStack := 2, maxLocals := 1, code := jdk_31_method_10_code, exceptionTable := #[], attributes := #[] }
def k20m1 : Method := { name := "requireNonNull", desc := "(Ljava/lang/Object;)Ljava/lang/Object;", sig := { parameters := [(.object "java/lang/Object")], returnType := some (.object "java/lang/Object") }, accessFlags := 9, code := some k20c1 }
/-- java/util/Objects -/
def k20 : Class := { plain "java/util/Objects" (some 0) with
  accessFlags := 49
  interfaces := #[]
  cf := some (fileOf pool20 42 #[] #[{ accessFlags := 2, nameIndex := 5, descriptorIndex := 6, attributes := #[] }, { accessFlags := 9, nameIndex := 45, descriptorIndex := 46, attributes := #[] }] 49 2 #[] #[])
  fields := #[]
  methods := #[k20m0, k20m1]
  instanceTypes := #[]
  staticTypes := #[]
  resolved := Array.replicate 184 none
  statics := none }

def pool21 : Array CpInfo := pool [(9, u "<init>"), (6, .class_ 18), (1, u "java/lang/Object"), (0, u "()V"), (1, .class_ 23), (1, u "jdk/internal/util/ArraysSupport"), (0, u "LOG2_ARRAY_LONG_INDEX_SCALE"), (0, u "I"), (2, u "U"), (0, u "Ljdk/internal/misc/Unsafe;"), (8, u "BIG_ENDIAN"), (0, u "Z"), (8, u "LOG2_BYTE_BIT_SIZE"), (4, u "LOG2_ARRAY_INT_INDEX_SCALE"), (54, u "JLA"), (0, u "Ljdk/internal/access/JavaLangAccess;"), (11, u "LOG2_ARRAY_BOOLEAN_INDEX_SCALE"), (9, u "LOG2_ARRAY_BYTE_INDEX_SCALE"), (5, u "LOG2_ARRAY_CHAR_INDEX_SCALE"), (5, u "LOG2_ARRAY_SHORT_INDEX_SCALE"), (18, u "LOG2_ARRAY_FLOAT_INDEX_SCALE"), (24, u "LOG2_ARRAY_DOUBLE_INDEX_SCALE"), (89, u "T_BOOLEAN"), (2, u "T_CHAR"), (1, u "T_FLOAT"), (1, u "T_DOUBLE"), (1, u "T_BYTE"), (1, u "T_SHORT"), (1, u "T_INT"), (1, u "T_LONG"), (1, u "SOFT_MAX_ARRAY_LENGTH")] 83

def k21m0 : Method := { name := "<init>", desc := "()V", sig := { parameters := [], returnType := none }, accessFlags := 2, code := none }
/-- jdk/internal/util/ArraysSupport -/
def k21 : Class := { plain "jdk/internal/util/ArraysSupport" (some 0) with
  accessFlags := 33
  interfaces := #[]
  cf := some (fileOf pool21 21 #[] #[{ accessFlags := 2, nameIndex := 9, descriptorIndex := 19, attributes := #[] }] 33 16 #[] #[{ accessFlags := 24, nameIndex := 28, descriptorIndex := 29, attributes := #[] }, { accessFlags := 26, nameIndex := 38, descriptorIndex := 39, attributes := #[] }, { accessFlags := 25, nameIndex := 121, descriptorIndex := 25, attributes := #[] }, { accessFlags := 25, nameIndex := 131, descriptorIndex := 25, attributes := #[] }, { accessFlags := 25, nameIndex := 137, descriptorIndex := 25, attributes := #[] }, { accessFlags := 25, nameIndex := 143, descriptorIndex := 25, attributes := #[] }, { accessFlags := 25, nameIndex := 53, descriptorIndex := 25, attributes := #[] }, { accessFlags := 25, nameIndex := 24, descriptorIndex := 25, attributes := #[] }, { accessFlags := 25, nameIndex := 162, descriptorIndex := 25, attributes := #[] }, { accessFlags := 25, nameIndex := 187, descriptorIndex := 25, attributes := #[] }, { accessFlags := 26, nameIndex := 48, descriptorIndex := 25, attributes := #[] }, { accessFlags := 25, nameIndex := 277, descriptorIndex := 25, attributes := #[] }, { accessFlags := 25, nameIndex := 280, descriptorIndex := 25, attributes := #[] }, { accessFlags := 25, nameIndex := 282, descriptorIndex := 25, attributes := #[] }, { accessFlags := 25, nameIndex := 284, descriptorIndex := 25, attributes := #[] }, { accessFlags := 25, nameIndex := 286, descriptorIndex := 25, attributes := #[] }, { accessFlags := 25, nameIndex := 288, descriptorIndex := 25, attributes := #[] }, { accessFlags := 25, nameIndex := 290, descriptorIndex := 25, attributes := #[] }, { accessFlags := 25, nameIndex := 292, descriptorIndex := 25, attributes := #[] }, { accessFlags := 26, nameIndex := 108, descriptorIndex := 109, attributes := #[] }, { accessFlags := 25, nameIndex := 294, descriptorIndex := 25, attributes := #[] }])
  fields := #[{ name := "U", type := (.object "jdk/internal/misc/Unsafe"), accessFlags := 24, slot := 0, constantValue := 0 }, { name := "BIG_ENDIAN", type := .boolean, accessFlags := 26, slot := 1, constantValue := 0 }, { name := "LOG2_ARRAY_BOOLEAN_INDEX_SCALE", type := .int, accessFlags := 25, slot := 2, constantValue := 0 }, { name := "LOG2_ARRAY_BYTE_INDEX_SCALE", type := .int, accessFlags := 25, slot := 3, constantValue := 0 }, { name := "LOG2_ARRAY_CHAR_INDEX_SCALE", type := .int, accessFlags := 25, slot := 4, constantValue := 0 }, { name := "LOG2_ARRAY_SHORT_INDEX_SCALE", type := .int, accessFlags := 25, slot := 5, constantValue := 0 }, { name := "LOG2_ARRAY_INT_INDEX_SCALE", type := .int, accessFlags := 25, slot := 6, constantValue := 0 }, { name := "LOG2_ARRAY_LONG_INDEX_SCALE", type := .int, accessFlags := 25, slot := 7, constantValue := 0 }, { name := "LOG2_ARRAY_FLOAT_INDEX_SCALE", type := .int, accessFlags := 25, slot := 8, constantValue := 0 }, { name := "LOG2_ARRAY_DOUBLE_INDEX_SCALE", type := .int, accessFlags := 25, slot := 9, constantValue := 0 }, { name := "LOG2_BYTE_BIT_SIZE", type := .int, accessFlags := 26, slot := 10, constantValue := 0 }, { name := "T_BOOLEAN", type := .int, accessFlags := 25, slot := 11, constantValue := 0 }, { name := "T_CHAR", type := .int, accessFlags := 25, slot := 12, constantValue := 0 }, { name := "T_FLOAT", type := .int, accessFlags := 25, slot := 13, constantValue := 0 }, { name := "T_DOUBLE", type := .int, accessFlags := 25, slot := 14, constantValue := 0 }, { name := "T_BYTE", type := .int, accessFlags := 25, slot := 15, constantValue := 0 }, { name := "T_SHORT", type := .int, accessFlags := 25, slot := 16, constantValue := 0 }, { name := "T_INT", type := .int, accessFlags := 25, slot := 17, constantValue := 0 }, { name := "T_LONG", type := .int, accessFlags := 25, slot := 18, constantValue := 0 }, { name := "JLA", type := (.object "jdk/internal/access/JavaLangAccess"), accessFlags := 26, slot := 19, constantValue := 0 }, { name := "SOFT_MAX_ARRAY_LENGTH", type := .int, accessFlags := 25, slot := 20, constantValue := 0 }]
  methods := #[k21m0]
  instanceTypes := #[]
  staticTypes := #[(.object "jdk/internal/misc/Unsafe"), .boolean, .int, .int, .int, .int, .int, .int, .int, .int, .int, .int, .int, .int, .int, .int, .int, .int, .int, (.object "jdk/internal/access/JavaLangAccess"), .int]
  resolved := Array.replicate 378 none
  statics := none }

def pool22 : Array CpInfo := pool [(1, u "java/lang/Cloneable"), (0, .class_ 1), (0, u "java/lang/Object"), (0, .class_ 3)] 3

/-- java/lang/Cloneable -/
def k22 : Class := { plain "java/lang/Cloneable" (some 0) with
  accessFlags := 1537
  interfaces := #[]
  cf := some (fileOf pool22 2 #[] #[] 1537 4 #[] #[])
  fields := #[]
  methods := #[]
  instanceTypes := #[]
  staticTypes := #[]
  resolved := Array.replicate 8 none
  statics := none }

/-- the primitive byte -/
def k23 : Class := { plain "byte" none with kind := .primitive 'B', accessFlags := 0x411 }
/-- [B -/
def k24 : Class := { plain "[B" (some 0) with kind := .array 23 .byte, interfaces := #[22, 2], accessFlags := 1041 }

/-- the primitive char -/
def k25 : Class := { plain "char" none with kind := .primitive 'C', accessFlags := 0x411 }
/-- [C -/
def k26 : Class := { plain "[C" (some 0) with kind := .array 25 .char, interfaces := #[22, 2], accessFlags := 1041 }

/-- the primitive int -/
def k27 : Class := { plain "int" none with kind := .primitive 'I', accessFlags := 0x411 }
/-- [I -/
def k28 : Class := { plain "[I" (some 0) with kind := .array 27 .int, interfaces := #[22, 2], accessFlags := 1041 }

def heap : Heap := #[{ cls := 7, slots := #[.long 0, .int 1, .null, .int 0, .null, .int 0, .int 0], vm := .statics 7 },
  { cls := 14, slots := #[.ref 3], vm := .statics 14 },
  { cls := 16, slots := #[.null, .null, .null], vm := .statics 16 },
  { cls := 14, slots := #[.null], vm := .none }]
def classes : Array Class := #[k0, k1, k2, k3, k4, k5, k6, k7, k8, k9, k10, k11, k12, k13, k14, k15, k16, k17, k18, k19, k20, k21, k22, k23, k24, k25, k26, k27, k28]
def interned : List (Array UInt16 × Addr) := []
def slotsUsed : Nat := 12
def theMethod : MethodId := ⟨1, 1⟩
def args0 : Array Value := #[.long 5, .int 1, .int 3, .int 2, .int 4]
def aboutOver (below : List Frame) : State where
  vm := { classes := classes, interned := interned.toArray }
  heap := heap
  slotsUsed := slotsUsed
  threads := #[{ frames := .invoking theMethod args0 :: below }]
def below0 : List Frame := [.native { method := ⟨0, 0⟩, args := #[] }]
def about1 : State := aboutOver below0
def p0 : Program := .bare "" "" ""
def e0 : Env := launch0.env 0 0 0
theorem w_frames : about1.frames = Frame.invoking theMethod args0 :: below0 := rfl
set_option maxRecDepth 65536 in
theorem w_args : argsFit about1.vm theMethod args0 = true := by decide +kernel
set_option maxRecDepth 65536 in
theorem w_heap : heapFits about1 = true := by decide +kernel
set_option maxRecDepth 65536 in
theorem w_runnable : about1.curStatus? = some .runnable := by decide +kernel
set_option maxRecDepth 65536 in
theorem w_alone : about1.alone = true := by decide +kernel
set_option maxRecDepth 65536 in
theorem w_named : about1.methodNamed? x = some theMethod := by decide +kernel
set_option maxRecDepth 65536 in
theorem w_hears : about1.hears theMethod below0 = true := by decide +kernel
set_option maxRecDepth 65536 in
theorem w_ripe : about1.ripe theMethod args0 below0 = true := by decide +kernel
theorem w_running : about1.status = .running := rfl
set_option maxRecDepth 65536 in
theorem w_room : about1.hasRoom e0.platform room_1 = true :=
  launch0.hasRoom_least _ room_1 (by decide +kernel) (by decide +kernel) (by decide +kernel) (by decide +kernel) (by decide +kernel) (by decide +kernel)
theorem allAtoms_all (ts : List Jvm.Cond) (a : Array Jvm.Value) (st : Jvm.State) : (allAtoms ts).before a st = ts.all (fun c => c.before a st) := by
  induction ts with
  | nil => rfl
  | cons c t ih =>
    show (Jvm.Cond.and c (allAtoms t)).before a st = _
    rw [Jvm.Cond.before_and, ih, List.all_cons]
def words1 : List Jvm.Cond := Jvm.Cond.code x code maxLocals ret :: tables_1
/-- a 'code' word, met by the world's own term for the bytes: nothing is compared byte by byte -/
theorem code_word {y : MethodName} {bytes : ByteArray} {mx : Nat} {rt : Option FieldType} {a : Array Value} {s : State} {m : MethodId} {meth : Method} {c : Code} (h1 : s.methodNamed? y = some m) (h2 : s.vm.method? m = some meth) (h3 : meth.code = some c) (h4 : c.code = bytes)
    (h5 : (c.maxLocals == mx && c.exceptionTable.isEmpty && decide (c.maxStack ≤ mostOperands) && decide (meth.sig.returnType = rt) && !meth.locks && decide (parseMethodDescriptor y.desc = some meth.sig)) = true) : (Jvm.Cond.code y bytes mx rt).before a s = true := by
  simp only [Bool.and_eq_true, beq_iff_eq, Bool.not_eq_true', decide_eq_true_eq] at h5
  obtain ⟨⟨⟨⟨⟨g1, g2⟩, g3⟩, g4⟩, g5⟩, g6⟩ := h5
  simp [Cond.before, Cond.holds, Cond.value, h1, h2, h3, h4, g1, g2, g3, g4, g5, g6]
def isCode : Jvm.Cond → Bool
  | .code _ _ _ _ => true
  | _ => false
theorem all_split {L : List Jvm.Cond} {P : Jvm.Cond → Bool} (h1 : L.all (fun c => isCode c || P c) = true) (h2 : ∀ c ∈ L.filter isCode, P c = true) : L.all P = true := by
  refine List.all_eq_true.mpr fun c hc => ?_
  have h := List.all_eq_true.mp h1 c hc
  rcases Bool.eq_false_or_eq_true (isCode c) with hi | hi
  · exact h2 c (List.mem_filter.mpr ⟨hc, hi⟩)
  · simpa [hi] using h
set_option maxRecDepth 65536 in
theorem w_c0 : (Jvm.Cond.code x code maxLocals ret).before args0 about1 = true := code_word (m := ⟨1, 1⟩) (meth := k1m1) (c := k1c1) (by decide +kernel) rfl rfl rfl (by decide +kernel)
set_option maxRecDepth 65536 in
theorem w_c1 : (Jvm.Cond.code ({ cls := "java/lang/String", name := "<init>", desc := "([C)V" } : Jvm.MethodName) jdk_42_method_3_code (2 : Nat) (Option.none : Option Jvm.ClassFile.FieldType)).before args0 about1 = true := code_word (m := ⟨7, 1⟩) (meth := k7m1) (c := k7c1) (by decide +kernel) rfl rfl rfl (by decide +kernel)
set_option maxRecDepth 65536 in
theorem w_c2 : (Jvm.Cond.code ({ cls := "java/lang/String", name := "<init>", desc := "([CIILjava/lang/Void;)V" } : Jvm.MethodName) jdk_42_method_149_code (6 : Nat) (Option.none : Option Jvm.ClassFile.FieldType)).before args0 about1 = true := code_word (m := ⟨7, 7⟩) (meth := k7m7) (c := k7c7) (by decide +kernel) rfl rfl rfl (by decide +kernel)
set_option maxRecDepth 65536 in
theorem w_c3 : (Jvm.Cond.code ({ cls := "java/lang/Object", name := "<init>", desc := "()V" } : Jvm.MethodName) object_method_1_code (1 : Nat) (Option.none : Option Jvm.ClassFile.FieldType)).before args0 about1 = true := code_word (m := ⟨0, 0⟩) (meth := k0m0) (c := k0c0) (by decide +kernel) rfl rfl rfl (by decide +kernel)
set_option maxRecDepth 65536 in
theorem w_c4 : (Jvm.Cond.code ({ cls := "java/lang/StringUTF16", name := "compress", desc := "([CII)[B" } : Jvm.MethodName) jdk_52_method_16_code (6 : Nat) (Option.some (Jvm.ClassFile.FieldType.array Jvm.ClassFile.FieldType.byte))).before args0 about1 = true := code_word (m := ⟨8, 2⟩) (meth := k8m2) (c := k8c2) (by decide +kernel) rfl rfl rfl (by decide +kernel)
set_option maxRecDepth 65536 in
theorem w_c5 : (Jvm.Cond.code ({ cls := "java/lang/StringUTF16", name := "compress", desc := "([CI[BII)I" } : Jvm.MethodName) jdk_52_method_21_code (7 : Nat) (Option.some Jvm.ClassFile.FieldType.int)).before args0 about1 = true := code_word (m := ⟨8, 3⟩) (meth := k8m3) (c := k8c3) (by decide +kernel) rfl rfl rfl (by decide +kernel)
set_option maxRecDepth 65536 in
theorem w_c6 : (Jvm.Cond.code ({ cls := "java/lang/StringUTF16", name := "coderFromArrayLen", desc := "([BI)B" } : Jvm.MethodName) jdk_52_method_15_code (2 : Nat) (Option.some Jvm.ClassFile.FieldType.byte)).before args0 about1 = true := code_word (m := ⟨8, 1⟩) (meth := k8m1) (c := k8c1) (by decide +kernel) rfl rfl rfl (by decide +kernel)
set_option maxRecDepth 65536 in
theorem w_c7 : (Jvm.Cond.code ({ cls := "com/example/latticube/latticube/csv/QuotedText", name := "read", desc := "(Ljava/lang/String;I)Ljava/util/Optional;" } : Jvm.MethodName) prog_30_method_2_code (5 : Nat) (Option.some (Jvm.ClassFile.FieldType.object "java/util/Optional"))).before args0 about1 = true := code_word (m := ⟨10, 1⟩) (meth := k10m1) (c := k10c1) (by decide +kernel) rfl rfl rfl (by decide +kernel)
set_option maxRecDepth 65536 in
theorem w_c8 : (Jvm.Cond.code ({ cls := "java/lang/StringBuilder", name := "<init>", desc := "()V" } : Jvm.MethodName) jdk_67_method_1_code (1 : Nat) (Option.none : Option Jvm.ClassFile.FieldType)).before args0 about1 = true := code_word (m := ⟨13, 0⟩) (meth := k13m0) (c := k13c0) (by decide +kernel) rfl rfl rfl (by decide +kernel)
set_option maxRecDepth 65536 in
theorem w_c9 : (Jvm.Cond.code ({ cls := "java/lang/AbstractStringBuilder", name := "<init>", desc := "(I)V" } : Jvm.MethodName) jdk_68_method_2_code (2 : Nat) (Option.none : Option Jvm.ClassFile.FieldType)).before args0 about1 = true := code_word (m := ⟨12, 1⟩) (meth := k12m1) (c := k12c1) (by decide +kernel) rfl rfl rfl (by decide +kernel)
set_option maxRecDepth 65536 in
theorem w_c10 : (Jvm.Cond.code ({ cls := "java/lang/String", name := "length", desc := "()I" } : Jvm.MethodName) jdk_42_method_54_code (1 : Nat) (Option.some Jvm.ClassFile.FieldType.int)).before args0 about1 = true := code_word (m := ⟨7, 3⟩) (meth := k7m3) (c := k7c3) (by decide +kernel) rfl rfl rfl (by decide +kernel)
set_option maxRecDepth 65536 in
theorem w_c11 : (Jvm.Cond.code ({ cls := "java/lang/String", name := "coder", desc := "()B" } : Jvm.MethodName) jdk_42_method_152_code (1 : Nat) (Option.some Jvm.ClassFile.FieldType.byte)).before args0 about1 = true := code_word (m := ⟨7, 10⟩) (meth := k7m10) (c := k7c10) (by decide +kernel) rfl rfl rfl (by decide +kernel)
set_option maxRecDepth 65536 in
theorem w_c12 : (Jvm.Cond.code ({ cls := "java/util/Optional", name := "empty", desc := "()Ljava/util/Optional;" } : Jvm.MethodName) jdk_32_method_1_code (1 : Nat) (Option.some (Jvm.ClassFile.FieldType.object "java/util/Optional"))).before args0 about1 = true := code_word (m := ⟨14, 0⟩) (meth := k14m0) (c := k14c0) (by decide +kernel) rfl rfl rfl (by decide +kernel)
set_option maxRecDepth 65536 in
theorem w_c13 : (Jvm.Cond.code ({ cls := "java/util/Optional", name := "isPresent", desc := "()Z" } : Jvm.MethodName) jdk_32_method_6_code (1 : Nat) (Option.some Jvm.ClassFile.FieldType.boolean)).before args0 about1 = true := code_word (m := ⟨14, 4⟩) (meth := k14m4) (c := k14c4) (by decide +kernel) rfl rfl rfl (by decide +kernel)
set_option maxRecDepth 65536 in
theorem w_c14 : (Jvm.Cond.code ({ cls := "java/lang/String", name := "charAt", desc := "(I)C" } : Jvm.MethodName) jdk_42_method_56_code (2 : Nat) (Option.some Jvm.ClassFile.FieldType.char)).before args0 about1 = true := code_word (m := ⟨7, 4⟩) (meth := k7m4) (c := k7c4) (by decide +kernel) rfl rfl rfl (by decide +kernel)
set_option maxRecDepth 65536 in
theorem w_c15 : (Jvm.Cond.code ({ cls := "java/lang/String", name := "isLatin1", desc := "()Z" } : Jvm.MethodName) jdk_42_method_154_code (1 : Nat) (Option.some Jvm.ClassFile.FieldType.boolean)).before args0 about1 = true := code_word (m := ⟨7, 11⟩) (meth := k7m11) (c := k7c11) (by decide +kernel) rfl rfl rfl (by decide +kernel)
set_option maxRecDepth 65536 in
theorem w_c16 : (Jvm.Cond.code ({ cls := "java/lang/StringLatin1", name := "charAt", desc := "([BI)C" } : Jvm.MethodName) jdk_43_method_2_code (2 : Nat) (Option.some Jvm.ClassFile.FieldType.char)).before args0 about1 = true := code_word (m := ⟨15, 1⟩) (meth := k15m1) (c := k15c1) (by decide +kernel) rfl rfl rfl (by decide +kernel)
set_option maxRecDepth 65536 in
theorem w_c17 : (Jvm.Cond.code ({ cls := "java/lang/String", name := "checkIndex", desc := "(II)V" } : Jvm.MethodName) jdk_42_method_155_code (2 : Nat) (Option.none : Option Jvm.ClassFile.FieldType)).before args0 about1 = true := code_word (m := ⟨7, 12⟩) (meth := k7m12) (c := k7c12) (by decide +kernel) rfl rfl rfl (by decide +kernel)
set_option maxRecDepth 65536 in
theorem w_c18 : (Jvm.Cond.code ({ cls := "jdk/internal/util/Preconditions", name := "checkIndex", desc := "(IILjava/util/function/BiFunction;)I" } : Jvm.MethodName) jdk_41_method_11_code (3 : Nat) (Option.some Jvm.ClassFile.FieldType.int)).before args0 about1 = true := code_word (m := ⟨16, 1⟩) (meth := k16m1) (c := k16c1) (by decide +kernel) rfl rfl rfl (by decide +kernel)
set_option maxRecDepth 65536 in
theorem w_c19 : (Jvm.Cond.code ({ cls := "java/lang/StringBuilder", name := "append", desc := "(C)Ljava/lang/StringBuilder;" } : Jvm.MethodName) jdk_67_method_14_code (2 : Nat) (Option.some (Jvm.ClassFile.FieldType.object "java/lang/StringBuilder"))).before args0 about1 = true := code_word (m := ⟨13, 1⟩) (meth := k13m1) (c := k13c1) (by decide +kernel) rfl rfl rfl (by decide +kernel)
set_option maxRecDepth 65536 in
theorem w_c20 : (Jvm.Cond.code ({ cls := "java/lang/AbstractStringBuilder", name := "append", desc := "(C)Ljava/lang/AbstractStringBuilder;" } : Jvm.MethodName) jdk_68_method_31_code (2 : Nat) (Option.some (Jvm.ClassFile.FieldType.object "java/lang/AbstractStringBuilder"))).before args0 about1 = true := code_word (m := ⟨12, 4⟩) (meth := k12m4) (c := k12c4) (by decide +kernel) rfl rfl rfl (by decide +kernel)
set_option maxRecDepth 65536 in
theorem w_c21 : (Jvm.Cond.code ({ cls := "java/lang/AbstractStringBuilder", name := "ensureCapacityInternal", desc := "(I)V" } : Jvm.MethodName) jdk_68_method_9_code (3 : Nat) (Option.none : Option Jvm.ClassFile.FieldType)).before args0 about1 = true := code_word (m := ⟨12, 3⟩) (meth := k12m3) (c := k12c3) (by decide +kernel) rfl rfl rfl (by decide +kernel)
set_option maxRecDepth 65536 in
theorem w_c22 : (Jvm.Cond.code ({ cls := "java/lang/AbstractStringBuilder", name := "isLatin1", desc := "()Z" } : Jvm.MethodName) jdk_68_method_68_code (1 : Nat) (Option.some Jvm.ClassFile.FieldType.boolean)).before args0 about1 = true := code_word (m := ⟨12, 6⟩) (meth := k12m6) (c := k12c6) (by decide +kernel) rfl rfl rfl (by decide +kernel)
set_option maxRecDepth 65536 in
theorem w_c23 : (Jvm.Cond.code ({ cls := "java/lang/StringLatin1", name := "canEncode", desc := "(C)Z" } : Jvm.MethodName) jdk_43_method_3_code (1 : Nat) (Option.some Jvm.ClassFile.FieldType.boolean)).before args0 about1 = true := code_word (m := ⟨15, 2⟩) (meth := k15m2) (c := k15c2) (by decide +kernel) rfl rfl rfl (by decide +kernel)
set_option maxRecDepth 65536 in
theorem w_c24 : (Jvm.Cond.code ({ cls := "java/lang/StringBuilder", name := "toString", desc := "()Ljava/lang/String;" } : Jvm.MethodName) jdk_67_method_42_code (1 : Nat) (Option.some (Jvm.ClassFile.FieldType.object "java/lang/String"))).before args0 about1 = true := code_word (m := ⟨13, 2⟩) (meth := k13m2) (c := k13c2) (by decide +kernel) rfl rfl rfl (by decide +kernel)
set_option maxRecDepth 65536 in
theorem w_c25 : (Jvm.Cond.code ({ cls := "java/lang/String", name := "<init>", desc := "(Ljava/lang/StringBuilder;)V" } : Jvm.MethodName) jdk_42_method_53_code (2 : Nat) (Option.none : Option Jvm.ClassFile.FieldType)).before args0 about1 = true := code_word (m := ⟨7, 2⟩) (meth := k7m2) (c := k7c2) (by decide +kernel) rfl rfl rfl (by decide +kernel)
set_option maxRecDepth 65536 in
theorem w_c26 : (Jvm.Cond.code ({ cls := "java/lang/String", name := "<init>", desc := "(Ljava/lang/AbstractStringBuilder;Ljava/lang/Void;)V" } : Jvm.MethodName) jdk_42_method_150_code (5 : Nat) (Option.none : Option Jvm.ClassFile.FieldType)).before args0 about1 = true := code_word (m := ⟨7, 8⟩) (meth := k7m8) (c := k7c8) (by decide +kernel) rfl rfl rfl (by decide +kernel)
set_option maxRecDepth 65536 in
theorem w_c27 : (Jvm.Cond.code ({ cls := "java/lang/AbstractStringBuilder", name := "getValue", desc := "()[B" } : Jvm.MethodName) jdk_68_method_64_code (1 : Nat) (Option.some (Jvm.ClassFile.FieldType.array Jvm.ClassFile.FieldType.byte))).before args0 about1 = true := code_word (m := ⟨12, 5⟩) (meth := k12m5) (c := k12c5) (by decide +kernel) rfl rfl rfl (by decide +kernel)
set_option maxRecDepth 65536 in
theorem w_c28 : (Jvm.Cond.code ({ cls := "java/lang/StringBuilder", name := "length", desc := "()I" } : Jvm.MethodName) jdk_67_method_93_code (1 : Nat) (Option.some Jvm.ClassFile.FieldType.int)).before args0 about1 = true := code_word (m := ⟨13, 3⟩) (meth := k13m3) (c := k13c3) (by decide +kernel) rfl rfl rfl (by decide +kernel)
set_option maxRecDepth 65536 in
theorem w_c29 : (Jvm.Cond.code ({ cls := "java/lang/AbstractStringBuilder", name := "length", desc := "()I" } : Jvm.MethodName) jdk_68_method_6_code (1 : Nat) (Option.some Jvm.ClassFile.FieldType.int)).before args0 about1 = true := code_word (m := ⟨12, 2⟩) (meth := k12m2) (c := k12c2) (by decide +kernel) rfl rfl rfl (by decide +kernel)
set_option maxRecDepth 65536 in
theorem w_c30 : (Jvm.Cond.code ({ cls := "java/util/Arrays", name := "copyOfRange", desc := "([BII)[B" } : Jvm.MethodName) jdk_65_method_132_code (3 : Nat) (Option.some (Jvm.ClassFile.FieldType.array Jvm.ClassFile.FieldType.byte))).before args0 about1 = true := code_word (m := ⟨17, 2⟩) (meth := k17m2) (c := k17c2) (by decide +kernel) rfl rfl rfl (by decide +kernel)
set_option maxRecDepth 65536 in
theorem w_c31 : (Jvm.Cond.code ({ cls := "java/util/Arrays", name := "copyOfRangeByte", desc := "([BII)[B" } : Jvm.MethodName) jdk_65_method_133_code (5 : Nat) (Option.some (Jvm.ClassFile.FieldType.array Jvm.ClassFile.FieldType.byte))).before args0 about1 = true := code_word (m := ⟨17, 3⟩) (meth := k17m3) (c := k17c3) (by decide +kernel) rfl rfl rfl (by decide +kernel)
set_option maxRecDepth 65536 in
theorem w_c32 : (Jvm.Cond.code ({ cls := "java/util/Arrays", name := "checkLength", desc := "(II)V" } : Jvm.MethodName) jdk_65_method_131_code (2 : Nat) (Option.none : Option Jvm.ClassFile.FieldType)).before args0 about1 = true := code_word (m := ⟨17, 1⟩) (meth := k17m1) (c := k17c1) (by decide +kernel) rfl rfl rfl (by decide +kernel)
set_option maxRecDepth 65536 in
theorem w_c33 : (Jvm.Cond.code ({ cls := "java/lang/Math", name := "min", desc := "(II)I" } : Jvm.MethodName) jdk_29_method_69_code (2 : Nat) (Option.some Jvm.ClassFile.FieldType.int)).before args0 about1 = true := code_word (m := ⟨18, 1⟩) (meth := k18m1) (c := k18c1) (by decide +kernel) rfl rfl rfl (by decide +kernel)
set_option maxRecDepth 65536 in
theorem w_c34 : (Jvm.Cond.code ({ cls := "com/example/latticube/latticube/csv/QuotedText", name := "<init>", desc := "(Ljava/lang/String;I)V" } : Jvm.MethodName) prog_30_method_1_code (3 : Nat) (Option.none : Option Jvm.ClassFile.FieldType)).before args0 about1 = true := code_word (m := ⟨10, 0⟩) (meth := k10m0) (c := k10c0) (by decide +kernel) rfl rfl rfl (by decide +kernel)
set_option maxRecDepth 65536 in
theorem w_c35 : (Jvm.Cond.code ({ cls := "java/lang/Record", name := "<init>", desc := "()V" } : Jvm.MethodName) jdk_30_method_1_code (1 : Nat) (Option.none : Option Jvm.ClassFile.FieldType)).before args0 about1 = true := code_word (m := ⟨9, 0⟩) (meth := k9m0) (c := k9c0) (by decide +kernel) rfl rfl rfl (by decide +kernel)
set_option maxRecDepth 65536 in
theorem w_c36 : (Jvm.Cond.code ({ cls := "java/util/Optional", name := "of", desc := "(Ljava/lang/Object;)Ljava/util/Optional;" } : Jvm.MethodName) jdk_32_method_3_code (1 : Nat) (Option.some (Jvm.ClassFile.FieldType.object "java/util/Optional"))).before args0 about1 = true := code_word (m := ⟨14, 2⟩) (meth := k14m2) (c := k14c2) (by decide +kernel) rfl rfl rfl (by decide +kernel)
set_option maxRecDepth 65536 in
theorem w_c37 : (Jvm.Cond.code ({ cls := "java/util/Objects", name := "requireNonNull", desc := "(Ljava/lang/Object;)Ljava/lang/Object;" } : Jvm.MethodName) jdk_31_method_10_code (1 : Nat) (Option.some (Jvm.ClassFile.FieldType.object "java/lang/Object"))).before args0 about1 = true := code_word (m := ⟨20, 1⟩) (meth := k20m1) (c := k20c1) (by decide +kernel) rfl rfl rfl (by decide +kernel)
set_option maxRecDepth 65536 in
theorem w_c38 : (Jvm.Cond.code ({ cls := "java/util/Optional", name := "<init>", desc := "(Ljava/lang/Object;)V" } : Jvm.MethodName) jdk_32_method_2_code (2 : Nat) (Option.none : Option Jvm.ClassFile.FieldType)).before args0 about1 = true := code_word (m := ⟨14, 1⟩) (meth := k14m1) (c := k14c1) (by decide +kernel) rfl rfl rfl (by decide +kernel)
set_option maxRecDepth 65536 in
theorem w_c39 : (Jvm.Cond.code ({ cls := "java/lang/String", name := "valueOf", desc := "(C)Ljava/lang/String;" } : Jvm.MethodName) jdk_42_method_139_code (1 : Nat) (Option.some (Jvm.ClassFile.FieldType.object "java/lang/String"))).before args0 about1 = true := code_word (m := ⟨7, 6⟩) (meth := k7m6) (c := k7c6) (by decide +kernel) rfl rfl rfl (by decide +kernel)
set_option maxRecDepth 65536 in
theorem w_c40 : (Jvm.Cond.code ({ cls := "java/lang/StringLatin1", name := "toBytes", desc := "(C)[B" } : Jvm.MethodName) jdk_43_method_46_code (1 : Nat) (Option.some (Jvm.ClassFile.FieldType.array Jvm.ClassFile.FieldType.byte))).before args0 about1 = true := code_word (m := ⟨15, 4⟩) (meth := k15m4) (c := k15c4) (by decide +kernel) rfl rfl rfl (by decide +kernel)
set_option maxRecDepth 65536 in
theorem w_c41 : (Jvm.Cond.code ({ cls := "java/lang/String", name := "<init>", desc := "([BB)V" } : Jvm.MethodName) jdk_42_method_151_code (3 : Nat) (Option.none : Option Jvm.ClassFile.FieldType)).before args0 about1 = true := code_word (m := ⟨7, 9⟩) (meth := k7m9) (c := k7c9) (by decide +kernel) rfl rfl rfl (by decide +kernel)
set_option maxRecDepth 65536 in
theorem w_c42 : (Jvm.Cond.code ({ cls := "java/util/Optional", name := "get", desc := "()Ljava/lang/Object;" } : Jvm.MethodName) jdk_32_method_5_code (1 : Nat) (Option.some (Jvm.ClassFile.FieldType.object "java/lang/Object"))).before args0 about1 = true := code_word (m := ⟨14, 3⟩) (meth := k14m3) (c := k14c3) (by decide +kernel) rfl rfl rfl (by decide +kernel)
set_option maxRecDepth 65536 in
theorem w_c43 : (Jvm.Cond.code ({ cls := "com/example/latticube/latticube/csv/QuotedText", name := "value", desc := "()Ljava/lang/String;" } : Jvm.MethodName) prog_30_method_6_code (1 : Nat) (Option.some (Jvm.ClassFile.FieldType.object "java/lang/String"))).before args0 about1 = true := code_word (m := ⟨10, 2⟩) (meth := k10m2) (c := k10c2) (by decide +kernel) rfl rfl rfl (by decide +kernel)
set_option maxRecDepth 65536 in
theorem w_c44 : (Jvm.Cond.code ({ cls := "java/lang/String", name := "equals", desc := "(Ljava/lang/Object;)Z" } : Jvm.MethodName) jdk_42_method_66_code (3 : Nat) (Option.some Jvm.ClassFile.FieldType.boolean)).before args0 about1 = true := code_word (m := ⟨7, 5⟩) (meth := k7m5) (c := k7c5) (by decide +kernel) rfl rfl rfl (by decide +kernel)
set_option maxRecDepth 65536 in
theorem w_c45 : (Jvm.Cond.code ({ cls := "java/lang/StringLatin1", name := "equals", desc := "([B[B)Z" } : Jvm.MethodName) jdk_43_method_13_code (3 : Nat) (Option.some Jvm.ClassFile.FieldType.boolean)).before args0 about1 = true := code_word (m := ⟨15, 3⟩) (meth := k15m3) (c := k15c3) (by decide +kernel) rfl rfl rfl (by decide +kernel)
set_option maxRecDepth 65536 in
theorem w_c46 : (Jvm.Cond.code ({ cls := "com/example/latticube/latticube/csv/QuotedText", name := "end", desc := "()I" } : Jvm.MethodName) prog_30_method_7_code (1 : Nat) (Option.some Jvm.ClassFile.FieldType.int)).before args0 about1 = true := code_word (m := ⟨10, 3⟩) (meth := k10m3) (c := k10c3) (by decide +kernel) rfl rfl rfl (by decide +kernel)
def codes1 : List Jvm.Cond := [Jvm.Cond.code x code maxLocals ret, Jvm.Cond.code ({ cls := "java/lang/String", name := "<init>", desc := "([C)V" } : Jvm.MethodName) jdk_42_method_3_code (2 : Nat) (Option.none : Option Jvm.ClassFile.FieldType), Jvm.Cond.code ({ cls := "java/lang/String", name := "<init>", desc := "([CIILjava/lang/Void;)V" } : Jvm.MethodName) jdk_42_method_149_code (6 : Nat) (Option.none : Option Jvm.ClassFile.FieldType), Jvm.Cond.code ({ cls := "java/lang/Object", name := "<init>", desc := "()V" } : Jvm.MethodName) object_method_1_code (1 : Nat) (Option.none : Option Jvm.ClassFile.FieldType), Jvm.Cond.code ({ cls := "java/lang/StringUTF16", name := "compress", desc := "([CII)[B" } : Jvm.MethodName) jdk_52_method_16_code (6 : Nat) (Option.some (Jvm.ClassFile.FieldType.array Jvm.ClassFile.FieldType.byte)), Jvm.Cond.code ({ cls := "java/lang/StringUTF16", name := "compress", desc := "([CI[BII)I" } : Jvm.MethodName) jdk_52_method_21_code (7 : Nat) (Option.some Jvm.ClassFile.FieldType.int), Jvm.Cond.code ({ cls := "java/lang/StringUTF16", name := "coderFromArrayLen", desc := "([BI)B" } : Jvm.MethodName) jdk_52_method_15_code (2 : Nat) (Option.some Jvm.ClassFile.FieldType.byte), Jvm.Cond.code ({ cls := "com/example/latticube/latticube/csv/QuotedText", name := "read", desc := "(Ljava/lang/String;I)Ljava/util/Optional;" } : Jvm.MethodName) prog_30_method_2_code (5 : Nat) (Option.some (Jvm.ClassFile.FieldType.object "java/util/Optional")), Jvm.Cond.code ({ cls := "java/lang/StringBuilder", name := "<init>", desc := "()V" } : Jvm.MethodName) jdk_67_method_1_code (1 : Nat) (Option.none : Option Jvm.ClassFile.FieldType), Jvm.Cond.code ({ cls := "java/lang/AbstractStringBuilder", name := "<init>", desc := "(I)V" } : Jvm.MethodName) jdk_68_method_2_code (2 : Nat) (Option.none : Option Jvm.ClassFile.FieldType), Jvm.Cond.code ({ cls := "java/lang/String", name := "length", desc := "()I" } : Jvm.MethodName) jdk_42_method_54_code (1 : Nat) (Option.some Jvm.ClassFile.FieldType.int), Jvm.Cond.code ({ cls := "java/lang/String", name := "coder", desc := "()B" } : Jvm.MethodName) jdk_42_method_152_code (1 : Nat) (Option.some Jvm.ClassFile.FieldType.byte), Jvm.Cond.code ({ cls := "java/util/Optional", name := "empty", desc := "()Ljava/util/Optional;" } : Jvm.MethodName) jdk_32_method_1_code (1 : Nat) (Option.some (Jvm.ClassFile.FieldType.object "java/util/Optional")), Jvm.Cond.code ({ cls := "java/util/Optional", name := "isPresent", desc := "()Z" } : Jvm.MethodName) jdk_32_method_6_code (1 : Nat) (Option.some Jvm.ClassFile.FieldType.boolean), Jvm.Cond.code ({ cls := "java/lang/String", name := "charAt", desc := "(I)C" } : Jvm.MethodName) jdk_42_method_56_code (2 : Nat) (Option.some Jvm.ClassFile.FieldType.char), Jvm.Cond.code ({ cls := "java/lang/String", name := "isLatin1", desc := "()Z" } : Jvm.MethodName) jdk_42_method_154_code (1 : Nat) (Option.some Jvm.ClassFile.FieldType.boolean), Jvm.Cond.code ({ cls := "java/lang/StringLatin1", name := "charAt", desc := "([BI)C" } : Jvm.MethodName) jdk_43_method_2_code (2 : Nat) (Option.some Jvm.ClassFile.FieldType.char), Jvm.Cond.code ({ cls := "java/lang/String", name := "checkIndex", desc := "(II)V" } : Jvm.MethodName) jdk_42_method_155_code (2 : Nat) (Option.none : Option Jvm.ClassFile.FieldType), Jvm.Cond.code ({ cls := "jdk/internal/util/Preconditions", name := "checkIndex", desc := "(IILjava/util/function/BiFunction;)I" } : Jvm.MethodName) jdk_41_method_11_code (3 : Nat) (Option.some Jvm.ClassFile.FieldType.int), Jvm.Cond.code ({ cls := "java/lang/StringBuilder", name := "append", desc := "(C)Ljava/lang/StringBuilder;" } : Jvm.MethodName) jdk_67_method_14_code (2 : Nat) (Option.some (Jvm.ClassFile.FieldType.object "java/lang/StringBuilder")), Jvm.Cond.code ({ cls := "java/lang/AbstractStringBuilder", name := "append", desc := "(C)Ljava/lang/AbstractStringBuilder;" } : Jvm.MethodName) jdk_68_method_31_code (2 : Nat) (Option.some (Jvm.ClassFile.FieldType.object "java/lang/AbstractStringBuilder")), Jvm.Cond.code ({ cls := "java/lang/AbstractStringBuilder", name := "ensureCapacityInternal", desc := "(I)V" } : Jvm.MethodName) jdk_68_method_9_code (3 : Nat) (Option.none : Option Jvm.ClassFile.FieldType), Jvm.Cond.code ({ cls := "java/lang/AbstractStringBuilder", name := "isLatin1", desc := "()Z" } : Jvm.MethodName) jdk_68_method_68_code (1 : Nat) (Option.some Jvm.ClassFile.FieldType.boolean), Jvm.Cond.code ({ cls := "java/lang/StringLatin1", name := "canEncode", desc := "(C)Z" } : Jvm.MethodName) jdk_43_method_3_code (1 : Nat) (Option.some Jvm.ClassFile.FieldType.boolean), Jvm.Cond.code ({ cls := "java/lang/StringBuilder", name := "toString", desc := "()Ljava/lang/String;" } : Jvm.MethodName) jdk_67_method_42_code (1 : Nat) (Option.some (Jvm.ClassFile.FieldType.object "java/lang/String")), Jvm.Cond.code ({ cls := "java/lang/String", name := "<init>", desc := "(Ljava/lang/StringBuilder;)V" } : Jvm.MethodName) jdk_42_method_53_code (2 : Nat) (Option.none : Option Jvm.ClassFile.FieldType), Jvm.Cond.code ({ cls := "java/lang/String", name := "<init>", desc := "(Ljava/lang/AbstractStringBuilder;Ljava/lang/Void;)V" } : Jvm.MethodName) jdk_42_method_150_code (5 : Nat) (Option.none : Option Jvm.ClassFile.FieldType), Jvm.Cond.code ({ cls := "java/lang/AbstractStringBuilder", name := "getValue", desc := "()[B" } : Jvm.MethodName) jdk_68_method_64_code (1 : Nat) (Option.some (Jvm.ClassFile.FieldType.array Jvm.ClassFile.FieldType.byte)), Jvm.Cond.code ({ cls := "java/lang/StringBuilder", name := "length", desc := "()I" } : Jvm.MethodName) jdk_67_method_93_code (1 : Nat) (Option.some Jvm.ClassFile.FieldType.int), Jvm.Cond.code ({ cls := "java/lang/AbstractStringBuilder", name := "length", desc := "()I" } : Jvm.MethodName) jdk_68_method_6_code (1 : Nat) (Option.some Jvm.ClassFile.FieldType.int), Jvm.Cond.code ({ cls := "java/util/Arrays", name := "copyOfRange", desc := "([BII)[B" } : Jvm.MethodName) jdk_65_method_132_code (3 : Nat) (Option.some (Jvm.ClassFile.FieldType.array Jvm.ClassFile.FieldType.byte)), Jvm.Cond.code ({ cls := "java/util/Arrays", name := "copyOfRangeByte", desc := "([BII)[B" } : Jvm.MethodName) jdk_65_method_133_code (5 : Nat) (Option.some (Jvm.ClassFile.FieldType.array Jvm.ClassFile.FieldType.byte)), Jvm.Cond.code ({ cls := "java/util/Arrays", name := "checkLength", desc := "(II)V" } : Jvm.MethodName) jdk_65_method_131_code (2 : Nat) (Option.none : Option Jvm.ClassFile.FieldType), Jvm.Cond.code ({ cls := "java/lang/Math", name := "min", desc := "(II)I" } : Jvm.MethodName) jdk_29_method_69_code (2 : Nat) (Option.some Jvm.ClassFile.FieldType.int), Jvm.Cond.code ({ cls := "com/example/latticube/latticube/csv/QuotedText", name := "<init>", desc := "(Ljava/lang/String;I)V" } : Jvm.MethodName) prog_30_method_1_code (3 : Nat) (Option.none : Option Jvm.ClassFile.FieldType), Jvm.Cond.code ({ cls := "java/lang/Record", name := "<init>", desc := "()V" } : Jvm.MethodName) jdk_30_method_1_code (1 : Nat) (Option.none : Option Jvm.ClassFile.FieldType), Jvm.Cond.code ({ cls := "java/util/Optional", name := "of", desc := "(Ljava/lang/Object;)Ljava/util/Optional;" } : Jvm.MethodName) jdk_32_method_3_code (1 : Nat) (Option.some (Jvm.ClassFile.FieldType.object "java/util/Optional")), Jvm.Cond.code ({ cls := "java/util/Objects", name := "requireNonNull", desc := "(Ljava/lang/Object;)Ljava/lang/Object;" } : Jvm.MethodName) jdk_31_method_10_code (1 : Nat) (Option.some (Jvm.ClassFile.FieldType.object "java/lang/Object")), Jvm.Cond.code ({ cls := "java/util/Optional", name := "<init>", desc := "(Ljava/lang/Object;)V" } : Jvm.MethodName) jdk_32_method_2_code (2 : Nat) (Option.none : Option Jvm.ClassFile.FieldType), Jvm.Cond.code ({ cls := "java/lang/String", name := "valueOf", desc := "(C)Ljava/lang/String;" } : Jvm.MethodName) jdk_42_method_139_code (1 : Nat) (Option.some (Jvm.ClassFile.FieldType.object "java/lang/String")), Jvm.Cond.code ({ cls := "java/lang/StringLatin1", name := "toBytes", desc := "(C)[B" } : Jvm.MethodName) jdk_43_method_46_code (1 : Nat) (Option.some (Jvm.ClassFile.FieldType.array Jvm.ClassFile.FieldType.byte)), Jvm.Cond.code ({ cls := "java/lang/String", name := "<init>", desc := "([BB)V" } : Jvm.MethodName) jdk_42_method_151_code (3 : Nat) (Option.none : Option Jvm.ClassFile.FieldType), Jvm.Cond.code ({ cls := "java/util/Optional", name := "get", desc := "()Ljava/lang/Object;" } : Jvm.MethodName) jdk_32_method_5_code (1 : Nat) (Option.some (Jvm.ClassFile.FieldType.object "java/lang/Object")), Jvm.Cond.code ({ cls := "com/example/latticube/latticube/csv/QuotedText", name := "value", desc := "()Ljava/lang/String;" } : Jvm.MethodName) prog_30_method_6_code (1 : Nat) (Option.some (Jvm.ClassFile.FieldType.object "java/lang/String")), Jvm.Cond.code ({ cls := "java/lang/String", name := "equals", desc := "(Ljava/lang/Object;)Z" } : Jvm.MethodName) jdk_42_method_66_code (3 : Nat) (Option.some Jvm.ClassFile.FieldType.boolean), Jvm.Cond.code ({ cls := "java/lang/StringLatin1", name := "equals", desc := "([B[B)Z" } : Jvm.MethodName) jdk_43_method_13_code (3 : Nat) (Option.some Jvm.ClassFile.FieldType.boolean), Jvm.Cond.code ({ cls := "com/example/latticube/latticube/csv/QuotedText", name := "end", desc := "()I" } : Jvm.MethodName) prog_30_method_7_code (1 : Nat) (Option.some Jvm.ClassFile.FieldType.int)]
set_option maxRecDepth 65536 in
theorem codes_eq : words1.filter isCode = codes1 := rfl
theorem w_codes : ∀ c ∈ words1.filter isCode, c.before args0 about1 = true := by
  rw [codes_eq]
  intro c hc
  simp only [codes1, List.mem_cons, List.not_mem_nil, or_false] at hc
  rcases hc with rfl | rfl | rfl | rfl | rfl | rfl | rfl | rfl | rfl | rfl | rfl | rfl | rfl | rfl | rfl | rfl | rfl | rfl | rfl | rfl | rfl | rfl | rfl | rfl | rfl | rfl | rfl | rfl | rfl | rfl | rfl | rfl | rfl | rfl | rfl | rfl | rfl | rfl | rfl | rfl | rfl | rfl | rfl | rfl | rfl | rfl | rfl
  · exact w_c0
  · exact w_c1
  · exact w_c2
  · exact w_c3
  · exact w_c4
  · exact w_c5
  · exact w_c6
  · exact w_c7
  · exact w_c8
  · exact w_c9
  · exact w_c10
  · exact w_c11
  · exact w_c12
  · exact w_c13
  · exact w_c14
  · exact w_c15
  · exact w_c16
  · exact w_c17
  · exact w_c18
  · exact w_c19
  · exact w_c20
  · exact w_c21
  · exact w_c22
  · exact w_c23
  · exact w_c24
  · exact w_c25
  · exact w_c26
  · exact w_c27
  · exact w_c28
  · exact w_c29
  · exact w_c30
  · exact w_c31
  · exact w_c32
  · exact w_c33
  · exact w_c34
  · exact w_c35
  · exact w_c36
  · exact w_c37
  · exact w_c38
  · exact w_c39
  · exact w_c40
  · exact w_c41
  · exact w_c42
  · exact w_c43
  · exact w_c44
  · exact w_c45
  · exact w_c46
set_option maxRecDepth 65536 in
theorem w_t1 : (words1.take 24).all (fun c => isCode c || c.before args0 about1) = true := by decide +kernel
set_option maxRecDepth 65536 in
theorem w_t2 : ((words1.drop 24).take 24).all (fun c => isCode c || c.before args0 about1) = true := by decide +kernel
set_option maxRecDepth 65536 in
theorem w_t3 : (((words1.drop 24).drop 24).take 24).all (fun c => isCode c || c.before args0 about1) = true := by decide +kernel
set_option maxRecDepth 65536 in
theorem w_t4 : ((((words1.drop 24).drop 24).drop 24).take 24).all (fun c => isCode c || c.before args0 about1) = true := by decide +kernel
set_option maxRecDepth 65536 in
theorem w_t5 : (((((words1.drop 24).drop 24).drop 24).drop 24).take 24).all (fun c => isCode c || c.before args0 about1) = true := by decide +kernel
set_option maxRecDepth 65536 in
theorem w_t6 : ((((((words1.drop 24).drop 24).drop 24).drop 24).drop 24).take 24).all (fun c => isCode c || c.before args0 about1) = true := by decide +kernel
set_option maxRecDepth 65536 in
theorem w_t7 : (((((((words1.drop 24).drop 24).drop 24).drop 24).drop 24).drop 24).take 24).all (fun c => isCode c || c.before args0 about1) = true := by decide +kernel
set_option maxRecDepth 65536 in
theorem w_t8 : ((((((((words1.drop 24).drop 24).drop 24).drop 24).drop 24).drop 24).drop 24).take 24).all (fun c => isCode c || c.before args0 about1) = true := by decide +kernel
set_option maxRecDepth 65536 in
theorem w_t9 : (((((((((words1.drop 24).drop 24).drop 24).drop 24).drop 24).drop 24).drop 24).drop 24).take 24).all (fun c => isCode c || c.before args0 about1) = true := by decide +kernel
set_option maxRecDepth 65536 in
theorem w_t10 : (((((((((words1.drop 24).drop 24).drop 24).drop 24).drop 24).drop 24).drop 24).drop 24).drop 24).all (fun c => isCode c || c.before args0 about1) = true := by decide +kernel
theorem w_tables : (allAtoms (Jvm.Cond.code x code maxLocals ret :: tables_1)).before args0 about1 = true := by
  rw [allAtoms_all]
  show words1.all (fun c => c.before args0 about1) = true
  refine all_split ?_ w_codes
  rw [← List.take_append_drop 24 words1, List.all_append, w_t1, ← List.take_append_drop 24 (words1.drop 24), List.all_append, w_t2, ← List.take_append_drop 24 ((words1.drop 24).drop 24), List.all_append, w_t3, ← List.take_append_drop 24 (((words1.drop 24).drop 24).drop 24), List.all_append, w_t4, ← List.take_append_drop 24 ((((words1.drop 24).drop 24).drop 24).drop 24), List.all_append, w_t5, ← List.take_append_drop 24 (((((words1.drop 24).drop 24).drop 24).drop 24).drop 24), List.all_append, w_t6, ← List.take_append_drop 24 ((((((words1.drop 24).drop 24).drop 24).drop 24).drop 24).drop 24), List.all_append, w_t7, ← List.take_append_drop 24 (((((((words1.drop 24).drop 24).drop 24).drop 24).drop 24).drop 24).drop 24), List.all_append, w_t8, ← List.take_append_drop 24 ((((((((words1.drop 24).drop 24).drop 24).drop 24).drop 24).drop 24).drop 24).drop 24), List.all_append, w_t9, w_t10]
  rfl
set_option maxRecDepth 65536 in
theorem w_rest : rest_1_c.before args0 about1 = true := by decide +kernel
set_option maxRecDepth 65536 in
theorem w_case : (Jvm.Cond.and given_1 narrow_1).before args0 about1 = true := by decide +kernel
set_option maxRecDepth 65536 in
theorem w_consts : constsHeld consts_1 about1 := Jvm.Lit.constsHeldB_iff.mp (by decide +kernel)
theorem w_applies : (headSpec (Jvm.Cond.code x code maxLocals ret :: tables_1) room_1).applies x e0.platform about1 = true :=
  (Spec.applies_iff w_frames).mpr ⟨w_running, w_runnable, w_alone, w_named, w_hears, w_ripe, w_room, w_tables⟩
theorem atStart : AtStart classFile x code maxLocals ret World_1 tables_1 room_1 Calls_1 rest_1 Pre_1 launch0 p0 e0 about1 theMethod args0 below0 :=
  ⟨lists_1, trivial, launch0.admits_env _ _ _, launch0.least_env, fairChoices_fair.cas, fairChoices_fair.clock, w_frames, w_args, w_heap, w_applies, ⟨w_consts, trivial⟩, w_rest, w_case⟩
end start1
theorem witness_1 : WitnessClaimed_1 := ⟨start1.p0, start1.e0, start1.about1, start1.theMethod, start1.args0, start1.below0, start1.atStart⟩
end Jvm.Pilot.@@N@@
