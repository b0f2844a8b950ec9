import JvmDerived
import JvmDerived.Pilot.@@N@@Statement
import JvmDerived.Pilot.@@N@@Code
set_option linter.unusedVariables false
set_option linter.unusedSimpArgs false
namespace Jvm.OwnKit
open Sem ClassFile Op Lib Bundle Jvm.Stand Jvm.Free Jvm.LawKit Jvm.RoadKit
/-! Own text. 'Here': the run of one method has come to this pc, these locals, this stack, over this heap; the state and the tables at hand are hidden. 'Met': a method's contract; 'Paid': a call of it can be paid. -/
abbrev Ctx : Type := Program × Launch × Env × State × MethodId × Array Value × List Frame × Method × Code × State
def Here (k : Ctx) (R : Room) (Z : State) (EL : List (String × Nat)) (n0 : Nat) (y : MethodName) (B : ByteArray) (ret : Option FieldType) (h0 : Heap) (ws : List Addr) (h : Heap) (pc : Nat) (L : Array Slot) (S : List Value) (ce sl : Nat) (sf : List Addr) : Prop :=
  match k with
  | (p, l, e, s, m, args, below, meth, c, start) =>
    ∃ (T : State) (vm0 : Vm) (k0 : Nat) (locs : List Loc),
      Stand p l e R (s.setVm vm0) m args below meth c T locs ce sl ∧ T.heap = h ∧ s.Since vm0 k0 ∧ k0 ≤ h.size ∧ Z.Warmed39 vm0 ∧ vm0.findClass y.cls = some m.cls ∧ CHr Z EL s.vm s.heap vm0 h ∧ Fr n0 locs ∧
      (s.heap = h0 ∧ Keep h0 h ws ∧ Old Z n0 h ∧ ∀ x ∈ sf, Safe Z EL vm0 h x ∧ x < h.size ∧ n0 ≤ x ∧ (x ∈ ws ∨ h0.size ≤ x)) ∧
      (p.tables.exec = Jvm.exec ∧ c.code = B ∧ L.size = c.maxLocals ∧ meth.sig.returnType = ret ∧ meth.name = y.name ∧ meth.locks = false ∧ ∃ a0, EW Z a0 EL) ∧
      ∀ t, Steps p.tables e below (T.setTop (mkF m pc L S)) t → Steps p.tables e below start t
def Done (k : Ctx) (R : Room) (Z : State) (EL : List (String × Nat)) (n0 : Nat) (h0 : Heap) (ws : List Addr) (Q : Option Value → Heap → Prop) : Prop :=
  match k with
  | (p, l, e, s, m, args, below, meth, c, start) =>
    ∃ s₂ o, Steps p.tables e below start s₂ ∧ s₂.status = .running ∧ Ended s₂ below o ∧ ∃ v L, o = .returned v ∧ (Q v s₂.heap ∧ Keep h0 s₂.heap ws ∧ Fr n0 L) ∧ CHr Z EL s.vm s.heap s₂.vm s₂.heap ∧ ReturnedEndW s o s₂ L R.cells R.slots
def Met (Z : State) (EL : List (String × Nat)) (n0 : Nat) (y : MethodName) (B : ByteArray) (mx : Nat) (ret : Option FieldType) (rm : Room) (as' : Array Value) (h : Heap) (ws : List Addr) (Q : Option Value → Heap → Prop) : Prop :=
  ∀ (l : Launch) (wds : List Jvm.Cond), MetFree l y (head1 (Jvm.Cond.code y B mx ret :: wds) rm) (fun a U => a = as' ∧ Z.Warmed39 U.vm ∧ U.heap = h ∧ CHv Z EL U.vm h ∧ ∀ x ∈ ws, Safe Z EL U.vm h x) (fun _ _ _ _ _ => True)
    (fun _ U o U' => ∃ v L, o = .returned v ∧ (Q v U'.heap ∧ Keep h U'.heap ws ∧ Fr n0 L) ∧ CHr Z EL U.vm U.heap U'.vm U'.heap ∧ ReturnedEndW U o U' L rm.cells rm.slots)
def Paid (k : Ctx) (R : Room) (Z : State) (EL : List (String × Nat)) (n0 : Nat) (z : MethodName) (W : Nat) (as' : Array Value) (h : Heap) (ws : List Addr) (kc ks : Nat) (Q : Option Value → Heap → Prop) : Prop :=
  match k with
  | (p, l, e, s, m, args, below, meth, c, start) =>
    ∀ vm0, Z.Warmed39 vm0 → CHv Z EL vm0 h → (∀ x ∈ ws, Safe Z EL vm0 h x ∧ x < h.size) →
      BackS l R p e below (s.setVm vm0) args z 3 W (fun A a => a = as' ∧ A.U.heap = h ∧ A.cells + kc ≤ R.cells ∧ A.slots + ks ≤ R.slots)
        (fun A _ v D => ∃ L, (Q v D.U.heap ∧ Keep h D.U.heap ws ∧ Fr n0 L) ∧ D.locs = A.locs ++ L ∧ D.cells = A.cells + kc ∧ D.slots = A.slots + ks ∧ CHr Z EL vm0 h D.U.vm D.U.heap)
section Base
variable {k : Ctx} {R rm : Room} {Z : State} {EL : List (String × Nat)} {n0 : Nat} {y z : MethodName} {B bytes : ByteArray} {ret rt : Option FieldType} {h0 h h' : Heap} {ws ws' sf : List Addr} {pc : Nat} {L : Array Slot} {S : List Value} {ce sl mx : Nat} {a0 as' : Array Value} {Q : Option Value → Heap → Prop} {s : State} {vm0 vm1 : Vm} {k0 : Nat}
theorem upd (hC : CHr Z EL s.vm s.heap vm0 h) (hk : k0 ≤ h.size) (hF : s.heap = h0 ∧ Keep h0 h ws ∧ Old Z n0 h ∧ ∀ x ∈ sf, Safe Z EL vm0 h x ∧ x < h.size ∧ n0 ≤ x ∧ (x ∈ ws ∨ h0.size ≤ x)) {w1 : List Addr} (K : Keep h h' w1) (hw : ∀ x ∈ w1, x ∈ sf) :
    CHr Z EL s.vm s.heap vm0 h' ∧ k0 ≤ h'.size ∧ (s.heap = h0 ∧ Keep h0 h' ws ∧ Old Z n0 h' ∧ ∀ x ∈ sf, Safe Z EL vm0 h' x ∧ x < h'.size ∧ n0 ≤ x ∧ (x ∈ ws ∨ h0.size ≤ x)) := by
  obtain ⟨f1, f2, f3, f4⟩ := hF
  have hs : ∀ x ∈ w1, Safe Z EL vm0 h x := fun x q => (f4 x (hw x q)).1
  refine ⟨hC.trans (CHr.keep K hs hC.1), Nat.le_trans hk K.1, f1, f2.trans K (fun x q => (f4 x (hw x q)).2.2.2), f3.keep K (fun x q => (f4 x (hw x q)).2.2.1), fun x q => ?_⟩
  obtain ⟨g1, g2, g3⟩ := f4 x q
  exact ⟨Safe.keep K hs hC.1 g1, Nat.lt_of_lt_of_le g2 K.1, g3⟩
theorem updC (hC : CHr Z EL s.vm s.heap vm0 h) (hF : s.heap = h0 ∧ Keep h0 h ws ∧ Old Z n0 h ∧ ∀ x ∈ sf, Safe Z EL vm0 h x ∧ x < h.size ∧ n0 ≤ x ∧ (x ∈ ws ∨ h0.size ≤ x)) {w1 : List Addr} (K : Keep h h' w1) (hw : ∀ x ∈ w1, x ∈ sf) (A : CHr Z EL vm0 h vm1 h') :
    CHr Z EL s.vm s.heap vm1 h' ∧ (s.heap = h0 ∧ Keep h0 h' ws ∧ Old Z n0 h' ∧ ∀ x ∈ sf, Safe Z EL vm1 h' x ∧ x < h'.size ∧ n0 ≤ x ∧ (x ∈ ws ∨ h0.size ≤ x)) := by
  obtain ⟨f1, f2, f3, f4⟩ := hF
  refine ⟨hC.trans A, f1, f2.trans K (fun x q => (f4 x (hw x q)).2.2.2), f3.keep K (fun x q => (f4 x (hw x q)).2.2.1), fun x q => ?_⟩
  obtain ⟨g1, g2, g3⟩ := f4 x q
  exact ⟨A.safe g2 g1, Nat.lt_of_lt_of_le g2 K.1, g3⟩
theorem extKeep (E : Ext h h') : Keep h h' [] := (Keep.refl h []).ext E
/-- a fresh cell is one more that may be written -/
theorem updN (hC : CHr Z EL s.vm s.heap vm0 h) (hk : k0 ≤ h.size) (hF : s.heap = h0 ∧ Keep h0 h ws ∧ Old Z n0 h ∧ ∀ x ∈ sf, Safe Z EL vm0 h x ∧ x < h.size ∧ n0 ≤ x ∧ (x ∈ ws ∨ h0.size ≤ x)) (E : Ext h h') (hlt : h.size < h'.size) :
    CHr Z EL s.vm s.heap vm0 h' ∧ k0 ≤ h'.size ∧ (s.heap = h0 ∧ Keep h0 h' ws ∧ Old Z n0 h' ∧ ∀ x ∈ h.size :: sf, Safe Z EL vm0 h' x ∧ x < h'.size ∧ n0 ≤ x ∧ (x ∈ ws ∨ h0.size ≤ x)) := by
  obtain ⟨u1, u2, u3, u4, u5, u6⟩ := upd hC hk hF (extKeep E) all0
  refine ⟨u1, u2, u3, u4, u5, fun x q => ?_⟩
  rcases List.mem_cons.mp q with rfl | q
  · exact ⟨Safe.ext E hC.1 (Safe.new (Nat.le_refl _)), hlt, by have := hF.2.2.1.2.1; have := hF.2.2.1.1; omega, Or.inr hF.2.1.1⟩
  · exact u6 x q
theorem Here.go (H : Here k R Z EL n0 y B ret h0 ws h pc L S ce sl sf) {pc' : Nat} {L' : Array Slot} {S' : List Value} (hL : L'.size = L.size)
    (f : ∀ (p : Program) (e : Env) (below : List Frame) (m : MethodId) (c : Code) (T t : State), At T m c below → p.tables.exec = Jvm.exec → c.code = B → Steps p.tables e below (T.setTop (mkF m pc' L' S')) t → Steps p.tables e below (T.setTop (mkF m pc L S)) t) :
    Here k R Z EL n0 y B ret h0 ws h pc' L' S' ce sl sf := by
  obtain ⟨p, l, e, s, m, args, below, meth, c, start⟩ := k
  obtain ⟨T, vm0, k0, locs, X, e1, hS, hk, hZ, hown, hC, hN, hF, ⟨hx, hb, hl, hr⟩, st⟩ := H
  exact ⟨T, vm0, k0, locs, X, e1, hS, hk, hZ, hown, hC, hN, hF, ⟨hx, hb, hL.trans hl, hr⟩, fun t q => st t (f p e below m c T t X.here hx hb q)⟩
/-- a step that reads the tables or the heap -/
theorem Here.goT (H : Here k R Z EL n0 y B ret h0 ws h pc L S ce sl sf) {pc' : Nat} {L' : Array Slot} {S' : List Value} (hL : L'.size = L.size)
    (f : ∀ (p : Program) (l : Launch) (e : Env) (s : State) (m : MethodId) (args : Array Value) (below : List Frame) (meth : Method) (c : Code) (T : State) (locs : List Loc) (ce sl : Nat), Stand p l e R s m args below meth c T locs ce sl → T.heap = h → Z.Warmed39 s.vm → s.vm.findClass y.cls = some m.cls → p.tables.exec = Jvm.exec → c.code = B → L.size = c.maxLocals → s.heap = h0 →
      ∃ T', Stand p l e R s m args below meth c T' locs ce sl ∧ T'.heap = h ∧ ∀ t, Steps p.tables e below (T'.setTop (mkF m pc' L' S')) t → Steps p.tables e below (T.setTop (mkF m pc L S)) t) :
    Here k R Z EL n0 y B ret h0 ws h pc' L' S' ce sl sf := by
  obtain ⟨p, l, e, s, m, args, below, meth, c, start⟩ := k
  obtain ⟨T, vm0, k0, locs, X, e1, hS, hk, hZ, hown, hC, hN, hF, ⟨hx, hb, hl, hr⟩, st⟩ := H
  obtain ⟨T', X', e2, g⟩ := f p l e (s.setVm vm0) m args below meth c T locs ce sl X e1 hZ hown hx hb hl hF.1
  exact ⟨T', vm0, k0, locs, X', e2, hS, hk, hZ, hown, hC, hN, hF, ⟨hx, hb, hL.trans hl, hr⟩, fun t q => st t (g t q)⟩
theorem Here.old (H : Here k R Z EL n0 y B ret h0 ws h pc L S ce sl sf) : Ext Z.heap h := by
  obtain ⟨p, l, e, s, m, args, below, meth, c, start⟩ := k
  obtain ⟨T, vm0, k0, locs, X, e1, hS, hk, hZ, hown, hC, hN, hF, -⟩ := H
  exact hF.2.2.1.2
theorem Here.oldO (H : Here k R Z EL n0 y B ret h0 ws h pc L S ce sl sf) : Old Z n0 h := by
  obtain ⟨p, l, e, s, m, args, below, meth, c, start⟩ := k
  obtain ⟨T, vm0, k0, locs, X, e1, hS, hk, hZ, hown, hC, hN, hF, -⟩ := H
  exact hF.2.2.1
theorem Here.sf_lt (H : Here k R Z EL n0 y B ret h0 ws h pc L S ce sl sf) {x : Addr} (hx : x ∈ sf) : x < h.size ∧ n0 ≤ x := by
  obtain ⟨p, l, e, s, m, args, below, meth, c, start⟩ := k
  obtain ⟨T, vm0, k0, locs, X, e1, hS, hk, hZ, hown, hC, hN, hF, -⟩ := H
  exact ⟨(hF.2.2.2 x hx).2.1, (hF.2.2.2 x hx).2.2.1⟩
theorem Here.kept (H : Here k R Z EL n0 y B ret h0 ws h pc L S ce sl sf) : Keep h0 h ws := by
  obtain ⟨p, l, e, s, m, args, below, meth, c, start⟩ := k
  obtain ⟨T, vm0, k0, locs, X, e1, hS, hk, hZ, hown, hC, hN, hF, -⟩ := H
  exact hF.2.1
/-- fewer promises: more cells and slots booked, a shorter list of what may be written -/
theorem Here.more (H : Here k R Z EL n0 y B ret h0 ws h pc L S ce sl sf) {ce' sl' : Nat} {sf' : List Addr} (hc : ce ≤ ce') (hs : sl ≤ sl') (hf : ∀ x ∈ sf', x ∈ sf) : Here k R Z EL n0 y B ret h0 ws h pc L S ce' sl' sf' := by
  obtain ⟨p, l, e, s, m, args, below, meth, c, start⟩ := k
  obtain ⟨T, vm0, k0, locs, X, e1, hS, hk, hZ, hown, hC, hN, ⟨f1, f2, f3, f4⟩, hr⟩ := H
  exact ⟨T, vm0, k0, locs, X.more hc hs, e1, hS, hk, hZ, hown, hC, hN, ⟨f1, f2, f3, fun x q => f4 x (hf x q)⟩, hr⟩
/-! ### the ends -/
theorem Here.fin (H : Here k R Z EL n0 y B ret h0 ws h pc L S ce sl sf) {v : Option Value} (hv : ret = none → v = none) (hc : ce ≤ R.cells) (hs : sl ≤ R.slots) (hQ : Q v h)
    (f : ∀ (p : Program) (l : Launch) (e : Env) (s : State) (m : MethodId) (args : Array Value) (below : List Frame) (meth : Method) (c : Code) (T : State) (locs : List Loc) (ce sl : Nat) (fs : List Frame), Stand p l e R s m args below meth c T locs ce sl → p.tables.exec = Jvm.exec → c.code = B → meth.sig.returnType = ret →
      (∀ (f : JFrame) (acts : List Action), f.method = m → f.locked = none → f.entered = [] → (doReturn e (T.setTop f) acts v).1 = T.setFrames fs) → Steps p.tables e below (T.setTop (mkF m pc L S)) (T.setFrames fs)) :
    Done k R Z EL n0 h0 ws Q := by
  obtain ⟨p, l, e, s, m, args, below, meth, c, start⟩ := k
  obtain ⟨T, vm0, k0, locs, X, e1, hS, hk, hZ, hown, hC, hN, hF, ⟨hx, hb, hl, hr, hnm, hlk, a0, hE⟩, st⟩ := H
  obtain ⟨fs, g1, g2, g3, gE⟩ := X.leaveW hS (by rw [e1]; exact hk) (v := v) (fun q => hv (hr ▸ q)) hlk
  have hA : CHr Z EL vm0 h T.vm h := CHv.at X hZ hE hC.1
  refine ⟨T.setFrames fs, _, st _ (f p l e _ m args below meth c T locs ce sl fs X hx hb hr g1), g2, g3, v, locs, rfl, ⟨?_, ?_, hN⟩, ?_, ?_⟩
  · show Q v T.heap
    rw [e1]; exact hQ
  · show Keep h0 T.heap ws
    rw [e1]; exact hF.2.1
  · show CHr Z EL s.vm s.heap T.vm T.heap
    rw [e1]; exact hC.trans hA
  · exact ⟨gE.1, gE.2.1, gE.2.2.1, gE.2.2.2.mono hc hs⟩
theorem Here.retI (H : Here k R Z EL n0 y B ret h0 ws h pc L [.int w] ce sl sf) {t : FieldType} (ht : ret = some t) (hn : narrow t (.int w) = .int w) (hti : t = .int ∨ t = .boolean ∨ t = .byte ∨ t = .char ∨ t = .short) (d : decode B pc = .ok (.ireturn, 1)) (hc : ce ≤ R.cells) (hs : sl ≤ R.slots) (hQ : Q (some (.int w)) h) : Done k R Z EL n0 h0 ws Q :=
  H.fin (fun q => by rw [ht] at q; cases q) hc hs hQ fun p l e s m args below meth c T locs ce sl fs X hx hB hr g => X.ireturnOut hx (hr.trans ht) hn hti (Jvm.hb hB d) g
theorem Here.retA (H : Here k R Z EL n0 y B ret h0 ws h pc L [w] ce sl sf) {t : FieldType} (ht : ret = some t) (hi : t.isReference = true) (hw : w.isRef = true) (d : decode B pc = .ok (.areturn, 1)) (hc : ce ≤ R.cells) (hs : sl ≤ R.slots) (hQ : Q (some w) h) : Done k R Z EL n0 h0 ws Q :=
  H.fin (fun q => by rw [ht] at q; cases q) hc hs hQ fun p l e s m args below meth c T locs ce sl fs X hx hB hr g => X.areturnOut hx hw (hr.trans ht) hi (Jvm.hb hB d) g
theorem Here.retV (H : Here k R Z EL n0 y B ret h0 ws h pc L [] ce sl sf) (ht : ret = none) (d : decode B pc = .ok (.return_, 1)) (hc : ce ≤ R.cells) (hs : sl ≤ R.slots) (hQ : Q none h) : Done k R Z EL n0 h0 ws Q :=
  H.fin (fun q => rfl) hc hs hQ fun p l e s m args below meth c T locs ce sl fs X hx hB hr g => X.returnOut hx (hr.trans ht) (Jvm.hb hB d) g
/-! ### the beginning, and a call's payment -/
theorem Met.of_walk {L0 : Array Slot} (pn : plainName y.cls = true) (hEL : EW Z a0 EL) (hO : Old Z n0 h) (hws : ∀ x ∈ ws, x < h.size ∧ n0 ≤ x) (ef : ∀ m, entryFrame m as' mx = mkF m 0 L0 []) (hL : L0.size = mx)
    (body : ∀ k : Ctx, Here k rm Z EL n0 y B ret h ws h 0 L0 [] 0 0 ws → Done k rm Z EL n0 h ws Q) : Met Z EL n0 y B mx ret rm as' h ws Q := by
  intro l wds
  refine MetFree.of_bodySF (plainFor_of_name pn) hisR ?_
  intro p e s m args below meth c s₁ Bd hml0 hP hK
  obtain ⟨rfl, hZ, hh, hC, hsf⟩ := hP
  have X0 : Stand p l e rm s m args below meth c s₁ [] 0 0 := Stand.of_body Bd
  have e0 : s₁.heap = h := by rw [← hh, Bd.state]; rfl
  have H : Here (p, l, e, s, m, args, below, meth, c, s₁.setTop (entryFrame m args mx)) rm Z EL n0 y B ret h ws h 0 L0 [] 0 0 ws :=
    ⟨s₁, s.vm, 0, [], X0, e0, (State.WarmedH.refl s).since 0, Nat.zero_le _, hZ, findClass_of_methodNamed Bd.named, by rw [hh]; exact CHr.refl hC, Fr.nil n0, ⟨hh, Keep.refl _ _, hO, fun x q => ⟨hsf x q, (hws x q).1, (hws x q).2, Or.inl q⟩⟩,
      ⟨Bd.exec, Bd.bytes, hL.trans hml0.symm, Bd.returns, (name_of_methodNamed Bd.named Bd.method).1, BodyLoose.notSynchronized Bd, a0, hEL⟩, fun t q => castTop (ef m) q⟩
  exact body _ H
theorem Paid.of_met {W : Nat} (hM : Met Z EL n0 z bytes mx rt rm as' h ws' Q) (wc : (Jvm.Cond.code z bytes mx rt).before a0 Z = true) (wz : (Jvm.Cond.initialized z.cls).before a0 Z = true) (hEL : EW Z a0 EL) (hf : rm.frames + 1 ≤ R.frames) (hl : W + (mx + 11) + rm.locals ≤ R.locals) :
    Paid k R Z EL n0 z W as' h ws' rm.cells rm.slots Q := by
  obtain ⟨p, l, e, s, m, args, below, meth, c, start⟩ := k
  intro vm0 hZ H hsf
  exact BackS.of_freeW (bytes := bytes) (maxL := mx) (ret := rt) (E := fun _ first o t L kk n => kk = rm.cells ∧ n = rm.slots ∧ (∃ v, o = .returned v ∧ Q v t.heap ∧ Keep h t.heap ws' ∧ Fr n0 L) ∧ CHr Z EL first.vm first.heap t.vm t.heap) (hM l []) hf hl
    (fun m meth c A a Y hp => have hU : Z.Warmed39 A.U.vm := wtrans (s := s.setVm vm0) hZ Y.warmed
      ⟨by show (Jvm.Cond.and _ .tt).before a A.U = true; rw [Cond.before_and, mv hU wc]; rfl, mv hU wc, mv hU wz, hp.2.2.1, hp.2.2.2⟩)
    (fun m meth c A a g mk Y hp => ⟨hp.1, wtrans (s := s.setVm vm0) hZ Y.warmed, hp.2.1, (CHv.at Y hZ hEL H).1, fun x q => (CHv.at Y hZ hEL H).safe (hsf x q).2 (hsf x q).1⟩) (fun _ _ _ _ _ _ _ _ _ => trivial)
    (fun _ _ _ _ ⟨v, L, h1, h2, h3, h4⟩ => ⟨L, _, _, h4, rfl, rfl, ⟨v, h1, h2⟩, h3⟩)
    (fun m meth c A a g mk v t L kk n Y hp _ _ ⟨e1, e2, ⟨v', e3, e4⟩, e5⟩ => by
      cases e3; subst e1 e2
      refine ⟨L, e4, rfl, rfl, rfl, (CHv.at Y hZ hEL H).trans ?_⟩
      rw [← hp.2.1]; exact e5)
/-- a callee that interns nothing, by the library's 'Back' -/
theorem Paid.of_back {W kc ks : Nat} {QB : Option Value → Heap → List Loc → Prop} (hEL : EW Z a0 EL)
    (hB : ∀ (p : Program) (l : Launch) (e : Env) (s : State) (args : Array Value) (below : List Frame), Z.Warmed39 s.vm → Back l R p e below s args z 3 W (fun A a => a = as' ∧ A.U.heap = h ∧ A.cells + kc ≤ R.cells ∧ A.slots + ks ≤ R.slots) (fun A _ v D => ∃ L, QB v D.U.heap L ∧ D.locs = A.locs ++ L ∧ D.cells = A.cells + kc ∧ D.slots = A.slots + ks))
    (hq : ∀ v h' L, QB v h' L → Q v h' ∧ Keep h h' ws' ∧ Fr n0 L) : Paid k R Z EL n0 z W as' h ws' kc ks Q := by
  obtain ⟨p, l, e, s, m, args, below, meth, c, start⟩ := k
  intro vm0 hZ H hsf
  intro m' meth' c' A g ig mk a X hg hsize hdg hW hn hp
  obtain ⟨v, D, X', ⟨L, q1, q2, q3, q4⟩, hsteps⟩ := hB p l e (s.setVm vm0) args below hZ m' meth' c' A g ig mk a X hg hsize hdg hW hn hp
  obtain ⟨r1, r2, r3⟩ := hq _ _ _ q1
  have hs : ∀ x ∈ ws', Safe Z EL vm0 h x := fun x q => (hsf x q).1
  have h1 : CHr Z EL vm0 h vm0 D.U.heap := CHr.keep r2 hs H
  have h2 : CHr Z EL vm0 D.U.heap D.U.vm D.U.heap := CHv.at X' hZ hEL h1.1
  exact ⟨v, D, X'.retabled X'.warmed.wide, X'.warmed.since _, by rw [hp.2.1]; exact r2.1, ⟨L, ⟨r1, r2, r3⟩, q2, q3, q4, h1.trans h2⟩, hsteps⟩
end Base
section Steps
variable {k : Ctx} {R : Room} {Z : State} {EL : List (String × Nat)} {n0 : Nat} {y : MethodName} {B : ByteArray} {ret : Option FieldType} {h0 h : Heap} {ws sf : List Addr} {pc : Nat} {L L' : Array Slot} {S : List Value} {ce sl : Nat} {a0 : Array Value}
theorem Here.iloadN {i : Fin 4} {v : Int32} (H : Here k R Z EL n0 y B ret h0 ws h pc L S ce sl sf) (pc' : Nat)  (d : decode B pc = .ok (.iload_n i, 1)) (hl : L[i.val]? = some (.val (.int v))) (hp : pc + 1 = pc' := by rfl) : Here k R Z EL n0 y B ret h0 ws h pc' L (.int v :: S) ce sl sf := by
  subst hp
  exact H.go rfl fun p e below m c T t A hx hB q => XS.iloadN A hx rfl (Jvm.hb hB d) hl q
theorem Here.iload {i : Nat} {v : Int32} (H : Here k R Z EL n0 y B ret h0 ws h pc L S ce sl sf) (pc' : Nat)  (d : decode B pc = .ok (.iload i, 2)) (hl : L[i]? = some (.val (.int v))) (hp : pc + 2 = pc' := by rfl) : Here k R Z EL n0 y B ret h0 ws h pc' L (.int v :: S) ce sl sf := by
  subst hp
  exact H.go rfl fun p e below m c T t A hx hB q => XS.iload A hx rfl (Jvm.hb hB d) hl q
theorem Here.aloadN {i : Fin 4} {v : Value} (H : Here k R Z EL n0 y B ret h0 ws h pc L S ce sl sf) (pc' : Nat)  (d : decode B pc = .ok (.aload_n i, 1)) (hl : L[i.val]? = some (.val v)) (hv : v.isRef = true := by rfl) (hp : pc + 1 = pc' := by rfl) : Here k R Z EL n0 y B ret h0 ws h pc' L (v :: S) ce sl sf := by
  subst hp
  exact H.go rfl fun p e below m c T t A hx hB q => XS.aloadN A hx rfl (Jvm.hb hB d) hl hv q
theorem Here.aload {i : Nat} {v : Value} (H : Here k R Z EL n0 y B ret h0 ws h pc L S ce sl sf) (pc' : Nat)  (d : decode B pc = .ok (.aload i, 2)) (hl : L[i]? = some (.val v)) (hv : v.isRef = true := by rfl) (hp : pc + 2 = pc' := by rfl) : Here k R Z EL n0 y B ret h0 ws h pc' L (v :: S) ce sl sf := by
  subst hp
  exact H.go rfl fun p e below m c T t A hx hB q => XS.aload A hx rfl (Jvm.hb hB d) hl hv q
theorem Here.lloadN {i : Fin 4} {v : Int64} (H : Here k R Z EL n0 y B ret h0 ws h pc L S ce sl sf) (pc' : Nat)  (d : decode B pc = .ok (.lload_n i, 1)) (hl : L[i.val]? = some (.val (.long v))) (hp : pc + 1 = pc' := by rfl) : Here k R Z EL n0 y B ret h0 ws h pc' L (.long v :: S) ce sl sf := by
  subst hp
  exact H.go rfl fun p e below m c T t A hx hB q => XT.lloadN A hx rfl (Jvm.hb hB d) hl q
theorem Here.lload {i : Nat} {v : Int64} (H : Here k R Z EL n0 y B ret h0 ws h pc L S ce sl sf) (pc' : Nat)  (d : decode B pc = .ok (.lload i, 2)) (hl : L[i]? = some (.val (.long v))) (hp : pc + 2 = pc' := by rfl) : Here k R Z EL n0 y B ret h0 ws h pc' L (.long v :: S) ce sl sf := by
  subst hp
  exact H.go rfl fun p e below m c T t A hx hB q => XT.lload A hx rfl (Jvm.hb hB d) hl q
theorem Here.iconst {i : Int} (H : Here k R Z EL n0 y B ret h0 ws h pc L S ce sl sf) (pc' : Nat) (v : Int32) (d : decode B pc = .ok (.iconst i, 1)) (hv : Int32.ofInt i = v := by rfl) (hp : pc + 1 = pc' := by rfl) : Here k R Z EL n0 y B ret h0 ws h pc' L (.int v :: S) ce sl sf := by
  subst hp
  exact H.go rfl fun p e below m c T t A hx hB q => XT.iconstV A hx rfl v (Jvm.hb hB d) hv q
theorem Here.bipush {i : Int} (H : Here k R Z EL n0 y B ret h0 ws h pc L S ce sl sf) (pc' : Nat) (v : Int32) (d : decode B pc = .ok (.bipush i, 2)) (hv : (Int8.ofInt i).toInt32 = v := by rfl) (hp : pc + 2 = pc' := by rfl) : Here k R Z EL n0 y B ret h0 ws h pc' L (.int v :: S) ce sl sf := by
  subst hp
  exact H.go rfl fun p e below m c T t A hx hB q => XT.bipushV A hx rfl v (Jvm.hb hB d) hv q
theorem Here.sipush {i : Int} (H : Here k R Z EL n0 y B ret h0 ws h pc L S ce sl sf) (pc' : Nat) (v : Int32) (d : decode B pc = .ok (.sipush i, 3)) (hv : (Int16.ofInt i).toInt32 = v := by rfl) (hp : pc + 3 = pc' := by rfl) : Here k R Z EL n0 y B ret h0 ws h pc' L (.int v :: S) ce sl sf := by
  subst hp
  exact H.go rfl fun p e below m c T t A hx hB q => XT.sipushV A hx rfl v (Jvm.hb hB d) hv q
theorem Here.lconst {i : Fin 2} (H : Here k R Z EL n0 y B ret h0 ws h pc L S ce sl sf) (pc' : Nat) (v : Int64) (d : decode B pc = .ok (.lconst i, 1)) (hv : Int64.ofNat i = v := by rfl) (hp : pc + 1 = pc' := by rfl) : Here k R Z EL n0 y B ret h0 ws h pc' L (.long v :: S) ce sl sf := by
  subst hp
  exact H.go rfl fun p e below m c T t A hx hB q => XT.lconstV A hx rfl v (Jvm.hb hB d) hv q
theorem Here.anull  (H : Here k R Z EL n0 y B ret h0 ws h pc L S ce sl sf) (pc' : Nat)  (d : decode B pc = .ok (.aconst_null, 1))  (hp : pc + 1 = pc' := by rfl) : Here k R Z EL n0 y B ret h0 ws h pc' L (.null :: S) ce sl sf := by
  subst hp
  exact H.go rfl fun p e below m c T t A hx hB q => XS.aconstNull A hx rfl (Jvm.hb hB d) q
theorem Here.iadd {x z : Int32} (H : Here k R Z EL n0 y B ret h0 ws h pc L (.int z :: .int x :: S) ce sl sf) (pc' : Nat)  (d : decode B pc = .ok (.iadd, 1))  (hp : pc + 1 = pc' := by rfl) : Here k R Z EL n0 y B ret h0 ws h pc' L (.int (x + z) :: S) ce sl sf := by
  subst hp
  exact H.go rfl fun p e below m c T t A hx hB q => XS.iadd A hx rfl (Jvm.hb hB d) rfl q
theorem Here.isub {x z : Int32} (H : Here k R Z EL n0 y B ret h0 ws h pc L (.int z :: .int x :: S) ce sl sf) (pc' : Nat)  (d : decode B pc = .ok (.isub, 1))  (hp : pc + 1 = pc' := by rfl) : Here k R Z EL n0 y B ret h0 ws h pc' L (.int (x - z) :: S) ce sl sf := by
  subst hp
  exact H.go rfl fun p e below m c T t A hx hB q => XS.isub A hx rfl (Jvm.hb hB d) rfl q
theorem Here.imul {x z : Int32} (H : Here k R Z EL n0 y B ret h0 ws h pc L (.int z :: .int x :: S) ce sl sf) (pc' : Nat)  (d : decode B pc = .ok (.imul, 1))  (hp : pc + 1 = pc' := by rfl) : Here k R Z EL n0 y B ret h0 ws h pc' L (.int (x * z) :: S) ce sl sf := by
  subst hp
  exact H.go rfl fun p e below m c T t A hx hB q => XS.imul A hx rfl (Jvm.hb hB d) rfl q
theorem Here.iand {x z : Int32} (H : Here k R Z EL n0 y B ret h0 ws h pc L (.int z :: .int x :: S) ce sl sf) (pc' : Nat)  (d : decode B pc = .ok (.iand, 1))  (hp : pc + 1 = pc' := by rfl) : Here k R Z EL n0 y B ret h0 ws h pc' L (.int (x &&& z) :: S) ce sl sf := by
  subst hp
  exact H.go rfl fun p e below m c T t A hx hB q => XS.iand A hx rfl (Jvm.hb hB d) rfl q
theorem Here.ior {x z : Int32} (H : Here k R Z EL n0 y B ret h0 ws h pc L (.int z :: .int x :: S) ce sl sf) (pc' : Nat)  (d : decode B pc = .ok (.ior, 1))  (hp : pc + 1 = pc' := by rfl) : Here k R Z EL n0 y B ret h0 ws h pc' L (.int (x ||| z) :: S) ce sl sf := by
  subst hp
  exact H.go rfl fun p e below m c T t A hx hB q => XT.ior A hx rfl (Jvm.hb hB d) rfl q
theorem Here.ixor {x z : Int32} (H : Here k R Z EL n0 y B ret h0 ws h pc L (.int z :: .int x :: S) ce sl sf) (pc' : Nat)  (d : decode B pc = .ok (.ixor, 1))  (hp : pc + 1 = pc' := by rfl) : Here k R Z EL n0 y B ret h0 ws h pc' L (.int (x ^^^ z) :: S) ce sl sf := by
  subst hp
  exact H.go rfl fun p e below m c T t A hx hB q => XT.ixor A hx rfl (Jvm.hb hB d) rfl q
theorem Here.ishl {x z : Int32} (H : Here k R Z EL n0 y B ret h0 ws h pc L (.int z :: .int x :: S) ce sl sf) (pc' : Nat)  (d : decode B pc = .ok (.ishl, 1))  (hp : pc + 1 = pc' := by rfl) : Here k R Z EL n0 y B ret h0 ws h pc' L (.int (x <<< (z &&& 31)) :: S) ce sl sf := by
  subst hp
  exact H.go rfl fun p e below m c T t A hx hB q => XT.ishl A hx rfl (Jvm.hb hB d) rfl q
theorem Here.ishr {x z : Int32} (H : Here k R Z EL n0 y B ret h0 ws h pc L (.int z :: .int x :: S) ce sl sf) (pc' : Nat)  (d : decode B pc = .ok (.ishr, 1))  (hp : pc + 1 = pc' := by rfl) : Here k R Z EL n0 y B ret h0 ws h pc' L (.int (x >>> (z &&& 31)) :: S) ce sl sf := by
  subst hp
  exact H.go rfl fun p e below m c T t A hx hB q => XT.ishr A hx rfl (Jvm.hb hB d) rfl q
theorem Here.iushr {x z : Int32} (H : Here k R Z EL n0 y B ret h0 ws h pc L (.int z :: .int x :: S) ce sl sf) (pc' : Nat)  (d : decode B pc = .ok (.iushr, 1))  (hp : pc + 1 = pc' := by rfl) : Here k R Z EL n0 y B ret h0 ws h pc' L (.int ((x.toUInt32 >>> (z &&& 31).toUInt32).toInt32) :: S) ce sl sf := by
  subst hp
  exact H.go rfl fun p e below m c T t A hx hB q => XT.iushr A hx rfl (Jvm.hb hB d) rfl q
theorem Here.idiv {x z : Int32} (H : Here k R Z EL n0 y B ret h0 ws h pc L (.int z :: .int x :: S) ce sl sf) (pc' : Nat)  (d : decode B pc = .ok (.idiv, 1)) (hz : z ≠ 0) (hp : pc + 1 = pc' := by rfl) : Here k R Z EL n0 y B ret h0 ws h pc' L (.int (x / z) :: S) ce sl sf := by
  subst hp
  exact H.go rfl fun p e below m c T t A hx hB q => XS.idiv A hx rfl (Jvm.hb hB d) rfl hz q
theorem Here.irem {x z : Int32} (H : Here k R Z EL n0 y B ret h0 ws h pc L (.int z :: .int x :: S) ce sl sf) (pc' : Nat) (d : decode B pc = .ok (.irem, 1)) (hz : z ≠ 0) (hp : pc + 1 = pc' := by rfl) : Here k R Z EL n0 y B ret h0 ws h pc' L (.int (x % z) :: S) ce sl sf := by
  subst hp
  have e1 : x - x / z * z = x % z := irem_eq_mod x z
  exact H.go rfl fun p e below m c T t A hx hB q => XS.irem A hx rfl (Jvm.hb hB d) rfl hz (by rw [e1]; exact q)
theorem Here.ineg {x : Int32} (H : Here k R Z EL n0 y B ret h0 ws h pc L (.int x :: S) ce sl sf) (pc' : Nat)  (d : decode B pc = .ok (.ineg, 1))  (hp : pc + 1 = pc' := by rfl) : Here k R Z EL n0 y B ret h0 ws h pc' L (.int (-x) :: S) ce sl sf := by
  subst hp
  exact H.go rfl fun p e below m c T t A hx hB q => XS.ineg A hx rfl (Jvm.hb hB d) rfl q
theorem Here.i2c {x : Int32} (H : Here k R Z EL n0 y B ret h0 ws h pc L (.int x :: S) ce sl sf) (pc' : Nat)  (d : decode B pc = .ok (.i2c, 1))  (hp : pc + 1 = pc' := by rfl) : Here k R Z EL n0 y B ret h0 ws h pc' L (.int x.toUInt32.toUInt16.toUInt32.toInt32 :: S) ce sl sf := by
  subst hp
  exact H.go rfl fun p e below m c T t A hx hB q => XT.i2c A hx rfl (Jvm.hb hB d) rfl q
theorem Here.i2b {x : Int32} (H : Here k R Z EL n0 y B ret h0 ws h pc L (.int x :: S) ce sl sf) (pc' : Nat)  (d : decode B pc = .ok (.i2b, 1))  (hp : pc + 1 = pc' := by rfl) : Here k R Z EL n0 y B ret h0 ws h pc' L (.int x.toInt8.toInt32 :: S) ce sl sf := by
  subst hp
  exact H.go rfl fun p e below m c T t A hx hB q => XT.i2b A hx rfl (Jvm.hb hB d) rfl q
theorem Here.i2l {x : Int32} (H : Here k R Z EL n0 y B ret h0 ws h pc L (.int x :: S) ce sl sf) (pc' : Nat)  (d : decode B pc = .ok (.i2l, 1))  (hp : pc + 1 = pc' := by rfl) : Here k R Z EL n0 y B ret h0 ws h pc' L (.long x.toInt64 :: S) ce sl sf := by
  subst hp
  exact H.go rfl fun p e below m c T t A hx hB q => XT.i2l A hx rfl (Jvm.hb hB d) rfl q
theorem Here.l2i {x : Int64} (H : Here k R Z EL n0 y B ret h0 ws h pc L (.long x :: S) ce sl sf) (pc' : Nat)  (d : decode B pc = .ok (.l2i, 1))  (hp : pc + 1 = pc' := by rfl) : Here k R Z EL n0 y B ret h0 ws h pc' L (.int x.toInt32 :: S) ce sl sf := by
  subst hp
  exact H.go rfl fun p e below m c T t A hx hB q => XT.l2i A hx rfl (Jvm.hb hB d) rfl q
theorem Here.ladd {x z : Int64} (H : Here k R Z EL n0 y B ret h0 ws h pc L (.long z :: .long x :: S) ce sl sf) (pc' : Nat)  (d : decode B pc = .ok (.ladd, 1))  (hp : pc + 1 = pc' := by rfl) : Here k R Z EL n0 y B ret h0 ws h pc' L (.long (x + z) :: S) ce sl sf := by
  subst hp
  exact H.go rfl fun p e below m c T t A hx hB q => XT.ladd A hx rfl (Jvm.hb hB d) rfl q
theorem Here.lsub {x z : Int64} (H : Here k R Z EL n0 y B ret h0 ws h pc L (.long z :: .long x :: S) ce sl sf) (pc' : Nat)  (d : decode B pc = .ok (.lsub, 1))  (hp : pc + 1 = pc' := by rfl) : Here k R Z EL n0 y B ret h0 ws h pc' L (.long (x - z) :: S) ce sl sf := by
  subst hp
  exact H.go rfl fun p e below m c T t A hx hB q => XT.lsub A hx rfl (Jvm.hb hB d) rfl q
theorem Here.lmul {x z : Int64} (H : Here k R Z EL n0 y B ret h0 ws h pc L (.long z :: .long x :: S) ce sl sf) (pc' : Nat)  (d : decode B pc = .ok (.lmul, 1))  (hp : pc + 1 = pc' := by rfl) : Here k R Z EL n0 y B ret h0 ws h pc' L (.long (x * z) :: S) ce sl sf := by
  subst hp
  exact H.go rfl fun p e below m c T t A hx hB q => XT.lmul A hx rfl (Jvm.hb hB d) rfl q
theorem Here.land {x z : Int64} (H : Here k R Z EL n0 y B ret h0 ws h pc L (.long z :: .long x :: S) ce sl sf) (pc' : Nat)  (d : decode B pc = .ok (.land, 1))  (hp : pc + 1 = pc' := by rfl) : Here k R Z EL n0 y B ret h0 ws h pc' L (.long (x &&& z) :: S) ce sl sf := by
  subst hp
  exact H.go rfl fun p e below m c T t A hx hB q => XT.land A hx rfl (Jvm.hb hB d) rfl q
theorem Here.lor {x z : Int64} (H : Here k R Z EL n0 y B ret h0 ws h pc L (.long z :: .long x :: S) ce sl sf) (pc' : Nat)  (d : decode B pc = .ok (.lor, 1))  (hp : pc + 1 = pc' := by rfl) : Here k R Z EL n0 y B ret h0 ws h pc' L (.long (x ||| z) :: S) ce sl sf := by
  subst hp
  exact H.go rfl fun p e below m c T t A hx hB q => XT.lor A hx rfl (Jvm.hb hB d) rfl q
theorem Here.lushr {x : Int64} {z : Int32} (H : Here k R Z EL n0 y B ret h0 ws h pc L (.int z :: .long x :: S) ce sl sf) (pc' : Nat)  (d : decode B pc = .ok (.lushr, 1))  (hp : pc + 1 = pc' := by rfl) : Here k R Z EL n0 y B ret h0 ws h pc' L (.long (XT.ushrL x z) :: S) ce sl sf := by
  subst hp
  exact H.go rfl fun p e below m c T t A hx hB q => XT.lushr A hx rfl (Jvm.hb hB d) rfl q
theorem Here.ldiv {x z : Int64} (H : Here k R Z EL n0 y B ret h0 ws h pc L (.long z :: .long x :: S) ce sl sf) (pc' : Nat)  (d : decode B pc = .ok (.ldiv, 1)) (hz : z ≠ 0) (hp : pc + 1 = pc' := by rfl) : Here k R Z EL n0 y B ret h0 ws h pc' L (.long (x / z) :: S) ce sl sf := by
  subst hp
  exact H.go rfl fun p e below m c T t A hx hB q => XT.ldiv A hx rfl (Jvm.hb hB d) rfl hz q
theorem Here.lneg {x : Int64} (H : Here k R Z EL n0 y B ret h0 ws h pc L (.long x :: S) ce sl sf) (pc' : Nat)  (d : decode B pc = .ok (.lneg, 1))  (hp : pc + 1 = pc' := by rfl) : Here k R Z EL n0 y B ret h0 ws h pc' L (.long (-x) :: S) ce sl sf := by
  subst hp
  exact H.go rfl fun p e below m c T t A hx hB q => XT.lneg A hx rfl (Jvm.hb hB d) rfl q
theorem Here.lcmp {x z : Int64} (H : Here k R Z EL n0 y B ret h0 ws h pc L (.long z :: .long x :: S) ce sl sf) (pc' : Nat)  (d : decode B pc = .ok (.lcmp, 1))  (hp : pc + 1 = pc' := by rfl) : Here k R Z EL n0 y B ret h0 ws h pc' L (.int (XT.cmpL x z) :: S) ce sl sf := by
  subst hp
  exact H.go rfl fun p e below m c T t A hx hB q => XT.lcmp A hx rfl (Jvm.hb hB d) rfl q
theorem Here.dup {v : Value} (H : Here k R Z EL n0 y B ret h0 ws h pc L (v :: S) ce sl sf) (pc' : Nat)  (d : decode B pc = .ok (.dup, 1)) (hc : v.category = 1 := by rfl) (hp : pc + 1 = pc' := by rfl) : Here k R Z EL n0 y B ret h0 ws h pc' L (v :: v :: S) ce sl sf := by
  subst hp
  exact H.go rfl fun p e below m c T t A hx hB q => XS.dup A hx rfl (Jvm.hb hB d) rfl hc q
theorem Here.pop {v : Value} (H : Here k R Z EL n0 y B ret h0 ws h pc L (v :: S) ce sl sf) (pc' : Nat)  (d : decode B pc = .ok (.pop, 1)) (hc : v.category = 1 := by rfl) (hp : pc + 1 = pc' := by rfl) : Here k R Z EL n0 y B ret h0 ws h pc' L S ce sl sf := by
  subst hp
  exact H.go rfl fun p e below m c T t A hx hB q => XT.pop A hx rfl (Jvm.hb hB d) rfl hc q
theorem Here.istoreN {i : Fin 4} {x : Int32} (H : Here k R Z EL n0 y B ret h0 ws h pc L (.int x :: S) ce sl sf) (pc' : Nat)  (d : decode B pc = .ok (.istore_n i, 1)) (hl : storeLocals L i.val (.int x) = some L') (hz : L'.size = L.size := by rfl) (hp : pc + 1 = pc' := by rfl) : Here k R Z EL n0 y B ret h0 ws h pc' L' S ce sl sf := by
  subst hp
  exact H.go hz fun p e below m c T t A hx hB q => XS.istoreN A hx rfl (Jvm.hb hB d) rfl hl q
theorem Here.istore {i : Nat} {x : Int32} (H : Here k R Z EL n0 y B ret h0 ws h pc L (.int x :: S) ce sl sf) (pc' : Nat)  (d : decode B pc = .ok (.istore i, 2)) (hl : storeLocals L i (.int x) = some L') (hz : L'.size = L.size := by rfl) (hp : pc + 2 = pc' := by rfl) : Here k R Z EL n0 y B ret h0 ws h pc' L' S ce sl sf := by
  subst hp
  exact H.go hz fun p e below m c T t A hx hB q => XS.istore A hx rfl (Jvm.hb hB d) rfl hl q
theorem Here.astoreN {i : Fin 4} {x : Value} (H : Here k R Z EL n0 y B ret h0 ws h pc L (x :: S) ce sl sf) (pc' : Nat)  (d : decode B pc = .ok (.astore_n i, 1)) (hl : storeLocals L i.val x = some L') (hv : x.isRef = true := by rfl) (hz : L'.size = L.size := by rfl) (hp : pc + 1 = pc' := by rfl) : Here k R Z EL n0 y B ret h0 ws h pc' L' S ce sl sf := by
  subst hp
  exact H.go hz fun p e below m c T t A hx hB q => XS.astoreN A hx rfl (Jvm.hb hB d) rfl hv hl q
theorem Here.astore {i : Nat} {x : Value} (H : Here k R Z EL n0 y B ret h0 ws h pc L (x :: S) ce sl sf) (pc' : Nat)  (d : decode B pc = .ok (.astore i, 2)) (hl : storeLocals L i x = some L') (hv : x.isRef = true := by rfl) (hz : L'.size = L.size := by rfl) (hp : pc + 2 = pc' := by rfl) : Here k R Z EL n0 y B ret h0 ws h pc' L' S ce sl sf := by
  subst hp
  exact H.go hz fun p e below m c T t A hx hB q => XS.astore A hx rfl (Jvm.hb hB d) rfl hv hl q
theorem Here.lstoreN {i : Fin 4} {x : Int64} (H : Here k R Z EL n0 y B ret h0 ws h pc L (.long x :: S) ce sl sf) (pc' : Nat)  (d : decode B pc = .ok (.lstore_n i, 1)) (hl : storeLocals L i.val (.long x) = some L') (hz : L'.size = L.size := by rfl) (hp : pc + 1 = pc' := by rfl) : Here k R Z EL n0 y B ret h0 ws h pc' L' S ce sl sf := by
  subst hp
  exact H.go hz fun p e below m c T t A hx hB q => XT.lstoreN A hx rfl (Jvm.hb hB d) rfl hl q
theorem Here.lstore {i : Nat} {x : Int64} (H : Here k R Z EL n0 y B ret h0 ws h pc L (.long x :: S) ce sl sf) (pc' : Nat)  (d : decode B pc = .ok (.lstore i, 2)) (hl : storeLocals L i (.long x) = some L') (hz : L'.size = L.size := by rfl) (hp : pc + 2 = pc' := by rfl) : Here k R Z EL n0 y B ret h0 ws h pc' L' S ce sl sf := by
  subst hp
  exact H.go hz fun p e below m c T t A hx hB q => XT.lstore A hx rfl (Jvm.hb hB d) rfl hl q
theorem Here.iinc {i : Nat} {cst : Int} {x : Int32} (H : Here k R Z EL n0 y B ret h0 ws h pc L S ce sl sf) (pc' : Nat) (v : Int32) (d : decode B pc = .ok (.iinc i cst, 3)) (hl : L[i]? = some (.val (.int x))) (hl' : storeLocals L i (.int (x + v)) = some L') (hv : Int32.ofInt cst = v := by rfl) (hz : L'.size = L.size := by rfl) (hp : pc + 3 = pc' := by rfl) : Here k R Z EL n0 y B ret h0 ws h pc' L' S ce sl sf := by
  subst hp
  exact H.go hz fun p e below m c T t A hx hB q => XT.iincV A hx rfl v (Jvm.hb hB d) hv hl hl' q
theorem Here.goto  (H : Here k R Z EL n0 y B ret h0 ws h pc L S ce sl sf) (pc' : Nat)  {o : Int} (d : decode B pc = .ok (.goto o, 3))  (ho : 0 ≤ (pc : Int) + o := by decide) (hp : ((pc : Int) + o).toNat = pc' := by rfl) : Here k R Z EL n0 y B ret h0 ws h pc' L S ce sl sf :=
  H.go rfl fun p e below m c T t A hx hB q => XS.goto A hx rfl rfl (Jvm.hb hB d) ho hp q
theorem Here.ifYes {cd : ClassFile.Cond} {x : Int32} (H : Here k R Z EL n0 y B ret h0 ws h pc L (.int x :: S) ce sl sf) (pc' : Nat)  {o : Int} (d : decode B pc = .ok (.ifCond cd o, 3)) (hc : ifCond.holds cd x = true) (ho : 0 ≤ (pc : Int) + o := by decide) (hp : ((pc : Int) + o).toNat = pc' := by rfl) : Here k R Z EL n0 y B ret h0 ws h pc' L S ce sl sf :=
  H.go rfl fun p e below m c T t A hx hB q => XS.ifYes A hx rfl rfl (Jvm.hb hB d) rfl hc ho hp q
theorem Here.ifNo {cd : ClassFile.Cond} {o : Int} {x : Int32} (H : Here k R Z EL n0 y B ret h0 ws h pc L (.int x :: S) ce sl sf) (pc' : Nat)  (d : decode B pc = .ok (.ifCond cd o, 3)) (hc : ifCond.holds cd x = false) (hp : pc + 3 = pc' := by rfl) : Here k R Z EL n0 y B ret h0 ws h pc' L S ce sl sf := by
  subst hp
  exact H.go rfl fun p e below m c T t A hx hB q => XS.ifNo A hx rfl (Jvm.hb hB d) rfl hc q
theorem Here.icmpYes {cd : ClassFile.Cond} {x z : Int32} (H : Here k R Z EL n0 y B ret h0 ws h pc L (.int z :: .int x :: S) ce sl sf) (pc' : Nat)  {o : Int} (d : decode B pc = .ok (.if_icmp cd o, 3)) (hc : if_icmp.holds cd x z = true) (ho : 0 ≤ (pc : Int) + o := by decide) (hp : ((pc : Int) + o).toNat = pc' := by rfl) : Here k R Z EL n0 y B ret h0 ws h pc' L S ce sl sf :=
  H.go rfl fun p e below m c T t A hx hB q => XS.icmpYes A hx rfl rfl (Jvm.hb hB d) rfl hc ho hp q
theorem Here.icmpNo {cd : ClassFile.Cond} {o : Int} {x z : Int32} (H : Here k R Z EL n0 y B ret h0 ws h pc L (.int z :: .int x :: S) ce sl sf) (pc' : Nat)  (d : decode B pc = .ok (.if_icmp cd o, 3)) (hc : if_icmp.holds cd x z = false) (hp : pc + 3 = pc' := by rfl) : Here k R Z EL n0 y B ret h0 ws h pc' L S ce sl sf := by
  subst hp
  exact H.go rfl fun p e below m c T t A hx hB q => XS.icmpNo A hx rfl (Jvm.hb hB d) rfl hc q
theorem Here.nullYes  (H : Here k R Z EL n0 y B ret h0 ws h pc L (.null :: S) ce sl sf) (pc' : Nat)  {o : Int} (d : decode B pc = .ok (.ifnull o, 3))  (ho : 0 ≤ (pc : Int) + o := by decide) (hp : ((pc : Int) + o).toNat = pc' := by rfl) : Here k R Z EL n0 y B ret h0 ws h pc' L S ce sl sf :=
  H.go rfl fun p e below m c T t A hx hB q => XS.ifnullYes A hx rfl rfl (Jvm.hb hB d) rfl ho hp q
theorem Here.nullNo {o : Int} {b : Addr} (H : Here k R Z EL n0 y B ret h0 ws h pc L (.ref b :: S) ce sl sf) (pc' : Nat)  (d : decode B pc = .ok (.ifnull o, 3))  (hp : pc + 3 = pc' := by rfl) : Here k R Z EL n0 y B ret h0 ws h pc' L S ce sl sf := by
  subst hp
  exact H.go rfl fun p e below m c T t A hx hB q => XS.ifnullNo A hx rfl (Jvm.hb hB d) rfl q
theorem Here.nonnullYes {b : Addr} (H : Here k R Z EL n0 y B ret h0 ws h pc L (.ref b :: S) ce sl sf) (pc' : Nat)  {o : Int} (d : decode B pc = .ok (.ifnonnull o, 3))  (ho : 0 ≤ (pc : Int) + o := by decide) (hp : ((pc : Int) + o).toNat = pc' := by rfl) : Here k R Z EL n0 y B ret h0 ws h pc' L S ce sl sf :=
  H.go rfl fun p e below m c T t A hx hB q => XT.ifnonnullYes A hx rfl rfl (Jvm.hb hB d) rfl ho hp q
theorem Here.nonnullNo {o : Int} (H : Here k R Z EL n0 y B ret h0 ws h pc L (.null :: S) ce sl sf) (pc' : Nat)  (d : decode B pc = .ok (.ifnonnull o, 3))  (hp : pc + 3 = pc' := by rfl) : Here k R Z EL n0 y B ret h0 ws h pc' L S ce sl sf := by
  subst hp
  exact H.go rfl fun p e below m c T t A hx hB q => XT.ifnonnullNo A hx rfl (Jvm.hb hB d) rfl q
theorem Here.acmpYes {cd : ClassFile.ACond} {u v : Value} (H : Here k R Z EL n0 y B ret h0 ws h pc L (v :: u :: S) ce sl sf) (pc' : Nat)  {o : Int} (d : decode B pc = .ok (.if_acmp cd o, 3)) (hc : XT.acmp cd u v = true) (hu : u.isRef = true := by rfl) (hv : v.isRef = true := by rfl) (ho : 0 ≤ (pc : Int) + o := by decide) (hp : ((pc : Int) + o).toNat = pc' := by rfl) : Here k R Z EL n0 y B ret h0 ws h pc' L S ce sl sf :=
  H.go rfl fun p e below m c T t A hx hB q => XT.acmpYes A hx rfl rfl (Jvm.hb hB d) rfl hu hv hc ho hp q
theorem Here.acmpNo {cd : ClassFile.ACond} {o : Int} {u v : Value} (H : Here k R Z EL n0 y B ret h0 ws h pc L (v :: u :: S) ce sl sf) (pc' : Nat)  (d : decode B pc = .ok (.if_acmp cd o, 3)) (hc : XT.acmp cd u v = false) (hu : u.isRef = true := by rfl) (hv : v.isRef = true := by rfl) (hp : pc + 3 = pc' := by rfl) : Here k R Z EL n0 y B ret h0 ws h pc' L S ce sl sf := by
  subst hp
  exact H.go rfl fun p e below m c T t A hx hB q => XT.acmpNo A hx rfl (Jvm.hb hB d) rfl hu hv hc q
end Steps
section HeapSteps
variable {k : Ctx} {R : Room} {Z : State} {EL : List (String × Nat)} {n0 : Nat} {y : MethodName} {B : ByteArray} {ret : Option FieldType} {h0 h : Heap} {ws sf : List Addr} {pc : Nat} {L : Array Slot} {S : List Value} {ce sl : Nat} {a0 : Array Value}
theorem Here.getF (H : Here k R Z EL n0 y B ret h0 ws h pc L (.ref a :: S) ce sl sf) (pc' : Nat) {index : Nat} {O n d : String} {v : Value} (w : (Jvm.Cond.fieldLink y.cls index O n d).before a0 Z = true) (F : Fld Z h a O n d v) (dd : decode B pc = .ok (.getfield index, 3)) (hp : pc + 3 = pc' := by rfl) : Here k R Z EL n0 y B ret h0 ws h pc' L (v :: S) ce sl sf := by
  subst hp
  exact H.goT rfl fun p l e s m args below meth c T locs ce sl X e1 hZ hown hx hB hl hs => RoadKit.getF X hx hZ hown (host := "") (Or.inl w) Via.refl e1 F (g := mkF m pc L (.ref a :: S)) rfl rfl (Jvm.hb hB dd)
theorem Here.getS (H : Here k R Z EL n0 y B ret h0 ws h pc L S ce sl sf) (pc' : Nat) {index : Nat} {O n d : String} {v : Value} (w : (Jvm.Cond.fieldLink y.cls index O n d).before a0 Z = true) (F : Sta Z h O n d v) (dd : decode B pc = .ok (.getstatic index, 3)) (hp : pc + 3 = pc' := by rfl) : Here k R Z EL n0 y B ret h0 ws h pc' L (v :: S) ce sl sf := by
  subst hp
  exact H.goT rfl fun p l e s m args below meth c T locs ce sl X e1 hZ hown hx hB hl hs => RoadKit.getS X hx hZ (host := "") hown w Via.refl e1 F (g := mkF m pc L S) rfl (Jvm.hb hB dd)
theorem Here.castY (H : Here k R Z EL n0 y B ret h0 ws h pc L (.ref a :: S) ce sl sf) (pc' : Nat) {index : Nat} {K : String} (w : (Jvm.Cond.classLink y.cls index K).before a0 Z = true) (F : Ins Z h a K true) (dd : decode B pc = .ok (.checkcast index, 3)) (hp : pc + 3 = pc' := by rfl) : Here k R Z EL n0 y B ret h0 ws h pc' L (.ref a :: S) ce sl sf := by
  subst hp
  exact H.goT rfl fun p l e s m args below meth c T locs ce sl X e1 hZ hown hx hB hl hs => RoadKit.castY X hx hZ hown w e1 F (g := mkF m pc L (.ref a :: S)) rfl rfl (Jvm.hb hB dd)
theorem Here.instY (H : Here k R Z EL n0 y B ret h0 ws h pc L (.ref a :: S) ce sl sf) (pc' : Nat) {index : Nat} {K : String} (w : (Jvm.Cond.classLink y.cls index K).before a0 Z = true) (F : Ins Z h a K true) (dd : decode B pc = .ok (.instanceof index, 3)) (hp : pc + 3 = pc' := by rfl) : Here k R Z EL n0 y B ret h0 ws h pc' L (.int 1 :: S) ce sl sf := by
  subst hp
  exact H.goT rfl fun p l e s m args below meth c T locs ce sl X e1 hZ hown hx hB hl hs => RoadKit.instY X hx hZ hown w e1 F (g := mkF m pc L (.ref a :: S)) rfl rfl (Jvm.hb hB dd)
theorem Here.instN (H : Here k R Z EL n0 y B ret h0 ws h pc L (.ref a :: S) ce sl sf) (pc' : Nat) {index : Nat} {K C : String} (w : (Jvm.Cond.classLink y.cls index K).before a0 Z = true) (F : Ins Z h0 a K false) (E : Exa Z h0 a C) (dd : decode B pc = .ok (.instanceof index, 3)) (hp : pc + 3 = pc' := by rfl) : Here k R Z EL n0 y B ret h0 ws h pc' L (.int 0 :: S) ce sl sf := by
  subst hp
  exact H.goT rfl fun p l e s m args below meth c T locs ce sl X e1 hZ hown hx hB hl hs => by subst hs; exact RoadKit.instN X hx hZ hown w e1 F E (g := mkF m pc L (.ref a :: S)) rfl rfl (Jvm.hb hB dd)
theorem Here.ldcI (H : Here k R Z EL n0 y B ret h0 ws h pc L S ce sl sf) (pc' : Nat) {index : Nat} {v : Int32} (w : (Jvm.Cond.constant y.cls index v).before a0 Z = true) (dd : decode B pc = .ok (.ldc index, 2)) (hp : pc + 2 = pc' := by rfl) : Here k R Z EL n0 y B ret h0 ws h pc' L (.int v :: S) ce sl sf := by
  subst hp
  exact H.goT rfl fun p l e s m args below meth c T locs ce sl X e1 hZ hown hx hB hl hs => ⟨T, X, e1, fun t q => X.ldcI hx hown (mvT hZ w) (g := mkF m pc L S) rfl (Jvm.hb hB dd) q⟩
theorem Here.ldc2J (H : Here k R Z EL n0 y B ret h0 ws h pc L S ce sl sf) (pc' : Nat) {index : Nat} {v : Int64} (w : (Jvm.Cond.constantLong y.cls index v).before a0 Z = true) (dd : decode B pc = .ok (.ldc2_w index, 3)) (hp : pc + 3 = pc' := by rfl) : Here k R Z EL n0 y B ret h0 ws h pc' L (.long v :: S) ce sl sf := by
  subst hp
  exact H.goT rfl fun p l e s m args below meth c T locs ce sl X e1 hZ hown hx hB hl hs => ⟨T, X, e1, fun t q => X.ldc2J hx hown (mvT hZ w) (g := mkF m pc L S) rfl (Jvm.hb hB dd) q⟩
theorem Here.alen (H : Here k R Z EL n0 y B ret h0 ws h pc L (.ref a :: S) ce sl sf) (pc' : Nat) {kc : ClassId} {ty : FieldType} {z : Int32} {vs : List Value} {dv : Value} (V : Arv Z h a kc ty z vs dv) (dd : decode B pc = .ok (.arraylength, 1)) (hp : pc + 1 = pc' := by rfl) : Here k R Z EL n0 y B ret h0 ws h pc' L (.int z :: S) ce sl sf := by
  subst hp
  obtain ⟨cl, A, -, hsz, hz, -⟩ := V
  exact H.goT rfl fun p l e s m args below meth c T locs ce sl X e1 hZ hown hx hB hl hs => ⟨T, X, e1, fun t q => X.arraylength hx (by rw [e1]; exact A.1) (State.isArrayOf_alike hZ.alike A.2.1) (g := mkF m pc L (.ref a :: S)) rfl rfl (Jvm.hb hB dd) t (by rw [len_of hsz hz]; exact q)⟩
theorem Here.alenA (H : Here k R Z EL n0 y B ret h0 ws h pc L (.ref a :: S) ce sl sf) (pc' : Nat) {cl : Cell} {ty : FieldType} {z : Int32} (A : Arr Z h a cl ty) (hsz : cl.slots.size = z.toNatClampNeg) (hz : ¬ z < 0) (dd : decode B pc = .ok (.arraylength, 1)) (hp : pc + 1 = pc' := by rfl) : Here k R Z EL n0 y B ret h0 ws h pc' L (.int z :: S) ce sl sf := by
  subst hp
  exact H.goT rfl fun p l e s m args below meth c T locs ce sl X e1 hZ hown hx hB hl hs => ⟨T, X, e1, fun t q => X.arraylength hx (by rw [e1]; exact A.1) (State.isArrayOf_alike hZ.alike A.2.1) (g := mkF m pc L (.ref a :: S)) rfl rfl (Jvm.hb hB dd) t (by rw [len_of hsz hz]; exact q)⟩
theorem Here.caload (H : Here k R Z EL n0 y B ret h0 ws h pc L (.int j :: .ref a :: S) ce sl sf) (pc' : Nat) {kc : ClassId} {z : Int32} {vs : List Value} {dv v : Value} (V : Arv Z h a kc .char z vs dv) (hj : ¬ j < 0 ∧ j < z) (hv : vs.getD j.toNatClampNeg dv = v) (dd : decode B pc = .ok (.caload, 1)) (hp : pc + 1 = pc' := by rfl) : Here k R Z EL n0 y B ret h0 ws h pc' L (v :: S) ce sl sf := by
  subst hp
  obtain ⟨cl, A, -, hsz, hz, hh, -⟩ := V
  exact H.goT rfl fun p l e s m args below meth c T locs ce sl X e1 hZ hown hx hB hl hs => ⟨T, X, e1, fun t q => X.caload hx (by rw [e1]; exact A.1) (State.isArrayOf_alike hZ.alike A.2.1) A.2.2 (inb_of hsz hj) (hh.at (inb_of hsz hj) hv) (g := mkF m pc L (.int j :: .ref a :: S)) rfl rfl (Jvm.hb hB dd) t q⟩
theorem Here.baload (H : Here k R Z EL n0 y B ret h0 ws h pc L (.int j :: .ref a :: S) ce sl sf) (pc' : Nat) {kc : ClassId} {z : Int32} {vs : List Value} {dv v : Value} (V : Arv Z h a kc .byte z vs dv) (hj : ¬ j < 0 ∧ j < z) (hv : vs.getD j.toNatClampNeg dv = v) (dd : decode B pc = .ok (.baload, 1)) (hp : pc + 1 = pc' := by rfl) : Here k R Z EL n0 y B ret h0 ws h pc' L (v :: S) ce sl sf := by
  subst hp
  obtain ⟨cl, A, -, hsz, hz, hh, -⟩ := V
  exact H.goT rfl fun p l e s m args below meth c T locs ce sl X e1 hZ hown hx hB hl hs => ⟨T, X, e1, fun t q => X.baloadBytes hx (by rw [e1]; exact A.1) (State.isArrayOf_alike hZ.alike A.2.1) A.2.2 (inb_of hsz hj) (hh.at (inb_of hsz hj) hv) (g := mkF m pc L (.int j :: .ref a :: S)) rfl rfl (Jvm.hb hB dd) t q⟩
theorem Here.aaload (H : Here k R Z EL n0 y B ret h0 ws h pc L (.int j :: .ref a :: S) ce sl sf) (pc' : Nat) {kc : ClassId} {ty : FieldType} {z : Int32} {vs : List Value} {dv v : Value} (V : Arv Z h a kc ty z vs dv) (hty : ty.isReference = true) (hj : ¬ j < 0 ∧ j < z) (hv : vs.getD j.toNatClampNeg dv = v) (dd : decode B pc = .ok (.aaload, 1)) (hp : pc + 1 = pc' := by rfl) : Here k R Z EL n0 y B ret h0 ws h pc' L (v :: S) ce sl sf := by
  subst hp
  obtain ⟨cl, A, -, hsz, hz, hh, -⟩ := V
  exact H.goT rfl fun p l e s m args below meth c T locs ce sl X e1 hZ hown hx hB hl hs => ⟨T, X, e1, fun t q => X.aaload hx (by rw [e1]; exact A.1) (State.isArrayOf_alike hZ.alike A.2.1) hty A.2.2 (inb_of hsz hj) (hh.at (inb_of hsz hj) hv) (g := mkF m pc L (.int j :: .ref a :: S)) rfl rfl (Jvm.hb hB dd) t q⟩
theorem Here.aaloadA (H : Here k R Z EL n0 y B ret h0 ws h pc L (.int j :: .ref a :: S) ce sl sf) (pc' : Nat) {cl : Cell} {ty : FieldType} {v : Value} (A : Arr Z h a cl ty) (hty : ty.isReference = true) (hin : ¬ (j < 0 ∨ cl.slots.size ≤ j.toNatClampNeg)) (hv : cl.slots[j.toNatClampNeg]? = some v) (dd : decode B pc = .ok (.aaload, 1)) (hp : pc + 1 = pc' := by rfl) : Here k R Z EL n0 y B ret h0 ws h pc' L (v :: S) ce sl sf := by
  subst hp
  exact H.goT rfl fun p l e s m args below meth c T locs ce sl X e1 hZ hown hx hB hl hs => ⟨T, X, e1, fun t q => X.aaload hx (by rw [e1]; exact A.1) (State.isArrayOf_alike hZ.alike A.2.1) hty A.2.2 hin hv (g := mkF m pc L (.int j :: .ref a :: S)) rfl rfl (Jvm.hb hB dd) t q⟩
theorem Here.initO (H : Here k R Z EL n0 y B ret h0 ws h pc L (.ref a :: S) ce sl sf) (pc' : Nat) {index : Nat} (w1 : (Jvm.Cond.methodLink y.cls index Lib.objectInit).before a0 Z = true) (w2 : (Jvm.Cond.instanceMethod Lib.objectInit).before a0 Z = true) (w3 : (Jvm.Cond.code Lib.objectInit ⟨#[0xb1]⟩ 1 none).before a0 Z = true) (dd : decode B pc = .ok (.invokespecial index, 3)) (hf : 1 ≤ R.frames) {W : Nat} (hW : (S.map fun v => v.category).sum ≤ W) (hl : W + 12 ≤ R.locals) (hp : pc + 3 = pc' := by rfl) : Here k R Z EL n0 y B ret h0 ws h pc' L S ce sl sf := by
  subst hp
  exact H.goT rfl fun p l e s m args below meth c T locs ce sl X e1 hZ hown hx hB hl' hs => RoadKit.initO X hx hZ hown w1 w2 w3 e1 (g := mkF m pc L (.ref a :: S)) rfl hl' rfl (Jvm.hb hB dd) hf (W := W) (by show 2 * 0 + (S.map fun v => v.category).sum ≤ W; omega) hl
theorem Here.newO (H : Here k R Z EL n0 y B ret h0 ws h pc L S ce sl sf) (pc' : Nat) {index n : Nat} {C : String} (w : (Jvm.Cond.classLink y.cls index C).before a0 Z = true) (wi : (Jvm.Cond.instantiable C n).before a0 Z = true) (wz : (Jvm.Cond.initialized C).before a0 Z = true) (dd : decode B pc = .ok (.new index, 3)) (hc : ce + 1 ≤ R.cells) (hl : sl + n ≤ R.slots) (hp : pc + 3 = pc' := by rfl) :
    ∃ (b : Addr) (h' : Heap), b = h.size ∧ Ext h h' ∧ Exa Z h' b C ∧ (∀ {O nm d : String} {ty : FieldType}, Laid Z a0 C O nm d → parseFieldDescriptor d = some ty → Fld Z h' b O nm d (defaultValue ty)) ∧ Here k R Z EL n0 y B ret h0 ws h' pc' L (.ref b :: S) (ce + 1) (sl + n) (b :: sf) := by
  subst hp
  obtain ⟨p, l, e, s, m, args, below, meth, c, start⟩ := k
  obtain ⟨T, vm0, k0, locs, X, e1, hS, hk, hZ, hown, hC, hN, hF, ⟨hx, hB, hr⟩, st⟩ := H
  obtain ⟨T', h', X', e2, E, A, D, -, st'⟩ := RoadKit.newO X hx (s := s.setVm vm0) hZ hown w wi wz e1 (g := mkF m pc L S) rfl (Jvm.hb hB dd) hc hl
  obtain ⟨u1, u2, u3⟩ := updN hC hk hF E A.lt
  exact ⟨h.size, h', rfl, E, A, D, T', vm0, k0, locs, X', e2, hS, u2, hZ, hown, u1, hN, u3, ⟨hx, hB, hr⟩, fun t q => st t (st' t q)⟩
theorem Here.newP (H : Here k R Z EL n0 y B ret h0 ws h pc L (.int n :: S) ce sl sf) (pc' : Nat) {aty : ArrayType} {ty : FieldType} (hty : newarray.typeOf aty = ty) (w : (Jvm.Cond.arrayClass ty).before a0 Z = true) (dd : decode B pc = .ok (.newarray aty, 2)) (hn : ¬ n < 0) {cap : Nat} (hcap : n.toNatClampNeg ≤ cap) (hb : cap * 8 ≤ 536870912) (hc : ce + 1 ≤ R.cells) (hl : sl + cap ≤ R.slots) (hp : pc + 2 = pc' := by rfl) :
    ∃ (b : Addr) (h' : Heap) (kc : ClassId), b = h.size ∧ Ext h h' ∧ Arv Z h' b kc ty n (List.replicate cap (defaultValue ty)) (defaultValue ty) ∧ Here k R Z EL n0 y B ret h0 ws h' pc' L (.ref b :: S) (ce + 1) (sl + cap) (b :: sf) := by
  subst hp hty
  obtain ⟨p, l, e, s, m, args, below, meth, c, start⟩ := k
  obtain ⟨T, vm0, k0, locs, X, e1, hS, hk, hZ, hown, hC, hN, hF, ⟨hx, hB, hr⟩, st⟩ := H
  obtain ⟨T', h', kc, X', e2, E, A, st'⟩ := RoadKit.newP X hx (s := s.setVm vm0) hZ w e1 (g := mkF m pc L (.int n :: S)) rfl (Jvm.hb hB dd) rfl hn hcap hb hc hl
  have V := (Arv.new A hn).pad (pad_rep [] (defaultValue (newarray.typeOf aty)) cap)
  obtain ⟨u1, u2, u3⟩ := updN hC hk hF E A.lt
  exact ⟨h.size, h', kc, rfl, E, V, T', vm0, k0, locs, X', e2, hS, u2, hZ, hown, u1, hN, u3, ⟨hx, hB, hr⟩, fun t q => st t (st' t q)⟩
theorem Here.putF (H : Here k R Z EL n0 y B ret h0 ws h pc L (v :: .ref a :: S) ce sl sf) (pc' : Nat) {index kk : Nat} {O n d C : String} {ty : FieldType} {old : Value} (w : (Jvm.Cond.fieldLink y.cls index O n d).before a0 Z = true) (F : Fld Z h a O n d old) (E : Exa Z h a C) (Lw : (Jvm.Cond.lays C O n d).before a0 Z = true ∨ ((Jvm.Cond.laysFinal C O n d).before a0 Z = true ∧ y.cls = O ∧ y.name = "<init>")) (wi : (Jvm.Cond.instantiable C kk).before a0 Z = true)
    (hty : parseFieldDescriptor d = some ty) (hn : narrow ty v = v) (hf : fits ty v = true) (dd : decode B pc = .ok (.putfield index, 3)) (ha : a ∈ sf) (hp : pc + 3 = pc' := by rfl) :
    ∃ h' : Heap, Wr h h' a (RoadKit.slotOf Z O n d) v ∧ Keep h h' [a] ∧ Exa Z h' a C ∧ Fld Z h' a O n d v ∧ Here k R Z EL n0 y B ret h0 ws h' pc' L S ce sl sf := by
  subst hp
  obtain ⟨p, l, e, s, m, args, below, meth, c, start⟩ := k
  obtain ⟨T, vm0, k0, locs, X, e1, hS, hk, hZ, hown, hC, hN, hF, ⟨hx, hB, hsz, hr, hnm, hrest⟩, st⟩ := H
  obtain ⟨T', h', X', e2, W', st'⟩ := RoadKit.putF X hx (s := s.setVm vm0) hZ hown (host := "") (Or.inl w) Via.refl e1 F E (Lw.imp id fun q => ⟨q.1, q.2.1, hnm.trans q.2.2⟩) wi hty hn hf (g := mkF m pc L (v :: .ref a :: S)) rfl rfl (Jvm.hb hB dd)
  obtain ⟨u1, u2, u3⟩ := upd hC hk hF (Keep.of_wr W') (allS ha all0)
  exact ⟨h', W', Keep.of_wr W', E.wr W', F.same W', T', vm0, k0, _, X', e2, hS, u2, hZ, hown, u1, Fr.snoc X' hN (hF.2.2.2 a ha).2.2.1, u3, ⟨hx, hB, hsz, hr, hnm, hrest⟩, fun t q => st t (st' t q)⟩
theorem Here.stC (H : Here k R Z EL n0 y B ret h0 ws h pc L (.int x :: .int j :: .ref a :: S) ce sl sf) (pc' : Nat) {kc : ClassId} {z : Int32} {vs : List Value} {dv : Value} (V : Arv Z h a kc .char z vs dv) (i : Nat) (hj : ¬ j < 0 ∧ j < z) (hji : j.toNatClampNeg = i) (hi : i < vs.length) (hx' : nar .char x = x) (dd : decode B pc = .ok (.castore, 1)) (ha : a ∈ sf) (hp : pc + 1 = pc' := by rfl) :
    ∃ h' : Heap, Keep h h' [a] ∧ Arv Z h' a kc .char z (vs.set i (.int x)) dv ∧ Here k R Z EL n0 y B ret h0 ws h' pc' L S ce sl sf := by
  subst hp
  obtain ⟨p, l, e, s, m, args, below, meth, c, start⟩ := k
  obtain ⟨T, vm0, k0, locs, X, e1, hS, hk, hZ, hown, hC, hN, hF, ⟨hx, hB, hr⟩, st⟩ := H
  obtain ⟨cl, A, q1, q2, q3, q4, q5⟩ := V
  obtain ⟨T', h', X', e2, W', st'⟩ := RoadKit.stC X hx (s := s.setVm vm0) hZ e1 A (j := j) (inb_of q2 hj) (g := mkF m pc L (.int x :: .int j :: .ref a :: S)) rfl rfl (Jvm.hb hB dd)
  have V' := Arv.set A q1 q2 q3 q4 q5 (fits_nar_char x) W' i hji hi
  rw [hx'] at V'
  obtain ⟨u1, u2, u3⟩ := upd hC hk hF (Keep.of_wr W') (allS ha all0)
  exact ⟨h', Keep.of_wr W', V', T', vm0, k0, _, X', e2, hS, u2, hZ, hown, u1, Fr.snoc X' hN (hF.2.2.2 a ha).2.2.1, u3, ⟨hx, hB, hr⟩, fun t q => st t (st' t q)⟩
theorem Here.stB (H : Here k R Z EL n0 y B ret h0 ws h pc L (.int x :: .int j :: .ref a :: S) ce sl sf) (pc' : Nat) {kc : ClassId} {z : Int32} {vs : List Value} {dv : Value} (V : Arv Z h a kc .byte z vs dv) (i : Nat) (hj : ¬ j < 0 ∧ j < z) (hji : j.toNatClampNeg = i) (hi : i < vs.length) (dd : decode B pc = .ok (.bastore, 1)) (ha : a ∈ sf) (hp : pc + 1 = pc' := by rfl) :
    ∃ h' : Heap, Keep h h' [a] ∧ Arv Z h' a kc .byte z (vs.set i (.int x.toInt8.toInt32)) dv ∧ Here k R Z EL n0 y B ret h0 ws h' pc' L S ce sl sf := by
  subst hp
  obtain ⟨p, l, e, s, m, args, below, meth, c, start⟩ := k
  obtain ⟨T, vm0, k0, locs, X, e1, hS, hk, hZ, hown, hC, hN, hF, ⟨hx, hB, hr⟩, st⟩ := H
  obtain ⟨cl, A, q1, q2, q3, q4, q5⟩ := V
  obtain ⟨T', h', X', e2, W', st'⟩ := RoadKit.stB X hx (s := s.setVm vm0) hZ e1 A (j := j) (inb_of q2 hj) (g := mkF m pc L (.int x :: .int j :: .ref a :: S)) rfl rfl (Jvm.hb hB dd)
  have V' := Arv.set A q1 q2 q3 q4 q5 (fits_nar_byte x) W' i hji hi
  obtain ⟨u1, u2, u3⟩ := upd hC hk hF (Keep.of_wr W') (allS ha all0)
  exact ⟨h', Keep.of_wr W', V', T', vm0, k0, _, X', e2, hS, u2, hZ, hown, u1, Fr.snoc X' hN (hF.2.2.2 a ha).2.2.1, u3, ⟨hx, hB, hr⟩, fun t q => st t (st' t q)⟩
theorem Here.cloneA (H : Here k R Z EL n0 y B ret h0 ws h pc L (.ref a :: S) ce sl sf) (pc' : Nat) {index : Nat} {ad : String} (w1 : (Jvm.Cond.methodLink y.cls index ⟨ad, "clone", "()Ljava/lang/Object;"⟩).before a0 Z = true) (w2 : (Jvm.Cond.sameMethod ad "java/lang/Object" "clone" "()Ljava/lang/Object;").before a0 Z = true) (w3 : (Jvm.Cond.native ⟨"java/lang/Object", "clone", "()Ljava/lang/Object;"⟩).before a0 Z = true)
    (w4 : (Jvm.Cond.instanceMethod ⟨"java/lang/Object", "clone", "()Ljava/lang/Object;"⟩).before a0 Z = true) (w5 : (Jvm.Cond.selects ad ⟨ad, "clone", "()Ljava/lang/Object;"⟩ ⟨"java/lang/Object", "clone", "()Ljava/lang/Object;"⟩).before a0 Z = true) (w6 : (Jvm.Cond.castable ad "java/lang/Cloneable").before a0 Z = true)
    {cl : Cell} {ty : FieldType} (A : Arr Z h a cl ty) (E : Exa Z h a ad) (F : FitC Z cl) (dd : decode B pc = .ok (.invokevirtual index, 3)) (hf : 1 ≤ R.frames) {W cap : Nat} (hW : (S.map fun v => v.category).sum ≤ W) (hl : W + 14 ≤ R.locals) (hcap : cl.slots.size ≤ cap) (hc : ce + 1 ≤ R.cells) (hs : sl + cap ≤ R.slots) (hp : pc + 3 = pc' := by rfl) :
    ∃ (b : Addr) (h' : Heap), b = h.size ∧ Ext h h' ∧ Arr Z h' b (cloneOf cl) ty ∧ Exa Z h' b ad ∧ Here k R Z EL n0 y B ret h0 ws h' pc' L (.ref b :: S) (ce + 1) (sl + cap) (b :: sf) := by
  subst hp
  obtain ⟨p, l, e, s, m, args, below, meth, c, start⟩ := k
  obtain ⟨T, vm0, k0, locs, X, e1, hS, hk, hZ, hown, hC, hN, hF, ⟨hx, hB, hsz, hr⟩, st⟩ := H
  obtain ⟨T', h', X', e2, E', A', D', st'⟩ := RoadKit.cloneA X hx (s := s.setVm vm0) hZ hown w1 w2 w3 w4 w5 w6 e1 A E F (g := mkF m pc L (.ref a :: S)) rfl hsz rfl (Jvm.hb hB dd) hf (W := W) (by show 2 * 0 + (S.map fun v => v.category).sum ≤ W; omega) hl hcap hc hs
  obtain ⟨u1, u2, u3⟩ := updN hC hk hF E' A'.lt
  exact ⟨h.size, h', rfl, E', A', D', T', vm0, k0, locs, X', e2, hS, u2, hZ, hown, u1, hN, u3, ⟨hx, hB, hsz, hr⟩, fun t q => st t (st' t q)⟩
/-- ldc of a String constant that is only handed on -/
theorem Here.ldcO (H : Here k R Z EL n0 y B ret h0 ws h pc L S ce sl sf) (pc' : Nat) {index : Nat} {text : String} (w : (Jvm.Cond.stringLink y.cls index text).before a0 Z = true) (wS : ∀ a ∈ Bundle.stringAtoms, a.before a0 Z = true) (hEL : EW Z a0 EL) (dd : decode B pc = .ok (.ldc index, 2)) {n : Nat} (hn : 4 * text.toList.length ≤ n) (hbig : n ≤ 536870912) (hc : ce + 2 ≤ R.cells) (hl : sl + (n + 4) ≤ R.slots) (hp : pc + 2 = pc' := by rfl) :
    ∃ (a : Addr) (h' : Heap), Ext h h' ∧ Here k R Z EL n0 y B ret h0 ws h' pc' L (.ref a :: S) (ce + 2) (sl + (n + 4)) sf := by
  subst hp
  obtain ⟨p, l, e, s, m, args, below, meth, c, start⟩ := k
  obtain ⟨T, vm0, k0, locs, X, e1, hS, hk, hZ, hown, hC, hN, hF, ⟨hx, hB, hr⟩, st⟩ := H
  obtain ⟨a, T', h', k1, X', e2, E, hS', hk', hZ', hown', hCr, -, st'⟩ := ldcOH X hx hZ hown w wS e1 hS hk hEL hC.1 (g := mkF m pc L S) rfl (Jvm.hb hB dd) hn hbig hc hl
  obtain ⟨u1, u3⟩ := updC hC hF (extKeep E) all0 hCr
  exact ⟨a, h', E, T', T'.vm, k1, locs, X', e2, hS', hk', hZ', hown', u1, hN, u3, ⟨hx, hB, hr⟩, fun t q => st t (st' t q)⟩
/-- ldc of a String constant that is read -/
theorem Here.ldcR (H : Here k R Z EL n0 y B ret h0 ws h pc L S ce sl sf) (pc' : Nat) {index : Nat} {text : String} (w : (Jvm.Cond.stringLink y.cls index text).before a0 Z = true) (wS : ∀ a ∈ Bundle.stringAtoms, a.before a0 Z = true) (hEL : EW Z a0 EL) (hmem : (y.cls, index) ∈ EL) {vs : List Value} {z : Int32} (ht : (∀ c ∈ text.toList, c.toNat < 256) ∧ text.toList.map (fun c => Value.int (Jvm.Lit.byteI c.toNat.toUInt16)) = vs) (hz : ¬ z < 0) (hlz : z.toNatClampNeg = vs.length) (dd : decode B pc = .ok (.ldc index, 2)) {n : Nat} (hn : 4 * text.toList.length ≤ n) (hbig : n ≤ 536870912) (hc : ce + 2 ≤ R.cells) (hl : sl + (n + 4) ≤ R.slots) (hp : pc + 2 = pc' := by rfl) :
    ∃ (a : Addr) (h' : Heap) (b : Addr) (kc : ClassId), Ext h h' ∧ Exa Z h' a "java/lang/String" ∧ Fld Z h' a "java/lang/String" "coder" "B" (.int 0) ∧ Fld Z h' a "java/lang/String" "value" "[B" (.ref b) ∧ Arv Z h' b kc .byte z vs (.int 0) ∧ (∀ x ∈ sf, x ≠ a ∧ x ≠ b) ∧ Here k R Z EL n0 y B ret h0 ws h' pc' L (.ref a :: S) (ce + 2) (sl + (n + 4)) sf := by
  subst hp
  obtain ⟨p, l, e, s, m, args, below, meth, c, start⟩ := k
  obtain ⟨T, vm0, k0, locs, X, e1, hS, hk, hZ, hown, hC, hN, hF, ⟨hx, hB, hr⟩, st⟩ := H
  obtain ⟨a, T', h', k1, b, kc, X', e2, E, hS', hk', hZ', hown', x1, x2, x3, x4, -, -, hCr, -, hsafe, st'⟩ := ldcCH X hx hZ hown w wS e1 hS hk hEL hmem hC.1 ht hz hlz (g := mkF m pc L S) rfl (Jvm.hb hB dd) hn hbig hc hl
  obtain ⟨u1, u3⟩ := updC hC hF (extKeep E) all0 hCr
  exact ⟨a, h', b, kc, E, x1, x2, x3, x4, fun x q => hsafe x (u3.2.2.2 x q).1, T', T'.vm, k1, locs, X', e2, hS', hk', hZ', hown', u1, hN, u3, ⟨hx, hB, hr⟩, fun t q => st t (st' t q)⟩
end HeapSteps
section Calls
variable {k : Ctx} {R : Room} {Z : State} {EL : List (String × Nat)} {n0 : Nat} {y z : MethodName} {B bytes : ByteArray} {ret rt : Option FieldType} {h0 h : Heap} {ws ws' sf : List Addr} {pc index mx W kc ks : Nat} {L : Array Slot} {S argsL rest : List Value} {ce sl : Nat} {a0 : Array Value} {Q : Option Value → Heap → Prop}
theorem Here.callS (H : Here k R Z EL n0 y B ret h0 ws h pc L S ce sl sf) (pc' : Nat) (w1 : (Jvm.Cond.methodLink y.cls index z).before a0 Z = true) (w2 : (Jvm.Cond.static z).before a0 Z = true) (w3 : (Jvm.Cond.initialized z.cls).before a0 Z = true) (w4 : (Jvm.Cond.code z bytes mx rt).before a0 Z = true) (hy : z.cls ≠ "java/lang/invoke/MethodHandle" ∧ z.cls ≠ "java/lang/invoke/VarHandle")
    (P : Paid k R Z EL n0 z W argsL.toArray h ws' kc ks Q) (hlen : ∀ sig, parseMethodDescriptor z.desc = some sig → argsL.length = sig.parameters.length) (hS : S = argsL.reverse ++ rest) (hW : (rest.map fun v => v.category).sum ≤ W) (dd : decode B pc = .ok (.invokestatic index, 3)) (hc : ce + kc ≤ R.cells) (hl : sl + ks ≤ R.slots) (hws : ∀ x ∈ ws', x ∈ sf) (hp : pc + 3 = pc' := by rfl) :
    ∃ (v : Option Value) (h' : Heap), Q v h' ∧ Keep h h' ws' ∧ Here k R Z EL n0 y B ret h0 ws h' pc' L (v.toList ++ rest) (ce + kc) (sl + ks) sf := by
  subst hp hS
  obtain ⟨p, l, e, s, m, args, below, meth, c, start⟩ := k
  obtain ⟨T, vm0, k0, locs, X, e1, hS, hk, hZ, hown, hC, hN, hF, ⟨hx, hB, hsz, hr⟩, st⟩ := H
  obtain ⟨v, vm1, ⟨U, lo, c1, s1⟩, -, X', hS', hg, ⟨Lx, ⟨hQ, hK, hFr⟩, l1, c1e, s1e, hCr⟩, st'⟩ := callSS X hx (own := y.cls) hown (mvT (s := s.setVm vm0) hZ w1) (mvT (s := s.setVm vm0) hZ w2) (mvT (s := s.setVm vm0) hZ w3) (mvT (s := s.setVm vm0) hZ w4) hy (P vm0 hZ hC.1 fun x q => ⟨(hF.2.2.2 x (hws x q)).1, (hF.2.2.2 x (hws x q)).2.1⟩)
    (g := mkF m pc L (argsL.reverse ++ rest)) rfl hsz hlen rfl (by show 2 * 0 + (rest.map fun v => v.category).sum ≤ W; omega) (Jvm.hb hB dd) (fun _ _ => ⟨rfl, e1, hc, hl⟩)
  dsimp only [Pt.U, Pt.locs, Pt.cells, Pt.slots] at X' hS' hg hQ hK l1 c1e s1e hCr st'
  subst l1 c1e s1e
  obtain ⟨u1, u3⟩ := updC hC hF hK hws hCr
  exact ⟨v, U.heap, hQ, hK, U, U.vm, U.heap.size, _, X', rfl, hS.trans hS' (Nat.le_trans hk hK.1), Nat.le_refl _, State.Warmed39.trans (t := s.setVm vm0) hZ hS'.1, (hS'.1.alike.findClass _ _).trans hown, u1, Fr.app hN hFr, u3, ⟨hx, hB, hsz, hr⟩, fun t q => st t (st'.trans q)⟩
theorem Here.callI (H : Here k R Z EL n0 y B ret h0 ws h pc L S ce sl sf) (pc' : Nat) (hy1 : z.name = "<init>") (w1 : (Jvm.Cond.methodLink y.cls index z).before a0 Z = true) (w2 : (Jvm.Cond.instanceMethod z).before a0 Z = true) (w4 : (Jvm.Cond.code z bytes mx none).before a0 Z = true) (hy : z.cls ≠ "java/lang/invoke/MethodHandle" ∧ z.cls ≠ "java/lang/invoke/VarHandle") {a : Addr}
    (P : Paid k R Z EL n0 z W (.ref a :: argsL).toArray h ws' kc ks Q) (hlen : ∀ sig, parseMethodDescriptor z.desc = some sig → argsL.length = sig.parameters.length) (hS : S = argsL.reverse ++ .ref a :: rest) (hW : (rest.map fun v => v.category).sum ≤ W) (dd : decode B pc = .ok (.invokespecial index, 3)) (hc : ce + kc ≤ R.cells) (hl : sl + ks ≤ R.slots) (hws : ∀ x ∈ ws', x ∈ sf) (hp : pc + 3 = pc' := by rfl) :
    ∃ (v : Option Value) (h' : Heap), Q v h' ∧ Keep h h' ws' ∧ Here k R Z EL n0 y B ret h0 ws h' pc' L (v.toList ++ rest) (ce + kc) (sl + ks) sf := by
  subst hp hS
  obtain ⟨p, l, e, s, m, args, below, meth, c, start⟩ := k
  obtain ⟨T, vm0, k0, locs, X, e1, hS, hk, hZ, hown, hC, hN, hF, ⟨hx, hB, hsz, hr⟩, st⟩ := H
  obtain ⟨v, vm1, ⟨U, lo, c1, s1⟩, -, X', hS', hg, ⟨Lx, ⟨hQ, hK, hFr⟩, l1, c1e, s1e, hCr⟩, st'⟩ := X.specialBackS hx (own := y.cls) hy1 hown (mvT (s := s.setVm vm0) hZ w1) (mvT (s := s.setVm vm0) hZ w2) (mvT (s := s.setVm vm0) hZ w4) hy (P vm0 hZ hC.1 fun x q => ⟨(hF.2.2.2 x (hws x q)).1, (hF.2.2.2 x (hws x q)).2.1⟩)
    (g := mkF m pc L (argsL.reverse ++ .ref a :: rest)) rfl hsz (Steps.refl _) (a := a) hlen rfl (by show 2 * 0 + (rest.map fun v => v.category).sum ≤ W; omega) (Jvm.hb hB dd) (fun _ _ => ⟨rfl, e1, hc, hl⟩)
  dsimp only [Pt.U, Pt.locs, Pt.cells, Pt.slots] at X' hS' hg hQ hK l1 c1e s1e hCr st'
  subst l1 c1e s1e
  obtain ⟨u1, u3⟩ := updC hC hF hK hws hCr
  exact ⟨v, U.heap, hQ, hK, U, U.vm, U.heap.size, _, X', rfl, hS.trans hS' (Nat.le_trans hk hK.1), Nat.le_refl _, State.Warmed39.trans (t := s.setVm vm0) hZ hS'.1, (hS'.1.alike.findClass _ _).trans hown, u1, Fr.app hN hFr, u3, ⟨hx, hB, hsz, hr⟩, fun t q => st t (st'.trans q)⟩
theorem Here.callV (H : Here k R Z EL n0 y B ret h0 ws h pc L S ce sl sf) (pc' : Nat) {C : String} {z1 : MethodName} (w1 : (Jvm.Cond.methodLink y.cls index z1).before a0 Z = true) (w2 : (Jvm.Cond.declares z1).before a0 Z = true) (w3 : (Jvm.Cond.selects C z1 z).before a0 Z = true) (w4 : (Jvm.Cond.instanceMethod z).before a0 Z = true) (hy : z1.cls ≠ "java/lang/invoke/MethodHandle" ∧ z1.cls ≠ "java/lang/invoke/VarHandle") {a : Addr} (E : Exa Z h a C)
    (P : Paid k R Z EL n0 z W (.ref a :: argsL).toArray h ws' kc ks Q) (hlen : ∀ sig, parseMethodDescriptor z1.desc = some sig → argsL.length = sig.parameters.length) (hS : S = argsL.reverse ++ .ref a :: rest) (hW : (rest.map fun v => v.category).sum ≤ W) (dd : decode B pc = .ok (.invokevirtual index, 3)) (hc : ce + kc ≤ R.cells) (hl : sl + ks ≤ R.slots) (hws : ∀ x ∈ ws', x ∈ sf) (hp : pc + 3 = pc' := by rfl) (hz1 : z1 = z := by rfl) :
    ∃ (v : Option Value) (h' : Heap), Q v h' ∧ Keep h h' ws' ∧ Here k R Z EL n0 y B ret h0 ws h' pc' L (v.toList ++ rest) (ce + kc) (sl + ks) sf := by
  subst hz1
  subst hp hS
  obtain ⟨p, l, e, s, m, args, below, meth, c, start⟩ := k
  obtain ⟨T, vm0, k0, locs, X, e1, hS, hk, hZ, hown, hC, hN, hF, ⟨hx, hB, hsz, hr⟩, st⟩ := H
  obtain ⟨cB, kB, i1, i2, i3⟩ := isOf (s := s.setVm vm0) hZ e1 E
  obtain ⟨v, vm1, ⟨U, lo, c1, s1⟩, -, X', hS', hg, ⟨Lx, ⟨hQ, hK, hFr⟩, l1, c1e, s1e, hCr⟩, st'⟩ := X.virtualBackS hx (own := y.cls) hown (mvT (s := s.setVm vm0) hZ w1) (mvT (s := s.setVm vm0) hZ w2) (notFace_of_selects (args := args) (mvT (s := s.setVm vm0) hZ w3)) (mvT (s := s.setVm vm0) hZ w3) (mvT (s := s.setVm vm0) hZ w4) hy (P vm0 hZ hC.1 fun x q => ⟨(hF.2.2.2 x (hws x q)).1, (hF.2.2.2 x (hws x q)).2.1⟩) i1 i3
    (g := mkF m pc L (argsL.reverse ++ .ref a :: rest)) rfl hsz (Steps.refl _) hlen rfl (by show 2 * 0 + (rest.map fun v => v.category).sum ≤ W; omega) (Jvm.hb hB dd) (fun _ _ => ⟨rfl, e1, hc, hl⟩)
  dsimp only [Pt.U, Pt.locs, Pt.cells, Pt.slots] at X' hS' hg hQ hK l1 c1e s1e hCr st'
  subst l1 c1e s1e
  obtain ⟨u1, u3⟩ := updC hC hF hK hws hCr
  exact ⟨v, U.heap, hQ, hK, U, U.vm, U.heap.size, _, X', rfl, hS.trans hS' (Nat.le_trans hk hK.1), Nat.le_refl _, State.Warmed39.trans (t := s.setVm vm0) hZ hS'.1, (hS'.1.alike.findClass _ _).trans hown, u1, Fr.app hN hFr, u3, ⟨hx, hB, hsz, hr⟩, fun t q => st t (st'.trans q)⟩
end Calls
section NotIns
variable {k : Ctx} {R : Room} {Z : State} {EL : List (String × Nat)} {n0 : Nat} {y : MethodName} {B : ByteArray} {ret : Option FieldType} {h0 h : Heap} {ws sf : List Addr} {pc : Nat} {L : Array Slot} {S : List Value} {ce sl : Nat} {a0 : Array Value} {C K O Sp : String} {n : Nat}
theorem ns_root (w : (Jvm.Cond.noSuperclass O).before a0 Z = true) (wi : (Jvm.Cond.instantiable K n).before a0 Z = true) (hn : O ≠ K) : NS Z O K := by
  obtain ⟨c, k, h1, h2, h3, -, -⟩ := Cond.noSuperclass_spec w
  obtain ⟨t, kt, g1, -⟩ := Cond.instantiable_spec wi
  have ne := ids_ne h1 g1 hn
  refine ⟨c, t, h1, g1, fun fuel => ?_⟩
  cases fuel with
  | zero => rfl
  | succ f => simp [Vm.isSubclassAux, ne, h2, h3]
def NoIns (Z : State) (C K : String) : Prop := ∃ c t, Z.vm.findClass C = some c ∧ Z.vm.findClass K = some t ∧ Z.vm.assignable c t = false
theorem ns_no (w : (Jvm.Cond.superclass C Sp).before a0 Z = true) (wi : (Jvm.Cond.instantiable K n).before a0 Z = true) (nn : NS Z C K) (hn : C ≠ K) : NoIns Z C K := by
  obtain ⟨c, t, h0, g0, n3⟩ := nn
  obtain ⟨p, k, kp, h1, h2, h3, h4, h5, -, h7⟩ := Cond.superclass_spec h0 w
  obtain ⟨t', k', g1, g2, g5, g7, -⟩ := Cond.instantiable_spec wi
  cases g0.symm.trans g1
  have g8 : k'.isInterface = false := by cases hq : k'.isInterface <;> simp [hq] at g7 ⊢
  have ne := ids_ne h0 g0 hn
  refine ⟨c, t, h0, g0, ?_⟩
  show Z.vm.assignableAux (255 + 1) c t = false
  simp [Vm.assignableAux, ne, h2, g2, h5, g5, g8, Vm.isSubclass, n3]
theorem Here.instNo (H : Here k R Z EL n0 y B ret h0 ws h pc L (.ref a :: S) ce sl sf) (pc' : Nat) {index : Nat} (w : (Jvm.Cond.classLink y.cls index K).before a0 Z = true) (E : Exa Z h a C) (F : NoIns Z C K) (dd : decode B pc = .ok (.instanceof index, 3)) (hp : pc + 3 = pc' := by rfl) : Here k R Z EL n0 y B ret h0 ws h pc' L (.int 0 :: S) ce sl sf := by
  subst hp
  exact H.goT rfl fun p l e s m args below meth c T locs ce sl X e1 hZ hown hx hB hl hs => RoadKit.instNo X hx hZ hown w e1 E F (g := mkF m pc L (.ref a :: S)) rfl rfl (Jvm.hb hB dd)
theorem Here.instNull (H : Here k R Z EL n0 y B ret h0 ws h pc L (.null :: S) ce sl sf) (pc' : Nat) {index : Nat} (dd : decode B pc = .ok (.instanceof index, 3)) (hp : pc + 3 = pc' := by rfl) : Here k R Z EL n0 y B ret h0 ws h pc' L (.int 0 :: S) ce sl sf := by
  subst hp
  exact H.goT rfl fun p l e s m args below meth c T locs ce sl X e1 hZ hown hx hB hl hs => ⟨T, X, e1, X.instanceofNull hx (g := mkF m pc L (.null :: S)) rfl rfl (Jvm.hb hB dd)⟩
end NotIns
section More
variable {k : Ctx} {R : Room} {Z : State} {EL : List (String × Nat)} {n0 : Nat} {z : MethodName} {h h' : Heap} {ws' ws : List Addr} {W kc ks kc' ks' : Nat} {as' : Array Value} {Q Q' : Option Value → Heap → Prop}
theorem Paid.more (P : Paid k R Z EL n0 z W as' h ws' kc ks Q) (hc : kc ≤ kc') (hs : ks ≤ ks') : Paid k R Z EL n0 z W as' h ws' kc' ks' Q := by
  obtain ⟨p, l, e, s, m, args, below, meth, c, start⟩ := k
  intro vm0 hZ H hsf m meth c A g ig mk a X hg hsize hdg hW hn hp
  obtain ⟨v, D, X', hS, hgr, ⟨L, q1, q2, q3, q4, q5⟩, st⟩ := P vm0 hZ H hsf m meth c A g ig mk a X hg hsize hdg hW hn ⟨hp.1, hp.2.1, by have := hp.2.2.1; omega, by have := hp.2.2.2; omega⟩
  exact ⟨v, ⟨D.U, D.locs, A.cells + kc', A.slots + ks'⟩, X'.more (by show D.cells ≤ A.cells + kc'; rw [q3]; omega) (by show D.slots ≤ A.slots + ks'; rw [q4]; omega), hS, hgr, ⟨L, q1, q2, rfl, rfl, q5⟩, st⟩
theorem Paid.mono (P : Paid k R Z EL n0 z W as' h ws' kc ks Q) (hq : ∀ v h', Q v h' → Q' v h') : Paid k R Z EL n0 z W as' h ws' kc ks Q' := by
  obtain ⟨p, l, e, s, m, args, below, meth, c, start⟩ := k
  intro vm0 hZ H hsf m meth c A g ig mk a X hg hsize hdg hW hn hp
  obtain ⟨v, D, X', hS, hgr, ⟨L, q1, q2⟩, st⟩ := P vm0 hZ H hsf m meth c A g ig mk a X hg hsize hdg hW hn hp
  exact ⟨v, D, X', hS, hgr, ⟨L, ⟨hq _ _ q1.1, q1.2⟩, q2⟩, st⟩
theorem keepExt (K : Keep h h' []) : Ext h h' := ⟨K.1, fun a c q => K.2.1 a c q nin0⟩
theorem Ext.refl' (h : Heap) : Ext h h := ⟨Nat.le_refl _, fun _ _ q => q⟩
theorem Ext.trans' {h1 : Heap} (E : Ext h h1) (F : Ext h1 h') : Ext h h' := ⟨Nat.le_trans E.1 F.1, fun a c q => F.2 a c (E.2 a c q)⟩
/-- what stood in hA stands still: only later cells were written -/
theorem Ext.keep' {hA : Heap} (E : Ext hA h) (K : Keep h h' ws) (hw : ∀ x ∈ ws, hA.size ≤ x) : Ext hA h' := ⟨Nat.le_trans E.1 K.1, fun a c q => K.2.1 a c (E.2 a c q) fun hm => absurd (Array.getElem?_eq_some_iff.mp q).1 (Nat.not_lt.mpr (hw a hm))⟩
theorem staOld {C n d : String} {v : Value} (F : Sta Z Z.heap C n d v) (O : Old Z n0 h) : Sta Z h C n d v := F.ext O.2
theorem nar_char {x : Int32} (h0 : ¬ x < 0) (h1 : ¬ 65535 < x) : nar .char x = x := by
  obtain ⟨q1, q2, q3⟩ := c_i2c x
  have e : nar .char x = x.toUInt32.toUInt16.toUInt32.toInt32 := rfl
  rw [e]
  rw [Int32.lt_iff_toInt_lt] at h0 h1
  have e0 : (0 : Int32).toInt = 0 := rfl
  have e1 : (65535 : Int32).toInt = 65535 := rfl
  exact Int32.toInt_inj.mp (by omega)
end More
end Jvm.OwnKit
/- laws to paste: Road.backV, Road.codOf (cut by pick.py; bodies as the Statement names them) -/
namespace Jvm.Pilot.@@N@@
namespace StrChars
open Jvm Sem ClassFile Op Lib Jvm.Stand Jvm.Free.XT Jvm.Free.ALB Jvm.Free.JM Jvm.Free
open Jvm.Lib.Cold (StaticIs)
/-- a char array whose places are chars -/
def Ch (a : Addr) (A : Cell) (U : State) : Prop := Arr .char a A U ∧ Typed .char A
theorem Ch.mv {a : Addr} {A : Cell} {U U' : State} (h : Ch a A U) (hal : U.vm.Alike U'.vm) (hh : U'.heap = U.heap) : Ch a A U' := ⟨h.1.mv hal hh, h.2⟩
theorem Ch.keep {a : Addr} {A : Cell} {U U' : State} (h : Ch a A U) (hal : U.vm.Alike U'.vm) (hk : U'.heap[a]? = some A) : Ch a A U' := ⟨h.1.keep hal hk, h.2⟩
/-- what place i of a char[]'s cell holds -/
def cv (A : Cell) (i : Nat) : Int32 := match A.slots[i]? with | some (.int x) => x | _ => 0
theorem Ch.get {a : Addr} {A : Cell} {U : State} (h : Ch a A U) {i : Nat} (hi : i < A.slots.size) : A.slots[i]? = some (.int (cv A i)) := by
  have e := Array.getElem?_eq_getElem hi
  have f := h.2 i _ e
  unfold cv; rw [e]
  generalize A.slots[i] = v at f
  cases v <;> simp [fits] at f ⊢
/-- the byte that i2b leaves of a char -/
def lo8 (x : Int32) : Int32 := x.toInt8.toInt32
theorem fits_lo8 (y : Int32) : fits .byte (.int (lo8 y)) = true := by
  have h1 := y.toInt8.le_toInt
  have h2 := y.toInt8.toInt_lt
  simp only [lo8, fits, Bool.and_eq_true, decide_eq_true_eq, Int32.le_iff_toInt_le, Int8.toInt_toInt32, show (-128 : Int32).toInt = -128 from by decide, show (127 : Int32).toInt = 127 from by decide]
  omega
/-- A' is A but that each place j of lo .. hi - 1 holds f j -/
def Laid (A A' : Cell) (lo hi : Nat) (f : Nat → Value) : Prop := A'.cls = A.cls ∧ A'.vm = A.vm ∧ A'.slots.size = A.slots.size ∧ ∀ i, A'.slots[i]? = if lo ≤ i ∧ i < hi then some (f i) else A.slots[i]?
theorem Laid.zero (A : Cell) (lo : Nat) (f : Nat → Value) : Laid A A lo (lo + 0) f := ⟨rfl, rfl, rfl, fun i => by rw [if_neg (by omega)]⟩
theorem Laid.step {A Ak : Cell} {lo k : Nat} {f : Nat → Value} {v : Value} (h : Laid A Ak lo k f) (hlo : lo ≤ k) (hk : k < Ak.slots.size) (hv : v = f k) : Laid A (Ak.setSlot k v) lo (k + 1) f := by
  refine ⟨h.1, h.2.1, by simpa [Cell.setSlot] using h.2.2.1, fun i => ?_⟩
  by_cases e : k = i
  · subst e; rw [Cell.slots_setSlot_self v hk, if_pos (by omega), hv]
  · rw [Cell.slots_setSlot_ne v e, h.2.2.2 i]
    by_cases q : lo ≤ i ∧ i < k
    · rw [if_pos q, if_pos (by omega)]
    · rw [if_neg q, if_neg (by omega)]
def U16 : String := "java/lang/StringUTF16"
namespace Cmp5
def yN : MethodName := ⟨"java/lang/StringUTF16", "compress", "([CI[BII)I"⟩
abbrev yB : ByteArray := jdk_52_method_21_code
theorem d0 : decode yB 0 = .ok (.iconst 0, 1) := by decide +kernel
theorem d1 : decode yB 1 = .ok (.istore 5, 2) := by decide +kernel
theorem d3 : decode yB 3 = .ok (.iload 5, 2) := by decide +kernel
theorem d5 : decode yB 5 = .ok (.iload 4, 2) := by decide +kernel
theorem d7 : decode yB 7 = .ok (.if_icmp (.ge) 37, 3) := by decide +kernel
theorem d10 : decode yB 10 = .ok (.aload_n 0, 1) := by decide +kernel
theorem d11 : decode yB 11 = .ok (.iload_n 1, 1) := by decide +kernel
theorem d12 : decode yB 12 = .ok (.caload, 1) := by decide +kernel
theorem d13 : decode yB 13 = .ok (.istore 6, 2) := by decide +kernel
theorem d15 : decode yB 15 = .ok (.iload 6, 2) := by decide +kernel
theorem d17 : decode yB 17 = .ok (.sipush 255, 3) := by decide +kernel
theorem d20 : decode yB 20 = .ok (.if_icmp (.le) 6, 3) := by decide +kernel
theorem d26 : decode yB 26 = .ok (.aload_n 2, 1) := by decide +kernel
theorem d27 : decode yB 27 = .ok (.iload_n 3, 1) := by decide +kernel
theorem d28 : decode yB 28 = .ok (.iload 6, 2) := by decide +kernel
theorem d30 : decode yB 30 = .ok (.i2b, 1) := by decide +kernel
theorem d31 : decode yB 31 = .ok (.bastore, 1) := by decide +kernel
theorem d32 : decode yB 32 = .ok (.iinc 1 1, 3) := by decide +kernel
theorem d35 : decode yB 35 = .ok (.iinc 3 1, 3) := by decide +kernel
theorem d38 : decode yB 38 = .ok (.iinc 5 1, 3) := by decide +kernel
theorem d41 : decode yB 41 = .ok (.goto (-38), 3) := by decide +kernel
theorem d44 : decode yB 44 = .ok (.iload 4, 2) := by decide +kernel
theorem d46 : decode yB 46 = .ok (.ireturn, 1) := by decide +kernel
def site : List Cond := []
def tab : Cond := tabOf yN yB 7 (some .int) site
def P (b : Addr) (A : Cell) (d : Addr) (B : Cell) (o q len : Nat) (args : Array Value) (s : State) : Prop := args = #[.ref b, .int (Int32.ofNat o), .ref d, .int (Int32.ofNat q), .int (Int32.ofNat len)] ∧ Ch b A s ∧ Arr .byte d B s ∧ b ≠ d ∧ o + len ≤ A.slots.size ∧ q + len ≤ B.slots.size ∧ ∀ i, i < len → ¬ 255 < cv A (o + i)
def E (b : Addr) (A : Cell) (d : Addr) (B : Cell) (o q len : Nat) (r : Option Value) (s u : State) : Prop := r = some (.int (Int32.ofNat len)) ∧ ∃ B', Put d B' s u ∧ Laid B B' q (q + len) (fun j => Value.int (lo8 (cv A (o + (j - q)))))
/-- no char of the range above 255: len; the places written hold each char's low byte -/
theorem law (l : Launch) (b : Addr) (A : Cell) (d : Addr) (B : Cell) (o q len : Nat) : Law l yN 5 5 0 0 yB 7 (some .int) site (P b A d B o q len) (E b A d B o q len) (copyLocs d q len) 0 0 := by
  refine Law.of_walk (plainFor_of_name (by decide +kernel)) (by decide +kernel) (by decide +kernel) (by decide) (fun _ _ h => by rw [h.1]; rfl) (fun _ U U' hal hh h => ⟨h.1, h.2.1.mv hal hh, h.2.2.1.mv hal hh, h.2.2.2⟩) (fun r U U' V V' h1 hal h2 h => ⟨h.1, h.2.elim fun B' q => ⟨B', q.1.mv h1 h2, q.2⟩⟩) ?_
  intro p e s m args below meth c s₁ X0 hexec hbytes hml hret hlk hnm hown hh0 W hP
  obtain ⟨rfl, hA, hB, hne, l1, l2, hp⟩ := hP
  have c1 : Steps p.tables e below (s₁.setTop (entryFrame m #[.ref b, .int (Int32.ofNat o), .ref d, .int (Int32.ofNat q), .int (Int32.ofNat len)] 7)) (s₁.setTop (mkF m 0 #[.val (.ref b), .val (.int (Int32.ofNat o)), .val (.ref d), .val (.int (Int32.ofNat q)), .val (.int (Int32.ofNat len)), .unset, .unset] [])) := entry rfl
  have hA0 := hA.1.mv X0.warmed.alike hh0
  have hB0 := hB.mv X0.warmed.alike hh0
  have a31 := hA.1.2.2.2
  have c2 : Steps p.tables e below (s₁.setTop (entryFrame m #[.ref b, .int (Int32.ofNat o), .ref d, .int (Int32.ofNat q), .int (Int32.ofNat len)] 7)) (s₁.setTop (mkF m 3 #[.val (.ref b), .val (.int (Int32.ofNat o)), .val (.ref d), .val (.int (Int32.ofNat q)), .val (.int (Int32.ofNat len)), .val (.int 0), .unset] [])) := c1.trans (by
    refine iconstV X0.here hexec rfl 0 (hb hbytes d0) (by decide) ?_
    refine XS.istore X0.here hexec rfl (hb hbytes d1) rfl rfl ?_
    exact Steps.refl _)
  have loop : ∀ (r i : Nat), i + r = len → ∀ (z : Slot), (z = .unset ∨ ∃ w, z = .val w ∧ w.category = 1) → ∀ (Tl : State) (Bk : Cell), Stand p l e { frames := 0, locals := 0, cells := 0, slots := 0 } s m #[.ref b, .int (Int32.ofNat o), .ref d, .int (Int32.ofNat q), .int (Int32.ofNat len)] below meth c Tl ([] ++ copyLocs d q i) 0 0 → Put d Bk s₁ Tl → Laid B Bk q (q + i) (fun j => Value.int (lo8 (cv A (o + (j - q))))) →
      Steps p.tables e below (s₁.setTop (entryFrame m #[.ref b, .int (Int32.ofNat o), .ref d, .int (Int32.ofNat q), .int (Int32.ofNat len)] 7)) (Tl.setTop (mkF m 3 #[.val (.ref b), .val (.int (Int32.ofNat (o + i))), .val (.ref d), .val (.int (Int32.ofNat (q + i))), .val (.int (Int32.ofNat len)), .val (.int (Int32.ofNat i)), z] [])) → ∃ (T' : State) (B' : Cell) (z' : Slot), Stand p l e { frames := 0, locals := 0, cells := 0, slots := 0 } s m #[.ref b, .int (Int32.ofNat o), .ref d, .int (Int32.ofNat q), .int (Int32.ofNat len)] below meth c T' ([] ++ copyLocs d q len) 0 0 ∧ Put d B' s₁ T' ∧ Laid B B' q (q + len) (fun j => Value.int (lo8 (cv A (o + (j - q))))) ∧
      Steps p.tables e below (s₁.setTop (entryFrame m #[.ref b, .int (Int32.ofNat o), .ref d, .int (Int32.ofNat q), .int (Int32.ofNat len)] 7)) (T'.setTop (mkF m 3 #[.val (.ref b), .val (.int (Int32.ofNat (o + len))), .val (.ref d), .val (.int (Int32.ofNat (q + len))), .val (.int (Int32.ofNat len)), .val (.int (Int32.ofNat len)), z'] [])) := by
    intro r
    induction r with
    | zero =>
      intro i hi z hz Tl Bk Xl pl fl cl
      have hil : i = len := by omega
      rw [hil] at Xl fl cl
      exact ⟨Tl, Bk, z, Xl, pl, fl, cl⟩
    | succ r ih =>
      intro i hi z hz Tl Bk Xl pl fl cl
      have all := X0.warmed.alike.symm.trans Xl.warmed.alike
      have hAl := hA0.keep all (pl.other hne hA0.1)
      have hBk := hB0.like all pl.1 fl.1 fl.2.1 fl.2.2.1
      have hlt : q + i < Bk.slots.size := by rw [fl.2.2.1]; omega
      have c3 : Steps p.tables e below (s₁.setTop (entryFrame m #[.ref b, .int (Int32.ofNat o), .ref d, .int (Int32.ofNat q), .int (Int32.ofNat len)] 7)) (Tl.setTop (mkF m 12 #[.val (.ref b), .val (.int (Int32.ofNat (o + i))), .val (.ref d), .val (.int (Int32.ofNat (q + i))), .val (.int (Int32.ofNat len)), .val (.int (Int32.ofNat i)), z] [.int (Int32.ofNat (o + i)), .ref b])) := cl.trans (by
        refine XS.iload Xl.here hexec rfl (hb hbytes d3) rfl ?_
        refine XS.iload Xl.here hexec rfl (hb hbytes d5) rfl ?_
        refine XS.icmpNo Xl.here hexec rfl (hb hbytes d7) rfl (ii_ge_f (lt32 (by omega) (by omega))) ?_
        refine XS.aloadN Xl.here hexec rfl (hb hbytes d10) rfl rfl ?_
        refine XS.iloadN Xl.here hexec rfl (hb hbytes d11) rfl ?_
        exact Steps.refl _)
      have c4 : Steps p.tables e below (s₁.setTop (entryFrame m #[.ref b, .int (Int32.ofNat o), .ref d, .int (Int32.ofNat q), .int (Int32.ofNat len)] 7)) (Tl.setTop (mkF m 13 #[.val (.ref b), .val (.int (Int32.ofNat (o + i))), .val (.ref d), .val (.int (Int32.ofNat (q + i))), .val (.int (Int32.ofNat len)), .val (.int (Int32.ofNat i)), z] [.int (cv A (o + i))])) := c3.trans (by
        refine Xl.aget hexec hAl rfl (hA.get (i := o + i) (by omega)) rfl rfl (hb hbytes d12) ?_
        exact Steps.refl _)
      have c5 : Steps p.tables e below (s₁.setTop (entryFrame m #[.ref b, .int (Int32.ofNat o), .ref d, .int (Int32.ofNat q), .int (Int32.ofNat len)] 7)) (Tl.setTop (mkF m 15 #[.val (.ref b), .val (.int (Int32.ofNat (o + i))), .val (.ref d), .val (.int (Int32.ofNat (q + i))), .val (.int (Int32.ofNat len)), .val (.int (Int32.ofNat i)), .val (.int (cv A (o + i)))] [])) := c4.trans (by
        refine XS.istoreS Xl.here hexec rfl (hb hbytes d13) rfl rfl hz ?_
        exact Steps.refl _)
      have c6 : Steps p.tables e below (s₁.setTop (entryFrame m #[.ref b, .int (Int32.ofNat o), .ref d, .int (Int32.ofNat q), .int (Int32.ofNat len)] 7)) (Tl.setTop (mkF m 31 #[.val (.ref b), .val (.int (Int32.ofNat (o + i))), .val (.ref d), .val (.int (Int32.ofNat (q + i))), .val (.int (Int32.ofNat len)), .val (.int (Int32.ofNat i)), .val (.int (cv A (o + i)))] [.int (lo8 (cv A (o + i))), .int (Int32.ofNat (q + i)), .ref d])) := c5.trans (by
        refine XS.iload Xl.here hexec rfl (hb hbytes d15) rfl ?_
        refine sipushV Xl.here hexec rfl 255 (hb hbytes d17) (by decide) ?_
        refine XS.icmpYes Xl.here hexec rfl (pc0 := 20) rfl (hb hbytes d20) rfl (ii_le_t (hp i (by omega))) (by decide) rfl ?_
        refine XS.aloadN Xl.here hexec rfl (hb hbytes d26) rfl rfl ?_
        refine XS.iloadN Xl.here hexec rfl (hb hbytes d27) rfl ?_
        refine XS.iload Xl.here hexec rfl (hb hbytes d28) rfl ?_
        refine i2b Xl.here hexec rfl (hb hbytes d30) rfl ?_
        exact Steps.refl _)
      obtain ⟨T7, X7, p7, st7⟩ := Xl.aput hexec hBk rfl hlt rfl (fits_lo8 (cv A (o + i))) (g := (mkF m 31 #[.val (.ref b), .val (.int (Int32.ofNat (o + i))), .val (.ref d), .val (.int (Int32.ofNat (q + i))), .val (.int (Int32.ofNat len)), .val (.int (Int32.ofNat i)), .val (.int (cv A (o + i)))] [.int (lo8 (cv A (o + i))), .int (Int32.ofNat (q + i)), .ref d])) rfl (rest := []) rfl (hb hbytes d31)
      have c8 : Steps p.tables e below (s₁.setTop (entryFrame m #[.ref b, .int (Int32.ofNat o), .ref d, .int (Int32.ofNat q), .int (Int32.ofNat len)] 7)) (T7.setTop (mkF m 32 #[.val (.ref b), .val (.int (Int32.ofNat (o + i))), .val (.ref d), .val (.int (Int32.ofNat (q + i))), .val (.int (Int32.ofNat len)), .val (.int (Int32.ofNat i)), .val (.int (cv A (o + i)))] [])) := c6.trans (st7 _ (Steps.refl _))
      have c9 : Steps p.tables e below (s₁.setTop (entryFrame m #[.ref b, .int (Int32.ofNat o), .ref d, .int (Int32.ofNat q), .int (Int32.ofNat len)] 7)) (T7.setTop (mkF m 3 #[.val (.ref b), .val (.int (Int32.ofNat (o + i) + 1)), .val (.ref d), .val (.int (Int32.ofNat (q + i) + 1)), .val (.int (Int32.ofNat len)), .val (.int (Int32.ofNat i + 1)), .val (.int (cv A (o + i)))] [])) := c8.trans (by
        refine iincV X7.here hexec rfl 1 (hb hbytes d32) (by decide) rfl rfl ?_
        refine iincV X7.here hexec rfl 1 (hb hbytes d35) (by decide) rfl rfl ?_
        refine iincV X7.here hexec rfl 1 (hb hbytes d38) (by decide) rfl rfl ?_
        refine XS.goto X7.here hexec rfl (pc0 := 41) rfl (hb hbytes d41) (by decide) rfl ?_
        exact Steps.refl _)
      have c10 : Steps p.tables e below (s₁.setTop (entryFrame m #[.ref b, .int (Int32.ofNat o), .ref d, .int (Int32.ofNat q), .int (Int32.ofNat len)] 7)) (T7.setTop (mkF m 3 #[.val (.ref b), .val (.int (Int32.ofNat (o + (i + 1)))), .val (.ref d), .val (.int (Int32.ofNat (q + (i + 1)))), .val (.int (Int32.ofNat len)), .val (.int (Int32.ofNat (i + 1))), .val (.int (cv A (o + i)))] [])) := by
        have := c9
        rw [succ32, succ32, succ32] at this
        exact this
      exact ih (i + 1) (by omega) _ (Or.inr ⟨_, rfl, rfl⟩) T7 _ (by rw [copyLocs_step, ← List.append_assoc]; exact X7) (pl.trans p7) (fl.step (by omega) hlt (by simp)) c10
  obtain ⟨T9, B9, z9, X9, p9, f9, g9⟩ := loop len 0 (by omega) .unset (Or.inl rfl) s₁ B (by simpa [copyLocs] using X0) ⟨hB0.1, fun _ _ => rfl, rfl⟩ (Laid.zero _ _ _) c2
  have c11 : Steps p.tables e below (s₁.setTop (entryFrame m #[.ref b, .int (Int32.ofNat o), .ref d, .int (Int32.ofNat q), .int (Int32.ofNat len)] 7)) (T9.setTop (mkF m 46 #[.val (.ref b), .val (.int (Int32.ofNat (o + len))), .val (.ref d), .val (.int (Int32.ofNat (q + len))), .val (.int (Int32.ofNat len)), .val (.int (Int32.ofNat len)), z9] [.int (Int32.ofNat len)])) := g9.trans (by
    refine XS.iload X9.here hexec rfl (hb hbytes d3) rfl ?_
    refine XS.iload X9.here hexec rfl (hb hbytes d5) rfl ?_
    refine XS.icmpYes X9.here hexec rfl (pc0 := 7) rfl (hb hbytes d7) rfl (ii_ge_t (nlt32 (by omega) (Nat.le_refl _))) (by decide) rfl ?_
    refine XS.iload X9.here hexec rfl (hb hbytes d44) rfl ?_
    exact Steps.refl _)
  exact ⟨T9, some (.int (Int32.ofNat len)), _, _, _, X9, by simp, rfl, rfl, (fun h => by cases h), ⟨rfl, B9, p9.from hh0, f9⟩, fun fs hl => c11.trans (X9.ireturnOut hexec hret rfl (Or.inl rfl) (hb hbytes d46) hl)⟩
end Cmp5
namespace Cmp3
def yN : MethodName := ⟨"java/lang/StringUTF16", "compress", "([CII)[B"⟩
abbrev yB : ByteArray := jdk_52_method_16_code
theorem d0 : decode yB 0 = .ok (.iload_n 2, 1) := by decide +kernel
theorem d1 : decode yB 1 = .ok (.newarray .byte, 2) := by decide +kernel
theorem d3 : decode yB 3 = .ok (.astore_n 3, 1) := by decide +kernel
theorem d4 : decode yB 4 = .ok (.aload_n 0, 1) := by decide +kernel
theorem d5 : decode yB 5 = .ok (.iload_n 1, 1) := by decide +kernel
theorem d6 : decode yB 6 = .ok (.aload_n 3, 1) := by decide +kernel
theorem d7 : decode yB 7 = .ok (.iconst 0, 1) := by decide +kernel
theorem d8 : decode yB 8 = .ok (.iload_n 2, 1) := by decide +kernel
theorem d9 : decode yB 9 = .ok (.invokestatic 115, 3) := by decide +kernel
theorem d12 : decode yB 12 = .ok (.istore 4, 2) := by decide +kernel
theorem d14 : decode yB 14 = .ok (.iload 4, 2) := by decide +kernel
theorem d16 : decode yB 16 = .ok (.iload_n 2, 1) := by decide +kernel
theorem d17 : decode yB 17 = .ok (.if_icmp (.eq) 40, 3) := by decide +kernel
theorem d57 : decode yB 57 = .ok (.aload_n 3, 1) := by decide +kernel
theorem d58 : decode yB 58 = .ok (.areturn, 1) := by decide +kernel
def site : List Cond := [.arrayClass .byte, Cmp5.tab] ++ staticW U16 115 Cmp5.yN
def tab : Cond := tabOf yN yB 6 (some (.array .byte)) site
def P (b : Addr) (A : Cell) (o len : Nat) (args : Array Value) (s : State) : Prop := args = #[.ref b, .int (Int32.ofNat o), .int (Int32.ofNat len)] ∧ Ch b A s ∧ o + len ≤ A.slots.size ∧ len ≤ 536870912 ∧ ∀ i, i < len → ¬ 255 < cv A (o + i)
def E (b : Addr) (A : Cell) (o len : Nat) (r : Option Value) (s u : State) : Prop := NewArr .byte "[B" len (fun j => .int (lo8 (cv A (o + j)))) r s u ∧ u.heap.size = s.heap.size + 1
/-- no char of the range above 255: a new byte[] of their low bytes -/
theorem law (l : Launch) (b : Addr) (A : Cell) (o len : Nat) : Law l yN 3 3 1 18 yB 6 (some (.array .byte)) site (P b A o len) (E b A o len) [] 1 len := by
  refine Law.of_walk (plainFor_of_name (by decide +kernel)) (by decide +kernel) (by decide +kernel) (by decide) (fun _ _ h => by rw [h.1]; rfl) (fun _ U U' hal hh h => ⟨h.1, h.2.1.mv hal hh, h.2.2⟩) (fun r U U' V V' h1 hal h2 h => ⟨NewArr.mv r U U' V V' h1 hal h2 h.1, by rw [h1, h2]; exact h.2⟩) ?_
  intro p e s m args below meth c s₁ X0 hexec hbytes hml hret hlk hnm hown hh0 W hP
  obtain ⟨rfl, hA, l1, l2, hp⟩ := hP
  have a31 := hA.1.2.2.2
  have c1 : Steps p.tables e below (s₁.setTop (entryFrame m #[.ref b, .int (Int32.ofNat o), .int (Int32.ofNat len)] 6)) (s₁.setTop (mkF m 0 #[.val (.ref b), .val (.int (Int32.ofNat o)), .val (.int (Int32.ofNat len)), .unset, .unset, .unset] [])) := entry rfl
  have c2 : Steps p.tables e below (s₁.setTop (entryFrame m #[.ref b, .int (Int32.ofNat o), .int (Int32.ofNat len)] 6)) (s₁.setTop (mkF m 1 #[.val (.ref b), .val (.int (Int32.ofNat o)), .val (.int (Int32.ofNat len)), .unset, .unset, .unset] [.int (Int32.ofNat len)])) := c1.trans (by
    refine XS.iloadN X0.here hexec rfl (hb hbytes d0) rfl ?_
    exact Steps.refl _)
  obtain ⟨T3, B3, X3, ba3, bs3, bv3, bh3, bf3, st3⟩ := X0.anew hexec (atype := .byte) (wk W (.arrayClass .byte)) rfl (by show len * 1 ≤ _; omega) (by omega) (g := (mkF m 1 #[.val (.ref b), .val (.int (Int32.ofNat o)), .val (.int (Int32.ofNat len)), .unset, .unset, .unset] [.int (Int32.ofNat len)])) rfl (hb hbytes d1) (rest := []) rfl (Nat.le_refl _) (by show 0 + len ≤ len; omega)
  rw [hh0] at ba3 st3
  have kp3 : XT.Kept s T3 := (XT.Kept.of_eq hh0).push bh3
  have hA3 := hA.keep X3.warmed.alike (kp3 _ _ hA.1.1)
  have hne : b ≠ s.heap.size := hA.1.ne
  have c4 : Steps p.tables e below (s₁.setTop (entryFrame m #[.ref b, .int (Int32.ofNat o), .int (Int32.ofNat len)] 6)) (T3.setTop (mkF m 3 #[.val (.ref b), .val (.int (Int32.ofNat o)), .val (.int (Int32.ofNat len)), .unset, .unset, .unset] [.ref s.heap.size])) := c2.trans (st3 _ (Steps.refl _))
  have c5 : Steps p.tables e below (s₁.setTop (entryFrame m #[.ref b, .int (Int32.ofNat o), .int (Int32.ofNat len)] 6)) (T3.setTop (mkF m 9 #[.val (.ref b), .val (.int (Int32.ofNat o)), .val (.int (Int32.ofNat len)), .val (.ref s.heap.size), .unset, .unset] [.int (Int32.ofNat len), .int 0, .ref s.heap.size, .int (Int32.ofNat o), .ref b])) := c4.trans (by
    refine XS.astoreN X3.here hexec rfl (hb hbytes d3) rfl rfl rfl ?_
    refine XS.aloadN X3.here hexec rfl (hb hbytes d4) rfl rfl ?_
    refine XS.iloadN X3.here hexec rfl (hb hbytes d5) rfl ?_
    refine XS.aloadN X3.here hexec rfl (hb hbytes d6) rfl rfl ?_
    refine iconstV X3.here hexec rfl 0 (hb hbytes d7) (by decide) ?_
    refine XS.iloadN X3.here hexec rfl (hb hbytes d8) rfl ?_
    exact Steps.refl _)
  obtain ⟨v6, T6, X6, E6, g6⟩ := X3.callS hexec (Cmp5.law l b A s.heap.size B3 o 0 len) hown (wks W (staticW U16 115 Cmp5.yN)) (wk W Cmp5.tab) (W := 0) (Nat.le_of_ble_eq_true rfl) (Nat.le_of_ble_eq_true rfl) (Nat.le_refl _) (by show 0 + len + 0 ≤ len; omega) (g := (mkF m 9 #[.val (.ref b), .val (.int (Int32.ofNat o)), .val (.int (Int32.ofNat len)), .val (.ref s.heap.size), .unset, .unset] [.int (Int32.ofNat len), .int (Int32.ofNat 0), .ref s.heap.size, .int (Int32.ofNat o), .ref b])) rfl (by rw [hml]; rfl) c5 (argsL := [.ref b, .int (Int32.ofNat o), .ref s.heap.size, .int (Int32.ofNat 0), .int (Int32.ofNat len)]) (rest := []) rfl rfl (by show 2 * 0 + 0 ≤ _; decide) (hb hbytes d9) (⟨rfl, hA3, ba3, hne, l1, by rw [bs3]; simp, hp⟩)
  obtain ⟨rfl, B6, p6, f6⟩ := E6
  have c7 : Steps p.tables e below (s₁.setTop (entryFrame m #[.ref b, .int (Int32.ofNat o), .int (Int32.ofNat len)] 6)) (T6.setTop (mkF m 12 #[.val (.ref b), .val (.int (Int32.ofNat o)), .val (.int (Int32.ofNat len)), .val (.ref s.heap.size), .unset, .unset] [.int (Int32.ofNat len)])) := g6
  have c8 : Steps p.tables e below (s₁.setTop (entryFrame m #[.ref b, .int (Int32.ofNat o), .int (Int32.ofNat len)] 6)) (T6.setTop (mkF m 58 #[.val (.ref b), .val (.int (Int32.ofNat o)), .val (.int (Int32.ofNat len)), .val (.ref s.heap.size), .val (.int (Int32.ofNat len)), .unset] [.ref s.heap.size])) := c7.trans (by
    refine XS.istore X6.here hexec rfl (hb hbytes d12) rfl rfl ?_
    refine XS.iload X6.here hexec rfl (hb hbytes d14) rfl ?_
    refine XS.iloadN X6.here hexec rfl (hb hbytes d16) rfl ?_
    refine XS.icmpYes X6.here hexec rfl (pc0 := 17) rfl (hb hbytes d17) rfl (ii_eq_t rfl) (by decide) rfl ?_
    refine XS.aloadN X6.here hexec rfl (hb hbytes d57) rfl rfl ?_
    exact Steps.refl _)
  have X8 := X6.wide (L' := []) (cells' := 1) (slots' := len) (fun x hx hlt => by
    simp only [List.nil_append, copyLocs, List.mem_map, List.mem_range] at hx
    obtain ⟨i, -, rfl⟩ := hx
    exact absurd hlt (Nat.lt_irrefl _)) (Nat.le_refl _) (by omega)
  exact ⟨T6, some (.ref s.heap.size), _, _, _, X8, rfl, rfl, rfl, (fun h => by cases h), ⟨⟨rfl, B6, ba3.like (X3.warmed.alike.symm.trans X6.warmed.alike) p6.1 f6.1 f6.2.1 f6.2.2.1, f6.2.1.trans bv3, by rw [X6.warmed.alike.findClass, f6.1]; exact bf3, by rw [f6.2.2.1, bs3]; simp, fun j hj => by rw [f6.2.2.2 j, if_pos (by omega)]; rfl, kp3.put p6 (Nat.le_refl _)⟩, by rw [p6.2.2, bh3, hh0]; simp⟩, fun fs hl => c8.trans (X8.areturnOut hexec rfl hret rfl (hb hbytes d58) hl)⟩
end Cmp3
namespace CodL
def yN : MethodName := ⟨"java/lang/StringUTF16", "coderFromArrayLen", "([BI)B"⟩
abbrev yB : ByteArray := jdk_52_method_15_code
theorem d0 : decode yB 0 = .ok (.iload_n 1, 1) := by decide +kernel
theorem d1 : decode yB 1 = .ok (.aload_n 0, 1) := by decide +kernel
theorem d2 : decode yB 2 = .ok (.arraylength, 1) := by decide +kernel
theorem d3 : decode yB 3 = .ok (.isub, 1) := by decide +kernel
theorem d4 : decode yB 4 = .ok (.bipush 31, 2) := by decide +kernel
theorem d6 : decode yB 6 = .ok (.iushr, 1) := by decide +kernel
theorem d7 : decode yB 7 = .ok (.i2b, 1) := by decide +kernel
theorem d8 : decode yB 8 = .ok (.ireturn, 1) := by decide +kernel
def site : List Cond := []
def tab : Cond := tabOf yN yB 2 (some .byte) site
def P (d : Addr) (B : Cell) (args : Array Value) (s : State) : Prop := args = #[.ref d, .int (Int32.ofNat B.slots.size)] ∧ Arr .byte d B s
def E (r : Option Value) (s u : State) : Prop := XT.PureE (some (.int 0)) r s u
/-- an array as long as the number of chars: LATIN1 -/
theorem law (l : Launch) (d : Addr) (B : Cell) : Law l yN 2 2 0 0 yB 2 (some .byte) site (P d B) E [] 0 0 := by
  refine Law.of_walk (plainFor_of_name (by decide +kernel)) (by decide +kernel) (by decide +kernel) (by decide) (fun _ _ h => by rw [h.1]; rfl) (fun _ U U' hal hh h => ⟨h.1, h.2.mv hal hh⟩) (fun r U U' V V' h1 hal h2 h => XT.PureE.mv r U U' V V' h1 hal h2 h) ?_
  intro p e s m args below meth c s₁ X0 hexec hbytes hml hret hlk hnm hown hh0 W hP
  obtain ⟨rfl, hB⟩ := hP
  have hB0 := hB.mv X0.warmed.alike hh0
  have c1 : Steps p.tables e below (s₁.setTop (entryFrame m #[.ref d, .int (Int32.ofNat B.slots.size)] 2)) (s₁.setTop (mkF m 0 #[.val (.ref d), .val (.int (Int32.ofNat B.slots.size))] [])) := entry rfl
  have c2 : Steps p.tables e below (s₁.setTop (entryFrame m #[.ref d, .int (Int32.ofNat B.slots.size)] 2)) (s₁.setTop (mkF m 2 #[.val (.ref d), .val (.int (Int32.ofNat B.slots.size))] [.ref d, .int (Int32.ofNat B.slots.size)])) := c1.trans (by
    refine XS.iloadN X0.here hexec rfl (hb hbytes d0) rfl ?_
    refine XS.aloadN X0.here hexec rfl (hb hbytes d1) rfl rfl ?_
    exact Steps.refl _)
  have c3 : Steps p.tables e below (s₁.setTop (entryFrame m #[.ref d, .int (Int32.ofNat B.slots.size)] 2)) (s₁.setTop (mkF m 8 #[.val (.ref d), .val (.int (Int32.ofNat B.slots.size))] [.int (lo8 (ushr (Int32.ofNat B.slots.size - Int32.ofNat B.slots.size) 31))])) := c2.trans (by
    refine X0.alen hexec hB0 rfl rfl (hb hbytes d2) ?_
    refine XS.isub X0.here hexec rfl (hb hbytes d3) rfl ?_
    refine bipushV X0.here hexec rfl 31 (hb hbytes d4) (by decide) ?_
    refine iushr X0.here hexec rfl (hb hbytes d6) rfl ?_
    refine i2b X0.here hexec rfl (hb hbytes d7) rfl ?_
    exact Steps.refl _)
  have e0 : lo8 (ushr (Int32.ofNat B.slots.size - Int32.ofNat B.slots.size) 31) = 0 := by rw [Int32.sub_self]; decide
  rw [e0] at c3
  exact ⟨s₁, some (.int 0), _, _, _, X0, rfl, rfl, rfl, (fun h => by cases h), ⟨rfl, hh0⟩, fun fs hl => c3.trans (X0.ireturnOut hexec hret rfl (Or.inr (Or.inr (Or.inl rfl))) (hb hbytes d8) hl)⟩
end CodL
/-- the String at a is Latin-1 over a new byte[] (the heap's one new cell): the low bytes of the len chars of A from o on; every cell but a is kept -/
def Got (a : Addr) (D : Cell) (fV fC : Field) (A : Cell) (o len : Nat) (r : Option Value) (s u : State) : Prop := r = none ∧ ∃ D' V : Cell, Blank "java/lang/String" a D' u ∧ Same D D' [fV.slot, fC.slot] ∧ D'.slots[fV.slot]? = some (.ref s.heap.size) ∧ D'.slots[fC.slot]? = some (.int 0) ∧ Arr .byte s.heap.size V u ∧ V.vm = .none ∧ u.vm.findClass "[B" = some V.cls ∧ V.slots.size = len ∧ (∀ j, j < len → V.slots[j]? = some (.int (lo8 (cv A (o + j))))) ∧ (∀ (y : Addr) (c : Cell), y ≠ a → s.heap[y]? = some c → u.heap[y]? = some c) ∧ u.heap.size = s.heap.size + 1
theorem Got.mv {a : Addr} {D A : Cell} {fV fC : Field} {o len : Nat} : ∀ r (U U' V V' : State), U'.heap = U.heap → V.vm.Alike V'.vm → V'.heap = V.heap → Got a D fV fC A o len r U V → Got a D fV fC A o len r U' V' :=
  fun r U U' V V' h1 hal h2 ⟨e0, D', X, a1, a2, a3, a4, a5, a6, a7, a8, a9, a10, a11⟩ => ⟨e0, D', X, a1.mv hal h2, a2, by rw [h1]; exact a3, a4, by rw [h1]; exact a5.mv hal h2, a6, by rw [hal.findClass]; exact a7, a8, a9, by rw [h1, h2]; exact a10, by rw [h1, h2]; exact a11⟩
namespace New4
def yN : MethodName := ⟨"java/lang/String", "<init>", "([CIILjava/lang/Void;)V"⟩
abbrev yB : ByteArray := jdk_42_method_149_code
theorem d0 : decode yB 0 = .ok (.aload_n 0, 1) := by decide +kernel
theorem d1 : decode yB 1 = .ok (.invokespecial 1, 3) := by decide +kernel
theorem d4 : decode yB 4 = .ok (.iload_n 3, 1) := by decide +kernel
theorem d5 : decode yB 5 = .ok (.ifCond (.ne) 22, 3) := by decide +kernel
theorem d27 : decode yB 27 = .ok (.getstatic 38, 3) := by decide +kernel
theorem d30 : decode yB 30 = .ok (.ifCond (.eq) 28, 3) := by decide +kernel
theorem d33 : decode yB 33 = .ok (.aload_n 1, 1) := by decide +kernel
theorem d34 : decode yB 34 = .ok (.iload_n 2, 1) := by decide +kernel
theorem d35 : decode yB 35 = .ok (.iload_n 3, 1) := by decide +kernel
theorem d36 : decode yB 36 = .ok (.invokestatic 177, 3) := by decide +kernel
theorem d39 : decode yB 39 = .ok (.astore 5, 2) := by decide +kernel
theorem d41 : decode yB 41 = .ok (.aload_n 0, 1) := by decide +kernel
theorem d42 : decode yB 42 = .ok (.aload 5, 2) := by decide +kernel
theorem d44 : decode yB 44 = .ok (.iload_n 3, 1) := by decide +kernel
theorem d45 : decode yB 45 = .ok (.invokestatic 47, 3) := by decide +kernel
theorem d48 : decode yB 48 = .ok (.putfield 15, 3) := by decide +kernel
theorem d51 : decode yB 51 = .ok (.aload_n 0, 1) := by decide +kernel
theorem d52 : decode yB 52 = .ok (.aload 5, 2) := by decide +kernel
theorem d54 : decode yB 54 = .ok (.putfield 9, 3) := by decide +kernel
theorem d57 : decode yB 57 = .ok (.return_, 1) := by decide +kernel
def site : List Cond := [.fieldLink "java/lang/String" 38 "java/lang/String" "COMPACT_STRINGS" "Z", Cmp3.tab, CodL.tab, .laysFinal "java/lang/String" "java/lang/String" "value" "[B", .fieldLink "java/lang/String" 9 "java/lang/String" "value" "[B", .laysFinal "java/lang/String" "java/lang/String" "coder" "B", .fieldLink "java/lang/String" 15 "java/lang/String" "coder" "B"] ++ objW "java/lang/String" 1 ++ staticW "java/lang/String" 177 Cmp3.yN ++ staticW "java/lang/String" 47 CodL.yN
def tab : Cond := tabOf yN yB 6 none site
def P (a : Addr) (D : Cell) (fV fC : Field) (b : Addr) (A : Cell) (z : Int32) (o len : Nat) (args : Array Value) (s : State) : Prop := args = #[.ref a, .ref b, .int (Int32.ofNat o), .int (Int32.ofNat len), .null] ∧ Blank "java/lang/String" a D s ∧ Found "java/lang/String" "value" "[B" fV s ∧ Found "java/lang/String" "coder" "B" fC s ∧ Ch b A s ∧ StaticIs s "java/lang/String" "COMPACT_STRINGS" "Z" (.int z) ∧ ¬ z = 0 ∧ 0 < len ∧ o + len ≤ A.slots.size ∧ len ≤ 536870912 ∧ ∀ i, i < len → ¬ 255 < cv A (o + i)
def E (a : Addr) (D : Cell) (fV fC : Field) (A : Cell) (o len : Nat) (r : Option Value) (s u : State) : Prop := Got a D fV fC A o len r s u
/-- len > 0, no char of the range above 255: a Latin-1 String of their low bytes -/
theorem law (l : Launch) (a : Addr) (D : Cell) (fV fC : Field) (b : Addr) (A : Cell) (z : Int32) (o len : Nat) : Law l yN 5 4 2 35 yB 6 none site (P a D fV fC b A z o len) (E a D fV fC A o len) [⟨a, fC.slot⟩, ⟨a, fV.slot⟩] 1 len := by
  refine Law.of_walk (plainFor_of_name (by decide +kernel)) (by decide +kernel) (by decide +kernel) (by decide) (fun _ _ h => by rw [h.1]; rfl) (fun _ U U' hal hh h => ⟨h.1, h.2.1.mv hal hh, h.2.2.1.al hal, h.2.2.2.1.al hal, h.2.2.2.2.1.mv hal hh, h.2.2.2.2.2.1.there hal hh, h.2.2.2.2.2.2⟩) (fun r U U' V V' h1 hal h2 h => Got.mv r U U' V V' h1 hal h2 h) ?_
  intro p e s m args below meth c s₁ X0 hexec hbytes hml hret hlk hnm hown hh0 W hP
  obtain ⟨rfl, hB, f1, f2, hA, s1, hz, l0, l1, l2, hp⟩ := hP
  have a31 := hA.1.2.2.2
  have c1 : Steps p.tables e below (s₁.setTop (entryFrame m #[.ref a, .ref b, .int (Int32.ofNat o), .int (Int32.ofNat len), .null] 6)) (s₁.setTop (mkF m 0 #[.val (.ref a), .val (.ref b), .val (.int (Int32.ofNat o)), .val (.int (Int32.ofNat len)), .val .null, .unset] [])) := entry rfl
  have c2 : Steps p.tables e below (s₁.setTop (entryFrame m #[.ref a, .ref b, .int (Int32.ofNat o), .int (Int32.ofNat len), .null] 6)) (s₁.setTop (mkF m 1 #[.val (.ref a), .val (.ref b), .val (.int (Int32.ofNat o)), .val (.int (Int32.ofNat len)), .val .null, .unset] [.ref a])) := c1.trans (by
    refine XS.aloadN X0.here hexec rfl (hb hbytes d0) rfl rfl ?_
    exact Steps.refl _)
  obtain ⟨T3, X3, q3, st3⟩ := X0.oinit hexec hown (wks W (objW "java/lang/String" 1)) (g := (mkF m 1 #[.val (.ref a), .val (.ref b), .val (.int (Int32.ofNat o)), .val (.int (Int32.ofNat len)), .val .null, .unset] [.ref a])) rfl (by rw [hml]; rfl) (rest := []) rfl (hb hbytes d1) (W := 0) (by show 2 * 0 + 0 ≤ _; decide) (Nat.le_of_ble_eq_true rfl) (Nat.le_of_ble_eq_true rfl)
  have hh3 := q3.trans hh0
  have c4 : Steps p.tables e below (s₁.setTop (entryFrame m #[.ref a, .ref b, .int (Int32.ofNat o), .int (Int32.ofNat len), .null] 6)) (T3.setTop (mkF m 27 #[.val (.ref a), .val (.ref b), .val (.int (Int32.ofNat o)), .val (.int (Int32.ofNat len)), .val .null, .unset] [])) := (c2.trans (st3 _ (Steps.refl _))).trans (by
    refine XS.iloadN X3.here hexec rfl (hb hbytes d4) rfl ?_
    refine XS.ifYes X3.here hexec rfl (pc0 := 5) rfl (hb hbytes d5) rfl (i0_ne_t (nz32 (by omega) l0)) (by decide) rfl ?_
    exact Steps.refl _)
  obtain ⟨T5, X5, q5, st5⟩ := X3.sget hexec hown (wk W (.fieldLink "java/lang/String" 38 "java/lang/String" "COMPACT_STRINGS" "Z")) s1 (fun _ _ h => by rw [hh3]; exact h) (g := (mkF m 27 #[.val (.ref a), .val (.ref b), .val (.int (Int32.ofNat o)), .val (.int (Int32.ofNat len)), .val .null, .unset] [])) rfl (hb hbytes d27)
  have hh5 := q5.trans hh3
  have c6 : Steps p.tables e below (s₁.setTop (entryFrame m #[.ref a, .ref b, .int (Int32.ofNat o), .int (Int32.ofNat len), .null] 6)) (T5.setTop (mkF m 30 #[.val (.ref a), .val (.ref b), .val (.int (Int32.ofNat o)), .val (.int (Int32.ofNat len)), .val .null, .unset] [.int z])) := c4.trans (st5 _ (Steps.refl _))
  have c7 : Steps p.tables e below (s₁.setTop (entryFrame m #[.ref a, .ref b, .int (Int32.ofNat o), .int (Int32.ofNat len), .null] 6)) (T5.setTop (mkF m 36 #[.val (.ref a), .val (.ref b), .val (.int (Int32.ofNat o)), .val (.int (Int32.ofNat len)), .val .null, .unset] [.int (Int32.ofNat len), .int (Int32.ofNat o), .ref b])) := c6.trans (by
    refine XS.ifNo X5.here hexec rfl (hb hbytes d30) rfl (i0_eq_f hz) ?_
    refine XS.aloadN X5.here hexec rfl (hb hbytes d33) rfl rfl ?_
    refine XS.iloadN X5.here hexec rfl (hb hbytes d34) rfl ?_
    refine XS.iloadN X5.here hexec rfl (hb hbytes d35) rfl ?_
    exact Steps.refl _)
  obtain ⟨v8, T8, X8, E8, g8⟩ := X5.callS hexec (Cmp3.law l b A o len) hown (wks W (staticW "java/lang/String" 177 Cmp3.yN)) (wk W Cmp3.tab) (W := 0) (Nat.le_of_ble_eq_true rfl) (Nat.le_of_ble_eq_true rfl) (Nat.le_refl _) (by show 0 + len ≤ len; omega) (g := (mkF m 36 #[.val (.ref a), .val (.ref b), .val (.int (Int32.ofNat o)), .val (.int (Int32.ofNat len)), .val .null, .unset] [.int (Int32.ofNat len), .int (Int32.ofNat o), .ref b])) rfl (by rw [hml]; rfl) c7 (argsL := [.ref b, .int (Int32.ofNat o), .int (Int32.ofNat len)]) (rest := []) rfl rfl (by show 2 * 0 + 0 ≤ _; decide) (hb hbytes d36) (⟨rfl, hA.mv X5.warmed.alike hh5, l1, l2, hp⟩)
  obtain ⟨e8, z8⟩ := E8
  obtain ⟨rfl, N, n1, n2, n3, n4, n5, n6⟩ := NewArr.mv _ T5 s _ _ hh5.symm (Vm.Alike.refl _) rfl e8
  rw [hh5] at z8
  have hB1 := hB.keep X8.warmed.alike (n6 _ _ hB.1)
  have hne : s.heap.size ≠ a := (Nat.ne_of_lt (Array.getElem?_eq_some_iff.mp hB.1).1).symm
  have c9 : Steps p.tables e below (s₁.setTop (entryFrame m #[.ref a, .ref b, .int (Int32.ofNat o), .int (Int32.ofNat len), .null] 6)) (T8.setTop (mkF m 39 #[.val (.ref a), .val (.ref b), .val (.int (Int32.ofNat o)), .val (.int (Int32.ofNat len)), .val .null, .unset] [.ref s.heap.size])) := g8
  have c10 : Steps p.tables e below (s₁.setTop (entryFrame m #[.ref a, .ref b, .int (Int32.ofNat o), .int (Int32.ofNat len), .null] 6)) (T8.setTop (mkF m 45 #[.val (.ref a), .val (.ref b), .val (.int (Int32.ofNat o)), .val (.int (Int32.ofNat len)), .val .null, .val (.ref s.heap.size)] [.int (Int32.ofNat N.slots.size), .ref s.heap.size, .ref a])) := by
    have hc : Steps p.tables e below (s₁.setTop (entryFrame m #[.ref a, .ref b, .int (Int32.ofNat o), .int (Int32.ofNat len), .null] 6)) (T8.setTop (mkF m 45 #[.val (.ref a), .val (.ref b), .val (.int (Int32.ofNat o)), .val (.int (Int32.ofNat len)), .val .null, .val (.ref s.heap.size)] [.int (Int32.ofNat len), .ref s.heap.size, .ref a])) := c9.trans (by
      refine XS.astore X8.here hexec rfl (hb hbytes d39) rfl rfl rfl ?_
      refine XS.aloadN X8.here hexec rfl (hb hbytes d41) rfl rfl ?_
      refine XS.aload X8.here hexec rfl (hb hbytes d42) rfl rfl ?_
      refine XS.iloadN X8.here hexec rfl (hb hbytes d44) rfl ?_
      exact Steps.refl _)
    rw [n4]; exact hc
  obtain ⟨v11, T11, X11, E11, g11⟩ := X8.callS hexec (CodL.law l s.heap.size N) hown (wks W (staticW "java/lang/String" 47 CodL.yN)) (wk W CodL.tab) (W := 1) (Nat.le_of_ble_eq_true rfl) (Nat.le_of_ble_eq_true rfl) (Nat.le_refl _) (by show 0 + len + 0 ≤ len; omega) (g := (mkF m 45 #[.val (.ref a), .val (.ref b), .val (.int (Int32.ofNat o)), .val (.int (Int32.ofNat len)), .val .null, .val (.ref s.heap.size)] [.int (Int32.ofNat N.slots.size), .ref s.heap.size, .ref a])) rfl (by rw [hml]; rfl) c10 (argsL := [.ref s.heap.size, .int (Int32.ofNat N.slots.size)]) (rest := [.ref a]) rfl rfl (by show 2 * 0 + (1 + 0) ≤ _; decide) (hb hbytes d45) (⟨rfl, n1⟩)
  obtain ⟨rfl, q11⟩ := E11
  have hB11 := hB1.mv (X8.warmed.alike.symm.trans X11.warmed.alike) q11
  have c12 : Steps p.tables e below (s₁.setTop (entryFrame m #[.ref a, .ref b, .int (Int32.ofNat o), .int (Int32.ofNat len), .null] 6)) (T11.setTop (mkF m 48 #[.val (.ref a), .val (.ref b), .val (.int (Int32.ofNat o)), .val (.int (Int32.ofNat len)), .val .null, .val (.ref s.heap.size)] [.int 0, .ref a])) := g11
  obtain ⟨T13, X13, p13, bl13, sl13, st13⟩ := X11.finit hexec hown (wk W (.fieldLink "java/lang/String" 15 "java/lang/String" "coder" "B")) (Or.inr ⟨_, (wk W (.laysFinal "java/lang/String" "java/lang/String" "coder" "B"))⟩) (Or.inl ⟨rfl, hnm⟩) f2 (Or.inl rfl) hB11 (t := .byte) (by decide +kernel) rfl (g := (mkF m 48 #[.val (.ref a), .val (.ref b), .val (.int (Int32.ofNat o)), .val (.int (Int32.ofNat len)), .val .null, .val (.ref s.heap.size)] [.int 0, .ref a])) rfl (rest := []) rfl (hb hbytes d48)
  have c14 : Steps p.tables e below (s₁.setTop (entryFrame m #[.ref a, .ref b, .int (Int32.ofNat o), .int (Int32.ofNat len), .null] 6)) (T13.setTop (mkF m 54 #[.val (.ref a), .val (.ref b), .val (.int (Int32.ofNat o)), .val (.int (Int32.ofNat len)), .val .null, .val (.ref s.heap.size)] [.ref s.heap.size, .ref a])) := (c12.trans (st13 _ (Steps.refl _))).trans (by
    refine XS.aloadN X13.here hexec rfl (hb hbytes d51) rfl rfl ?_
    refine XS.aload X13.here hexec rfl (hb hbytes d52) rfl rfl ?_
    exact Steps.refl _)
  obtain ⟨T15, X15, p15, bl15, sl15, st15⟩ := X13.finit hexec hown (wk W (.fieldLink "java/lang/String" 9 "java/lang/String" "value" "[B")) (Or.inr ⟨_, (wk W (.laysFinal "java/lang/String" "java/lang/String" "value" "[B"))⟩) (Or.inl ⟨rfl, hnm⟩) f1 (Or.inl rfl) bl13 (t := (.array .byte)) (by decide +kernel) rfl (g := (mkF m 54 #[.val (.ref a), .val (.ref b), .val (.int (Int32.ofNat o)), .val (.int (Int32.ofNat len)), .val .null, .val (.ref s.heap.size)] [.ref s.heap.size, .ref a])) rfl (rest := []) rfl (hb hbytes d54)
  have c16 : Steps p.tables e below (s₁.setTop (entryFrame m #[.ref a, .ref b, .int (Int32.ofNat o), .int (Int32.ofNat len), .null] 6)) (T15.setTop (mkF m 57 #[.val (.ref a), .val (.ref b), .val (.int (Int32.ofNat o)), .val (.int (Int32.ofNat len)), .val .null, .val (.ref s.heap.size)] [])) := c14.trans (st15 _ (Steps.refl _))
  have ap := apart (Or.inr ⟨_, (wk W (.laysFinal "java/lang/String" "java/lang/String" "value" "[B"))⟩) (Or.inr ⟨_, (wk W (.laysFinal "java/lang/String" "java/lang/String" "coder" "B"))⟩) f1 f2 (t₁ := .array .byte) (t₂ := .byte) (by decide +kernel) (by decide +kernel) (by decide)
  have al := X8.warmed.alike.symm.trans X15.warmed.alike
  have n7 : T11.heap[s.heap.size]? = some N := by rw [q11]; exact n1.1
  exact ⟨T15, none, _, _, _, X15, by simp, rfl, by omega, (fun _ => rfl), ⟨rfl, _, N, bl15, ((Same.refl D _).set _ (by simp)).set _ (by simp), sl15, (Cell.slots_setSlot_ne _ ap).trans sl13, n1.keep al (p15.other hne (p13.other hne n7)), n2, by rw [al.findClass]; exact n3, n4, n5, fun y c h1 h2 => p15.other h1 (p13.other h1 (by rw [q11]; exact n6 y c h2)), by rw [p15.2.2, p13.2.2, q11]; exact z8⟩, fun fs hl => c16.trans (X15.returnOut hexec hret (hb hbytes d57) hl)⟩
end New4
namespace New1
def yN : MethodName := ⟨"java/lang/String", "<init>", "([C)V"⟩
abbrev yB : ByteArray := jdk_42_method_3_code
theorem d0 : decode yB 0 = .ok (.aload_n 0, 1) := by decide +kernel
theorem d1 : decode yB 1 = .ok (.aload_n 1, 1) := by decide +kernel
theorem d2 : decode yB 2 = .ok (.iconst 0, 1) := by decide +kernel
theorem d3 : decode yB 3 = .ok (.aload_n 1, 1) := by decide +kernel
theorem d4 : decode yB 4 = .ok (.arraylength, 1) := by decide +kernel
theorem d5 : decode yB 5 = .ok (.aconst_null, 1) := by decide +kernel
theorem d6 : decode yB 6 = .ok (.invokespecial 27, 3) := by decide +kernel
theorem d9 : decode yB 9 = .ok (.return_, 1) := by decide +kernel
def site : List Cond := [New4.tab] ++ initW "java/lang/String" 27 New4.yN
def tab : Cond := tabOf yN yB 2 none site
def P (a : Addr) (D : Cell) (fV fC : Field) (b : Addr) (A : Cell) (z : Int32) (args : Array Value) (s : State) : Prop := args = #[.ref a, .ref b] ∧ Blank "java/lang/String" a D s ∧ Found "java/lang/String" "value" "[B" fV s ∧ Found "java/lang/String" "coder" "B" fC s ∧ Ch b A s ∧ StaticIs s "java/lang/String" "COMPACT_STRINGS" "Z" (.int z) ∧ ¬ z = 0 ∧ 0 < A.slots.size ∧ A.slots.size ≤ 536870912 ∧ ∀ i, i < A.slots.size → ¬ 255 < cv A i
def E (a : Addr) (D : Cell) (fV fC : Field) (A : Cell) (r : Option Value) (s u : State) : Prop := Got a D fV fC A 0 A.slots.size r s u
/-- new String(chars), not empty, no char above 255: a Latin-1 String of their low bytes -/
theorem law (l : Launch) (a : Addr) (D : Cell) (fV fC : Field) (b : Addr) (A : Cell) (z : Int32) : Law l yN 2 1 3 52 yB 2 none site (P a D fV fC b A z) (E a D fV fC A) [⟨a, fC.slot⟩, ⟨a, fV.slot⟩] 1 A.slots.size := by
  refine Law.of_walk (plainFor_of_name (by decide +kernel)) (by decide +kernel) (by decide +kernel) (by decide) (fun _ _ h => by rw [h.1]; rfl) (fun _ U U' hal hh h => ⟨h.1, h.2.1.mv hal hh, h.2.2.1.al hal, h.2.2.2.1.al hal, h.2.2.2.2.1.mv hal hh, h.2.2.2.2.2.1.there hal hh, h.2.2.2.2.2.2⟩) (fun r U U' V V' h1 hal h2 h => Got.mv r U U' V V' h1 hal h2 h) ?_
  intro p e s m args below meth c s₁ X0 hexec hbytes hml hret hlk hnm hown hh0 W hP
  obtain ⟨rfl, hB, f1, f2, hA, s1, hz, l0, l2, hp⟩ := hP
  have c1 : Steps p.tables e below (s₁.setTop (entryFrame m #[.ref a, .ref b] 2)) (s₁.setTop (mkF m 0 #[.val (.ref a), .val (.ref b)] [])) := entry rfl
  have c2 : Steps p.tables e below (s₁.setTop (entryFrame m #[.ref a, .ref b] 2)) (s₁.setTop (mkF m 6 #[.val (.ref a), .val (.ref b)] [.null, .int (Int32.ofNat A.slots.size), .int 0, .ref b, .ref a])) := c1.trans (by
    refine XS.aloadN X0.here hexec rfl (hb hbytes d0) rfl rfl ?_
    refine XS.aloadN X0.here hexec rfl (hb hbytes d1) rfl rfl ?_
    refine iconstV X0.here hexec rfl 0 (hb hbytes d2) (by decide) ?_
    refine XS.aloadN X0.here hexec rfl (hb hbytes d3) rfl rfl ?_
    refine X0.alen hexec (hA.1.mv X0.warmed.alike hh0) rfl rfl (hb hbytes d4) ?_
    refine XS.aconstNull X0.here hexec rfl (hb hbytes d5) ?_
    exact Steps.refl _)
  obtain ⟨v3, T3, X3, E3, g3⟩ := X0.callN hexec (New4.law l a D fV fC b A z 0 A.slots.size) rfl hown (wks W (initW "java/lang/String" 27 New4.yN)) (W New4.tab (by simp only [site, List.mem_cons, List.mem_append, true_or, or_true])) (W := 0) (Nat.le_of_ble_eq_true rfl) (Nat.le_of_ble_eq_true rfl) (Nat.le_refl _) (by show 0 + A.slots.size ≤ A.slots.size; omega) (g := (mkF m 6 #[.val (.ref a), .val (.ref b)] [.null, .int (Int32.ofNat A.slots.size), .int (Int32.ofNat 0), .ref b, .ref a])) rfl (by rw [hml]; rfl) c2 (argsL := [.ref b, .int (Int32.ofNat 0), .int (Int32.ofNat A.slots.size), .null]) (rest := []) rfl rfl (by show 2 * 0 + 0 ≤ _; decide) (hb hbytes d6) (⟨rfl, hB.mv X0.warmed.alike hh0, f1.al X0.warmed.alike, f2.al X0.warmed.alike, hA.mv X0.warmed.alike hh0, s1.there X0.warmed.alike hh0, hz, l0, by omega, l2, fun i hi => by rw [Nat.zero_add]; exact hp i hi⟩)
  have e0 := Got.mv _ s₁ s _ _ hh0.symm (Vm.Alike.refl _) rfl E3
  obtain rfl := e0.1
  have c4 : Steps p.tables e below (s₁.setTop (entryFrame m #[.ref a, .ref b] 2)) (T3.setTop (mkF m 9 #[.val (.ref a), .val (.ref b)] [])) := g3
  exact ⟨T3, none, _, _, _, X3, by simp, rfl, by omega, (fun _ => rfl), e0, fun fs hl => c4.trans (X3.returnOut hexec hret (hb hbytes d9) hl)⟩
theorem pays {l : Launch} {R : Room} {p : Program} {e : Env} {below : List Frame} {s : State} {sargs : Array Value} {len W : Nat} (a : Addr) (D : Cell) (fV fC : Field) (b : Addr) (A : Cell) (z : Int32) (htab : tab.before sargs s = true) (hfr : 4 ≤ R.frames) (hlo : W + 65 ≤ R.locals) :
    Back l R p e below s sargs yN len W (fun A₁ a₁ => A₁.cells + 1 ≤ R.cells ∧ A₁.slots + A.slots.size ≤ R.slots ∧ P a D fV fC b A z a₁ A₁.U) (fun A₁ _ v₁ B₁ => E a D fV fC A v₁ A₁.U B₁.U ∧ B₁.locs = A₁.locs ++ [⟨a, fC.slot⟩, ⟨a, fV.slot⟩] ∧ B₁.cells = A₁.cells + 1 ∧ B₁.slots = A₁.slots + A.slots.size) :=
  (law l a D fV fC b A z).pays htab hfr (by omega)
end New1
end StrChars
namespace StrChars.Road
open Jvm Sem ClassFile Op Lib Jvm.Stand Jvm.Free Jvm.Free.XT
open Jvm.Lib.Cold (StaticIs)
abbrev ST : String := "java/lang/String"
/-- every table word that New1's law asks, flat -/
abbrev words : List Jvm.Cond := [.code New1.yN New1.yB 2 none, .initialized ST, .methodLink ST 27 New4.yN, .instanceMethod New4.yN,
  .code New4.yN New4.yB 6 none, .fieldLink ST 38 ST "COMPACT_STRINGS" "Z", .laysFinal ST ST "value" "[B", .fieldLink ST 9 ST "value" "[B", .laysFinal ST ST "coder" "B", .fieldLink ST 15 ST "coder" "B",
  .methodLink ST 1 Lib.objectInit, .instanceMethod Lib.objectInit, .code Lib.objectInit ⟨#[0xb1]⟩ 1 none, .methodLink ST 177 Cmp3.yN, .static Cmp3.yN, .methodLink ST 47 CodL.yN, .static CodL.yN,
  .code Cmp3.yN Cmp3.yB 6 (some (.array .byte)), .initialized U16, .arrayClass .byte, .methodLink U16 115 Cmp5.yN, .static Cmp5.yN, .code Cmp5.yN Cmp5.yB 7 (some .int), .code CodL.yN CodL.yB 2 (some .byte)]
theorem tab_of {a : Array Value} {s : State} (h : ∀ w ∈ words, w.before a s = true) : New1.tab.before a s = true := by
  have h5 : Cmp5.tab.before a s = true := unparts (wk h (.code Cmp5.yN Cmp5.yB 7 (some .int))) (wks h (.initialized Cmp5.yN.cls :: Cmp5.site))
  have hc : CodL.tab.before a s = true := unparts (wk h (.code CodL.yN CodL.yB 2 (some .byte))) (wks h (.initialized CodL.yN.cls :: CodL.site))
  have q5 : ∀ w ∈ Cmp5.tab :: words, w.before a s = true := fun w hw => (List.mem_cons.mp hw).elim (fun e => e ▸ h5) (h w)
  have h3 : Cmp3.tab.before a s = true := unparts (wk q5 (.code Cmp3.yN Cmp3.yB 6 (some (.array .byte)))) (wks q5 (.initialized Cmp3.yN.cls :: Cmp3.site))
  have q3 : ∀ w ∈ Cmp3.tab :: CodL.tab :: words, w.before a s = true := fun w hw => (List.mem_cons.mp hw).elim (fun e => e ▸ h3) fun hw => (List.mem_cons.mp hw).elim (fun e => e ▸ hc) (h w)
  have h4 : New4.tab.before a s = true := unparts (wk q3 (.code New4.yN New4.yB 6 none)) (wks q3 (.initialized New4.yN.cls :: New4.site))
  have q4 : ∀ w ∈ New4.tab :: words, w.before a s = true := fun w hw => (List.mem_cons.mp hw).elim (fun e => e ▸ h4) (h w)
  exact unparts (wk q4 (.code New1.yN New1.yB 2 none)) (wks q4 (.initialized New1.yN.cls :: New1.site))
/-- the words ride from the start Z to the walk's own state -/
theorem moved {Z s : State} {a0 args : Array Value} (hZ : Z.Warmed39 s.vm) (hw : ∀ d ∈ words, d.before a0 Z = true) : ∀ d ∈ words, d.before args s = true := fun d hd => by
  have q := hw d hd
  have t : ∀ d ∈ words, d = .arrayClass .byte ∨ (d.onTables && d.keepsFace) = true := by decide +kernel
  rcases t d hd with rfl | t
  · exact RoadKit.mvA hZ q
  · exact RoadKit.mv hZ q t
/-- WHAT COMES BACK, over the tables of the start Z: h the heap at the call, h' behind it -/
def Q (Z : State) (x : Addr) (A : Cell) (h : Heap) (v : Option Value) (h' : Heap) (L : List Loc) : Prop := v = none ∧ (∀ y ∈ L, y.base = x) ∧ RoadKit.Keep h h' [x] ∧ h'.size = h.size + 1 ∧ RoadKit.Exa Z h' x ST ∧ RoadKit.Fld Z h' x ST "value" "[B" (.ref h.size) ∧ RoadKit.Fld Z h' x ST "coder" "B" (.int 0) ∧
  (∃ V : Cell, RoadKit.Arr Z h' h.size V .byte ∧ V.vm = .none ∧ Z.vm.findClass "[B" = some V.cls ∧ V.slots.size = A.slots.size ∧ ∀ j, j < A.slots.size → V.slots[j]? = some (.int (lo8 (cv A j)))) ∧
  ∀ (O n d : String) (w : Value), RoadKit.Fld Z h x O n d w → RoadKit.slotOf Z O n d ≠ RoadKit.slotOf Z ST "value" "[B" → RoadKit.slotOf Z O n d ≠ RoadKit.slotOf Z ST "coder" "B" → RoadKit.Fld Z h' x O n d w
/-- **new String(chars) AT A CALL, IN THE ROAD'S FORM**: for specialBack behind newO: x the fresh String, b the char[] with the cell A -/
theorem back {p : Program} {l : Launch} {e : Env} {R : Room} {s : State} {args : Array Value} {below : List Frame} {len W : Nat} {Z : State} {a0 : Array Value} {h : Heap} (hZ : Z.Warmed39 s.vm) (hw : ∀ d ∈ words, d.before a0 Z = true) {kI : Nat} (wi : (Jvm.Cond.instantiable ST kI).before a0 Z = true)
    {x b : Addr} {A : Cell} {z : Int32} {v0 c0 : Value} (E : RoadKit.Exa Z h x ST) (V : RoadKit.Fld Z h x ST "value" "[B" v0) (C : RoadKit.Fld Z h x ST "coder" "B" c0) (K : RoadKit.Arr Z h b A .char) (hty : Typed .char A) (S : RoadKit.Sta Z h ST "COMPACT_STRINGS" "Z" (.int z)) (hz : ¬ z = 0)
    (l0 : 0 < A.slots.size) (l2 : A.slots.size ≤ 536870912) (hp : ∀ i, i < A.slots.size → ¬ 255 < cv A i) (hfr : 4 ≤ R.frames) (hlo : W + 65 ≤ R.locals) :
    Back l R p e below s args New1.yN len W (fun P a => a = #[.ref x, .ref b] ∧ P.U.heap = h ∧ P.cells + 1 ≤ R.cells ∧ P.slots + A.slots.size ≤ R.slots)
      (fun P _ v B => ∃ L, Q Z x A h v B.U.heap L ∧ B.locs = P.locs ++ L ∧ B.cells = P.cells + 1 ∧ B.slots = P.slots + A.slots.size) := by
  intro m meth c P g ig mk a X hg hsize hdg hW hn hp'
  obtain ⟨rfl, rfl, r1, r2⟩ := hp'
  have al : Z.vm.Alike P.U.vm := hZ.alike.trans X.warmed.alike
  obtain ⟨D, cfV, kV, iV, fV, hD, gV, stV, knV, obV, asV, slV⟩ := id V
  obtain ⟨D', cfC, kC, iC, fC, hD', gC, stC, -, -, asC, slC⟩ := id C
  cases hD.symm.trans hD'
  obtain ⟨D2, kD, e1, e2, e3, e4, e5⟩ := id E
  cases hD.symm.trans e1
  obtain ⟨c2, k2, i1, i2, i3, -⟩ := Cond.instantiable_spec wi
  cases e2.symm.trans i1
  cases e3.symm.trans i2
  obtain ⟨kU, u1, u2⟩ := al.2.2 _ _ e3
  have hB : Blank ST x D P.U := ⟨hD, ⟨knV, fun q hq => by rw [hq] at obV; cases obV⟩, by rw [al.findClass]; exact e2, kU, u1, by rw [u2]; exact i3, by rw [u2]; exact e5 i3⟩
  have F1 : Found ST "value" "[B" fV P.U := ⟨SBG.found_only al ⟨cfV, kV, iV, gV⟩, stV⟩
  have F2 : Found ST "coder" "B" fC P.U := ⟨SBG.found_only al ⟨cfC, kC, iC, gC⟩, stC⟩
  have hA : Ch b A P.U := ⟨⟨K.1, State.isArrayOf_alike al K.2.1, K.2.2, by omega⟩, hty⟩
  have hS : StaticIs P.U ST "COMPACT_STRINGS" "Z" (.int z) := by
    obtain ⟨cfS, iS, kS, fS, st, cS, t1, t2, t3, t4, t5, t6, t7⟩ := S
    exact StaticIs.there (s := { Z with heap := P.U.heap }) ⟨cfS, iS, kS, fS, st, cS, t1, t2, t3, t4, t5, (fun q => by rw [q] at t6; cases t6), t7⟩ al rfl
  obtain ⟨v, B, X', ⟨⟨hv, E', V', q1, q2, q3, q4, q5, q6, q7, q8, q9, q10, q11⟩, hl, hc, hs⟩, st⟩ := New1.pays x D fV fC b A z (tab_of (moved hZ hw)) hfr hlo m meth c P g ig mk _ X hg hsize hdg hW hn ⟨r1, r2, rfl, hB, F1, F2, hA, hS, hz, l0, l2, hp⟩
  have al' : Z.vm.Alike B.U.vm := hZ.alike.trans X'.warmed.alike
  have hsz : E'.slots.size = D.slots.size := by
    obtain ⟨-, -, -, kB, w1, w2, w3⟩ := q1
    obtain ⟨kB', y1, y2⟩ := al'.2.2 _ _ e3
    rw [q2.2.1] at w1
    cases w1.symm.trans y1
    rw [w3, e5 i3, y2]
  refine ⟨v, B, X', ⟨_, ⟨hv, ?_, ⟨by omega, fun y cy hy hn' => q10 y cy (by simpa using hn') hy, fun y cy hy => ?_⟩, q11, ⟨E', _, q1.1, by rw [q2.2.1]; exact e2, by rw [q2.2.1]; exact e3, by rw [q2.1]; exact obV, fun _ => by rw [hsz]; exact e5 i3⟩,
    ⟨E', cfV, kV, iV, fV, q1.1, gV, stV, by rw [q2.1]; exact knV, by rw [q2.1]; exact obV, by rw [q2.2.1]; exact asV, q3⟩, ⟨E', cfC, kC, iC, fC, q1.1, gC, stC, by rw [q2.1]; exact knV, by rw [q2.1]; exact obV, by rw [q2.2.1]; exact asC, q4⟩,
    ⟨V', ⟨q5.1, State.isArrayOf_alike al'.symm q5.2.1, q5.2.2.1⟩, q6, by rw [← al'.findClass]; exact q7, q8, fun j hj => by have := q9 j hj; rwa [Nat.zero_add] at this⟩, fun O n d w F n1 n2 => ?_⟩, hl, hc, hs⟩, st⟩
  · intro y hy
    simp only [List.mem_cons, List.not_mem_nil, or_false] at hy
    rcases hy with rfl | rfl <;> rfl
  · by_cases q : y = x
    · subst q
      cases hD.symm.trans hy
      exact ⟨E', q1.1, q2.2.1, q2.1, hsz⟩
    · exact ⟨cy, q10 y cy q hy, rfl, rfl, rfl⟩
  · obtain ⟨D3, cf, k, i, f, g1, g2, g3, g4, g5, g6, g7⟩ := F
    cases hD.symm.trans g1
    simp only [RoadKit.slotOf, g2, gV, gC, Option.map_some, Option.getD_some] at n1 n2
    exact ⟨E', cf, k, i, f, q1.1, g2, g3, by rw [q2.1]; exact g4, by rw [q2.1]; exact g5, by rw [q2.2.1]; exact g6, by rw [q2.2.2 f.slot (by simp [n1, n2])]; exact g7⟩
end StrChars.Road
namespace StrChars.Road
open Jvm Sem ClassFile Op Lib Jvm.Stand Jvm.Free Jvm.Free.XT
/-- WHAT COMES BACK, the byte[] as a list of values -/
def QA (Z : State) (x : Addr) (zn : Int32) (cs : List Int32) (h : Heap) (v : Option Value) (h' : Heap) (L : List Loc) : Prop := v = none ∧ (∀ y ∈ L, y.base = x) ∧ RoadKit.Keep h h' [x] ∧ h'.size = h.size + 1 ∧ RoadKit.Exa Z h' x ST ∧ RoadKit.Fld Z h' x ST "value" "[B" (.ref h.size) ∧ RoadKit.Fld Z h' x ST "coder" "B" (.int 0) ∧
  (∃ kb, Z.vm.findClass "[B" = some kb ∧ RoadKit.Arv Z h' h.size kb .byte zn (cs.map fun c => .int (lo8 c)) (.int 0)) ∧
  ∀ (O n d : String) (w : Value), RoadKit.Fld Z h x O n d w → RoadKit.slotOf Z O n d ≠ RoadKit.slotOf Z ST "value" "[B" → RoadKit.slotOf Z O n d ≠ RoadKit.slotOf Z ST "coder" "B" → RoadKit.Fld Z h' x O n d w
/-- **new String(chars) AT A CALL, THE ARRAYS AS LISTS**: the char[] at b holds cs, not empty, no char above 255 -/
theorem backArv {p : Program} {l : Launch} {e : Env} {R : Room} {s : State} {args : Array Value} {below : List Frame} {len W : Nat} {Z : State} {a0 : Array Value} {h : Heap} (hZ : Z.Warmed39 s.vm) (hw : ∀ d ∈ words, d.before a0 Z = true) {kI : Nat} (wi : (Jvm.Cond.instantiable ST kI).before a0 Z = true)
    {x b : Addr} {k : ClassId} {zn z : Int32} {cs : List Int32} {dv v0 c0 : Value} (E : RoadKit.Exa Z h x ST) (V : RoadKit.Fld Z h x ST "value" "[B" v0) (C : RoadKit.Fld Z h x ST "coder" "B" c0) (K : RoadKit.Arv Z h b k .char zn (cs.map Value.int) dv) (S : RoadKit.Sta Z h ST "COMPACT_STRINGS" "Z" (.int z)) (hz : ¬ z = 0)
    (hlen : zn.toNatClampNeg = cs.length) (h0 : 0 < cs.length) (hbig : cs.length ≤ 536870912) (hall : ∀ c ∈ cs, ¬ 255 < c) (hfr : 4 ≤ R.frames) (hlo : W + 65 ≤ R.locals) :
    Back l R p e below s args New1.yN len W (fun P a => a = #[.ref x, .ref b] ∧ P.U.heap = h ∧ P.cells + 1 ≤ R.cells ∧ P.slots + cs.length ≤ R.slots)
      (fun P _ v B => ∃ L, QA Z x zn cs h v B.U.heap L ∧ B.locs = P.locs ++ L ∧ B.cells = P.cells + 1 ∧ B.slots = P.slots + cs.length) := by
  obtain ⟨A, K1, K2, K3, K4, K5, K6⟩ := K
  have e : A.slots.size = cs.length := K3.trans hlen
  have hat : ∀ (i : Nat) (hi : i < cs.length), A.slots[i]? = some (.int cs[i]) := fun i hi => by rw [K5 i (by omega)]; simp [List.getD_eq_getElem?_getD, hi]
  have hcv : ∀ (i : Nat) (hi : i < cs.length), cv A i = cs[i] := fun i hi => by unfold cv; rw [hat i hi]
  have hty : Typed .char A := fun i v hv => by
    have hi : i < A.slots.size := (Array.getElem?_eq_some_iff.mp hv).1
    have q := K5 i hi
    rw [hv] at q
    rw [Option.some.inj q]
    exact K6 i hi
  refine Back.mono (back hZ hw wi E V C K1 hty S hz (by omega) (by omega) (fun i hi => by rw [hcv i (by omega)]; exact hall _ (List.getElem_mem _)) hfr hlo) (fun P a hp => ⟨hp.1, hp.2.1, hp.2.2.1, by rw [e]; exact hp.2.2.2⟩) (fun P a v B hp hq => ?_)
  obtain ⟨L, ⟨q1, q2, q3, q4, q5, q6, q7, ⟨V', v1, v2, v3, v4, v5⟩, q9⟩, hl, hc, hs⟩ := hq
  refine ⟨L, ⟨q1, q2, q3, q4, q5, q6, q7, ⟨V'.cls, v3, V', v1, rfl, by rw [v4, e, hlen], K4, fun i hi => ?_, fun i hi => ?_⟩, q9⟩, hl, hc, by rw [hs, e]⟩
  · have hi' : i < cs.length := by omega
    rw [v5 i (by omega), hcv i hi']; simp [List.getD_eq_getElem?_getD, hi']
  · have hi' : i < cs.length := by omega
    simp only [List.getD_eq_getElem?_getD, List.getElem?_map, List.getElem?_eq_getElem hi', Option.map_some, Option.getD_some]
    exact fits_lo8 _
end StrChars.Road
namespace StrChars.Road
open Jvm Sem ClassFile Op Lib Jvm.Stand Jvm.Free Jvm.Free.XT
/-- WHAT COMES BACK, in the writer's own shape -/
def QV (Z : State) (x : Addr) (N : Int32) (bs : List Int32) (h : Heap) (n0 : Nat) (v : Option Value) (h' : Heap) (L : List Loc) : Prop := v = none ∧ RoadKit.Fr n0 L ∧ RoadKit.Keep h h' [x] ∧ RoadKit.Exa Z h' x ST ∧ RoadKit.Fld Z h' x ST "coder" "B" (.int 0) ∧
  ∃ (t : Addr) (kb : ClassId), n0 ≤ t ∧ h.size ≤ t ∧ ¬ t = x ∧ RoadKit.Fld Z h' x ST "value" "[B" (.ref t) ∧ RoadKit.Arv Z h' t kb .byte N (bs.map Value.int) (.int 0)
/-- **new String(chars) AT A CALL, FOR THE WRITER**: a char[] of n known ints, each 0 to 255 -/
theorem backV {p : Program} {l : Launch} {e : Env} {R : Room} {s : State} {args : Array Value} {below : List Frame} {len W : Nat} {Z : State} {a0 : Array Value} {h : Heap} (hZ : Z.Warmed39 s.vm) (hw : ∀ d ∈ words, d.before a0 Z = true) {kI : Nat} (wi : (Jvm.Cond.instantiable ST kI).before a0 Z = true)
    {x b : Addr} {kC : ClassId} {cs bs : List Int32} {d v0 c0 : Value} {z N : Int32} {n n0 : Nat} (hx0 : n0 ≤ x) (hh0 : n0 ≤ h.size) (E : RoadKit.Exa Z h x ST) (V : RoadKit.Fld Z h x ST "value" "[B" v0) (C : RoadKit.Fld Z h x ST "coder" "B" c0) (K : RoadKit.Arv Z h b kC .char N (cs.map Value.int) d) (S : RoadKit.Sta Z h ST "COMPACT_STRINGS" "Z" (.int z)) (hz : ¬ z = 0)
    (hn : cs.length = n) (hN : N = Int32.ofNat n) (l0 : 0 < n) (l2 : n ≤ 4000) (hp : ∀ c ∈ cs, ¬ c < 0 ∧ ¬ (255 : Int32) < c) (hb : bs = cs.map (fun c => c.toInt8.toInt32)) (hfr : 4 ≤ R.frames) (hlo : W + 65 ≤ R.locals) :
    Back l R p e below s args (⟨"java/lang/String", "<init>", "([C)V"⟩ : MethodName) len W (fun P a => a = #[.ref x, .ref b] ∧ P.U.heap = h ∧ P.cells + 1 ≤ R.cells ∧ P.slots + n ≤ R.slots)
      (fun P _ v B => ∃ L, QV Z x N bs h n0 v B.U.heap L ∧ B.locs = P.locs ++ L ∧ B.cells = P.cells + 1 ∧ B.slots = P.slots + n) := by
  subst hn hN hb
  refine Back.mono (backArv hZ hw wi E V C K S hz (n32 (by omega)) l0 (by omega) (fun c hc => (hp c hc).2) hfr hlo) (fun P a hp => hp) (fun P a v B hp hq => ?_)
  obtain ⟨L, ⟨q1, q2, q3, q4, q5, q6, q7, ⟨kb, v1, v2⟩, q9⟩, hl, hc, hs⟩ := hq
  exact ⟨L, ⟨q1, fun y hy => by rw [q2 y hy]; exact hx0, q3, q5, q7, h.size, kb, hh0, Nat.le_refl _, Nat.ne_of_gt E.lt, q6, by rw [List.map_map]; exact v2⟩, hl, hc, hs⟩
end StrChars.Road
namespace StrChars
open Jvm Sem ClassFile Op Lib Jvm.Stand Jvm.Free.XT Jvm.Free.ALB Jvm.Free.JM Jvm.Free
open Jvm.Lib.Cold (StaticIs)
def hi8 (x : Int32) : Int32 := lo8 (x >>> ((8 : Int32) &&& 31))
end StrChars
namespace StrChars.Road
open Jvm Sem ClassFile Op Lib Jvm.Stand Jvm.Free Jvm.Free.XT
open Jvm.Lib.Cold (StaticIs)
/-- the bytes of the chars cs, low before high -/
def wideBytes : List Int32 → List Value
  | [] => []
  | c :: cs => .int (lo8 c) :: .int (hi8 c) :: wideBytes cs
/-- an array of N2 bytes vs codes the chars cs by the coder cd -/
def CodA (cs : List Int32) (cd N2 : Int32) (vs : List Value) : Prop := (cd = 0 ∧ N2 = Int32.ofNat cs.length ∧ vs = (cs.map fun c => Value.int (lo8 c)) ∧ ∀ c ∈ cs, ¬ 255 < c) ∨ (cd = 1 ∧ N2 = Int32.ofNat (2 * cs.length) ∧ vs = wideBytes cs ∧ ∃ c ∈ cs, 255 < c)
end StrChars.Road
namespace StrChars.Road
open Jvm Sem ClassFile Op Lib Jvm.Stand Jvm.Free Jvm.Free.XT
open Jvm.Lib.Cold (StaticIs)
/-- what backV says of its String, as the contracts of this text ask it: cs's low bytes, coder 0 -/
theorem codOf {cs : List Int32} {n : Nat} (hn : cs.length = n) (hb : ∀ c ∈ cs, ¬ 255 < c) : CodA cs 0 (Int32.ofNat n) ((cs.map lo8).map Value.int) := Or.inl ⟨rfl, by rw [hn], by simp [List.map_map, Function.comp_def], hb⟩
end StrChars.Road
end Jvm.Pilot.@@N@@
namespace Jvm.Pilot.@@N@@
namespace OwnS
open Jvm Jvm.ClassFile Sem Op Lib Jvm.Free Jvm.Stand Jvm.LawKit Jvm.RoadKit Bundle Jvm.OwnKit
abbrev ST : String := "java/lang/String"
/-- a String that spells cs -/
def Str (Z : State) (h : Heap) (x : Addr) (cs : List Int32) : Prop := Exa Z h x ST ∧ ∃ (t : Addr) (kb : ClassId) (cd N2 : Int32) (vs : List Value), Fld Z h x ST "value" "[B" (.ref t) ∧ Fld Z h x ST "coder" "B" (.int cd) ∧ Arv Z h t kb .byte N2 vs (.int 0) ∧ StrChars.Road.CodA cs cd N2 vs ∧ (∀ c ∈ cs, ¬ c < 0 ∧ ¬ (65535 : Int32) < c) ∧ cs.length ≤ 4000
section A
variable {k : Ctx} {R : Room} {Z : State} {EL : List (String × Nat)} {n0 n W : Nat} {h h' : Heap} {x b x' : Addr} {cs ds : List Int32} {a0 : Array Value} {kC : ClassId} {d v0 c0 : Value} {z N : Int32}
theorem Str.ext (S : Str Z h x cs) (E : Ext h h') : Str Z h' x cs := by
  obtain ⟨e, t, kb, cd, N2, vs, v, c, a, r⟩ := S
  exact ⟨e.ext E, t, kb, cd, N2, vs, v.ext E, c.ext E, a.ext E, r⟩
theorem old_le (hO : Old Z n0 h) : n0 ≤ h.size := hO.1 ▸ hO.2.1
theorem payV (hEL : EW Z a0 EL) (hws : ∀ d ∈ StrChars.Road.words, d.before a0 Z = true) (wi : (Jvm.Cond.instantiable ST 4).before a0 Z = true) (hO : Old Z n0 h) (hx0 : n0 ≤ x) (E : Exa Z h x ST) (V : Fld Z h x ST "value" "[B" v0) (C : Fld Z h x ST "coder" "B" c0) (K : Arv Z h b kC .char N (cs.map Value.int) d) (S : Sta Z Z.heap ST "COMPACT_STRINGS" "Z" (.int z)) (hz : ¬ z = 0)
    (hn : cs.length = n) (hN : N = Int32.ofNat n) (l0 : 0 < n) (l2 : n ≤ 4000) (hp : ∀ c ∈ cs, ¬ c < 0 ∧ ¬ (255 : Int32) < c) (hfr : 4 ≤ R.frames) (hlo : W + 65 ≤ R.locals) :
    Paid k R Z EL n0 (⟨"java/lang/String", "<init>", "([C)V"⟩ : MethodName) W #[.ref x, .ref b] h [x] 1 n (fun v h' => v = none ∧ Str Z h' x cs) :=
  Paid.of_back hEL (fun p l e s args below hZ => StrChars.Road.backV hZ hws wi hx0 (old_le hO) E V C K (S.ext hO.2) hz hn hN l0 l2 hp rfl hfr hlo) (fun v h' L q => by
    obtain ⟨q1, q2, q3, q4, q5, t, kb, -, -, -, q6, q7⟩ := q
    subst hN
    refine ⟨⟨q1, q4, t, kb, 0, _, _, q6, q5, q7, StrChars.Road.codOf hn (fun c hc => (hp c hc).2), fun c hc => ⟨(hp c hc).1, fun q => (hp c hc).2 ?_⟩, by omega⟩, q3, q2⟩
    rw [Int32.lt_iff_toInt_lt] at q ⊢
    have e0 : (255 : Int32).toInt = 255 := rfl
    have e1 : (65535 : Int32).toInt = 65535 := rfl
    omega)
end A
end OwnS
end Jvm.Pilot.@@N@@
namespace Jvm.Pilot.@@N@@
open Jvm Jvm.ClassFile Sem Op Lib Jvm.Free Jvm.Stand Jvm.LawKit Jvm.RoadKit Bundle Jvm.OwnKit OwnS Jvm.Pilot.@@N@@.Jvm.D

abbrev C8 (x : Int32) : Prop := ¬ x < 0 ∧ ¬ (255 : Int32) < x
theorem C8.nar {x : Int32} (h : C8 x) : nar .char x = x := nar_char h.1 (fun q => h.2 (by rw [Int32.lt_iff_toInt_lt] at q ⊢; have e0 : (255 : Int32).toInt = 255 := rfl; have e1 : (65535 : Int32).toInt = 65535 := rfl; omega))
theorem c8m (p : Int32) : C8 ((p &&& (255 : Int32)).toUInt32.toUInt16.toUInt32.toInt32) := by
  rw [i2c_mask]
  obtain ⟨q1, q2⟩ := c_and p 255 (by decide)
  have e0 : (255 : Int32).toInt = 255 := rfl
  have e1 : (0 : Int32).toInt = 0 := rfl
  constructor <;> rw [Int32.lt_iff_toInt_lt] <;> omega
theorem mask3 (p : Int32) : (p &&& (3 : Int32)) = 0 ∨ (p &&& (3 : Int32)) = 1 ∨ (p &&& (3 : Int32)) = 2 ∨ (p &&& (3 : Int32)) = 3 := by
  obtain ⟨q1, q2⟩ := c_and p 3 (by decide)
  have e3 : (3 : Int32).toInt = 3 := rfl
  have e2 : (2 : Int32).toInt = 2 := rfl
  have e1 : (1 : Int32).toInt = 1 := rfl
  have e0 : (0 : Int32).toInt = 0 := rfl
  have : (p &&& 3).toInt = 0 ∨ (p &&& 3).toInt = 1 ∨ (p &&& 3).toInt = 2 ∨ (p &&& 3).toInt = 3 := by omega
  rcases this with q | q | q | q
  · exact Or.inl (Int32.toInt_inj.mp (q.trans e0.symm))
  · exact Or.inr (Or.inl (Int32.toInt_inj.mp (q.trans e1.symm)))
  · exact Or.inr (Or.inr (Or.inl (Int32.toInt_inj.mp (q.trans e2.symm))))
  · exact Or.inr (Or.inr (Or.inr (Int32.toInt_inj.mp (q.trans e3.symm))))
abbrev In4 (t : Int32) : Prop := t = 0 ∨ t = 1 ∨ t = 2 ∨ t = 3
def chs (l x0 x1 x2 : Int32) : List Int32 := if l = 0 then [] else if l = 1 then [x0] else if l = 2 then [x0, x1] else [x0, x1, x2]
theorem chs_len {l : Int32} (x0 x1 x2 : Int32) (hl : In4 l) : l = Int32.ofNat (chs l x0 x1 x2).length := by rcases hl with rfl | rfl | rfl | rfl <;> rfl
theorem chs_le (l x0 x1 x2 : Int32) : (chs l x0 x1 x2).length ≤ 3 := by
  unfold chs
  split
  · simp
  split
  · simp
  split <;> simp
theorem chs_c8 {l x0 x1 x2 : Int32} (c0 : C8 x0) (c1 : C8 x1) (c2 : C8 x2) : ∀ c ∈ chs l x0 x1 x2, ¬ c < 0 ∧ ¬ (255 : Int32) < c := by
  intro c hc
  unfold chs at hc
  split at hc
  · simp at hc
  split at hc
  · simp only [List.mem_cons, List.not_mem_nil, or_false] at hc; subst hc; exact c0
  split at hc
  · simp only [List.mem_cons, List.not_mem_nil, or_false] at hc; rcases hc with rfl | rfl <;> first | exact c0 | exact c1
  · simp only [List.mem_cons, List.not_mem_nil, or_false] at hc; rcases hc with rfl | rfl | rfl <;> first | exact c0 | exact c1 | exact c2

theorem dR_0 : decode jdk_31_method_11_code 0 = .ok (.aload_n 0, 1) := by decide +kernel
theorem dR_1 : decode jdk_31_method_11_code 1 = .ok (.ifnonnull 12, 3) := by decide +kernel
theorem dR_4 : decode jdk_31_method_11_code 4 = .ok (.new 84, 3) := by decide +kernel
theorem dR_7 : decode jdk_31_method_11_code 7 = .ok (.dup, 1) := by decide +kernel
theorem dR_8 : decode jdk_31_method_11_code 8 = .ok (.aload_n 1, 1) := by decide +kernel
theorem dR_9 : decode jdk_31_method_11_code 9 = .ok (.invokespecial 87, 3) := by decide +kernel
theorem dR_12 : decode jdk_31_method_11_code 12 = .ok (.athrow, 1) := by decide +kernel
theorem dR_13 : decode jdk_31_method_11_code 13 = .ok (.aload_n 0, 1) := by decide +kernel
theorem dR_14 : decode jdk_31_method_11_code 14 = .ok (.areturn, 1) := by decide +kernel
theorem pdR : parseMethodDescriptor "(Ljava/lang/Object;Ljava/lang/String;)Ljava/lang/Object;" = some ⟨[(.object "java/lang/Object"), (.object "java/lang/String")], (some (.object "java/lang/Object"))⟩ := by decide +kernel
theorem dC3_0 : decode prog_55_method_2_code 0 = .ok (.aload_n 0, 1) := by decide +kernel
theorem dC3_1 : decode prog_55_method_2_code 1 = .ok (.invokespecial 15, 3) := by decide +kernel
theorem dC3_4 : decode prog_55_method_2_code 4 = .ok (.aload_n 0, 1) := by decide +kernel
theorem dC3_5 : decode prog_55_method_2_code 5 = .ok (.aload_n 1, 1) := by decide +kernel
theorem dC3_6 : decode prog_55_method_2_code 6 = .ok (.ldc 20, 2) := by decide +kernel
theorem dC3_8 : decode prog_55_method_2_code 8 = .ok (.invokestatic 3, 3) := by decide +kernel
theorem dC3_11 : decode prog_55_method_2_code 11 = .ok (.checkcast 22, 3) := by decide +kernel
theorem dC3_14 : decode prog_55_method_2_code 14 = .ok (.putfield 24, 3) := by decide +kernel
theorem dC3_17 : decode prog_55_method_2_code 17 = .ok (.aload_n 0, 1) := by decide +kernel
theorem dC3_18 : decode prog_55_method_2_code 18 = .ok (.aload_n 2, 1) := by decide +kernel
theorem dC3_19 : decode prog_55_method_2_code 19 = .ok (.putfield 27, 3) := by decide +kernel
theorem dC3_22 : decode prog_55_method_2_code 22 = .ok (.aload_n 0, 1) := by decide +kernel
theorem dC3_23 : decode prog_55_method_2_code 23 = .ok (.aload_n 3, 1) := by decide +kernel
theorem dC3_24 : decode prog_55_method_2_code 24 = .ok (.putfield 30, 3) := by decide +kernel
theorem dC3_27 : decode prog_55_method_2_code 27 = .ok (.return_, 1) := by decide +kernel
theorem pdC3 : parseMethodDescriptor "(Ljava/lang/String;Ljava/lang/Object;Ljava/lang/String;)V" = some ⟨[(.object "java/lang/String"), (.object "java/lang/Object"), (.object "java/lang/String")], none⟩ := by decide +kernel
theorem dC2_0 : decode prog_55_method_1_code 0 = .ok (.aload_n 0, 1) := by decide +kernel
theorem dC2_1 : decode prog_55_method_1_code 1 = .ok (.aload_n 1, 1) := by decide +kernel
theorem dC2_2 : decode prog_55_method_1_code 2 = .ok (.aload_n 2, 1) := by decide +kernel
theorem dC2_3 : decode prog_55_method_1_code 3 = .ok (.ldc 1, 2) := by decide +kernel
theorem dC2_5 : decode prog_55_method_1_code 5 = .ok (.invokestatic 3, 3) := by decide +kernel
theorem dC2_8 : decode prog_55_method_1_code 8 = .ok (.aconst_null, 1) := by decide +kernel
theorem dC2_9 : decode prog_55_method_1_code 9 = .ok (.invokespecial 9, 3) := by decide +kernel
theorem dC2_12 : decode prog_55_method_1_code 12 = .ok (.return_, 1) := by decide +kernel
theorem pdC2 : parseMethodDescriptor "(Ljava/lang/String;Ljava/lang/Object;)V" = some ⟨[(.object "java/lang/String"), (.object "java/lang/Object")], none⟩ := by decide +kernel
theorem dU_0 : decode prog_55_method_3_code 0 = .ok (.new 10, 3) := by decide +kernel
theorem dU_3 : decode prog_55_method_3_code 3 = .ok (.dup, 1) := by decide +kernel
theorem dU_4 : decode prog_55_method_3_code 4 = .ok (.aload_n 0, 1) := by decide +kernel
theorem dU_5 : decode prog_55_method_3_code 5 = .ok (.aconst_null, 1) := by decide +kernel
theorem dU_6 : decode prog_55_method_3_code 6 = .ok (.aload_n 1, 1) := by decide +kernel
theorem dU_7 : decode prog_55_method_3_code 7 = .ok (.ldc 33, 2) := by decide +kernel
theorem dU_9 : decode prog_55_method_3_code 9 = .ok (.invokestatic 3, 3) := by decide +kernel
theorem dU_12 : decode prog_55_method_3_code 12 = .ok (.checkcast 22, 3) := by decide +kernel
theorem dU_15 : decode prog_55_method_3_code 15 = .ok (.invokespecial 9, 3) := by decide +kernel
theorem dU_18 : decode prog_55_method_3_code 18 = .ok (.areturn, 1) := by decide +kernel
theorem pdU : parseMethodDescriptor "(Ljava/lang/String;Ljava/lang/String;)Lcom/example/lowr/lowr/model/FormulaText;" = some ⟨[(.object "java/lang/String"), (.object "java/lang/String")], (some (.object "com/example/lowr/lowr/model/FormulaText"))⟩ := by decide +kernel
theorem dIR_0 : decode prog_55_method_5_code 0 = .ok (.aload_n 0, 1) := by decide +kernel
theorem dIR_1 : decode prog_55_method_5_code 1 = .ok (.getfield 27, 3) := by decide +kernel
theorem dIR_4 : decode prog_55_method_5_code 4 = .ok (.ifnull 7, 3) := by decide +kernel
theorem dIR_7 : decode prog_55_method_5_code 7 = .ok (.iconst 1, 1) := by decide +kernel
theorem dIR_8 : decode prog_55_method_5_code 8 = .ok (.goto 4, 3) := by decide +kernel
theorem dIR_11 : decode prog_55_method_5_code 11 = .ok (.iconst 0, 1) := by decide +kernel
theorem dIR_12 : decode prog_55_method_5_code 12 = .ok (.ireturn, 1) := by decide +kernel
theorem pdIR : parseMethodDescriptor "()Z" = some ⟨[], (some .boolean)⟩ := by decide +kernel
theorem dGR_0 : decode prog_55_method_7_code 0 = .ok (.aload_n 0, 1) := by decide +kernel
theorem dGR_1 : decode prog_55_method_7_code 1 = .ok (.getfield 30, 3) := by decide +kernel
theorem dGR_4 : decode prog_55_method_7_code 4 = .ok (.areturn, 1) := by decide +kernel
theorem pdGR : parseMethodDescriptor "()Ljava/lang/String;" = some ⟨[], (some (.object "java/lang/String"))⟩ := by decide +kernel
theorem dGF_0 : decode prog_55_method_6_code 0 = .ok (.aload_n 0, 1) := by decide +kernel
theorem dGF_1 : decode prog_55_method_6_code 1 = .ok (.getfield 27, 3) := by decide +kernel
theorem dGF_4 : decode prog_55_method_6_code 4 = .ok (.ifnonnull 15, 3) := by decide +kernel
theorem dGF_7 : decode prog_55_method_6_code 7 = .ok (.new 34, 3) := by decide +kernel
theorem dGF_10 : decode prog_55_method_6_code 10 = .ok (.dup, 1) := by decide +kernel
theorem dGF_11 : decode prog_55_method_6_code 11 = .ok (.aload_n 0, 1) := by decide +kernel
theorem dGF_12 : decode prog_55_method_6_code 12 = .ok (.getfield 30, 3) := by decide +kernel
theorem dGF_15 : decode prog_55_method_6_code 15 = .ok (.invokespecial 36, 3) := by decide +kernel
theorem dGF_18 : decode prog_55_method_6_code 18 = .ok (.athrow, 1) := by decide +kernel
theorem dGF_19 : decode prog_55_method_6_code 19 = .ok (.aload_n 0, 1) := by decide +kernel
theorem dGF_20 : decode prog_55_method_6_code 20 = .ok (.getfield 27, 3) := by decide +kernel
theorem dGF_23 : decode prog_55_method_6_code 23 = .ok (.areturn, 1) := by decide +kernel
theorem pdGF : parseMethodDescriptor "()Ljava/lang/Object;" = some ⟨[], (some (.object "java/lang/Object"))⟩ := by decide +kernel
theorem dV_0 : decode jdk_33_method_22_code 0 = .ok (.iload_n 0, 1) := by decide +kernel
theorem dV_1 : decode jdk_33_method_22_code 1 = .ok (.bipush (-128), 2) := by decide +kernel
theorem dV_3 : decode jdk_33_method_22_code 3 = .ok (.if_icmp .lt 20, 3) := by decide +kernel
theorem dV_6 : decode jdk_33_method_22_code 6 = .ok (.iload_n 0, 1) := by decide +kernel
theorem dV_7 : decode jdk_33_method_22_code 7 = .ok (.getstatic 191, 3) := by decide +kernel
theorem dV_10 : decode jdk_33_method_22_code 10 = .ok (.if_icmp .gt 13, 3) := by decide +kernel
theorem dV_13 : decode jdk_33_method_22_code 13 = .ok (.getstatic 195, 3) := by decide +kernel
theorem dV_16 : decode jdk_33_method_22_code 16 = .ok (.iload_n 0, 1) := by decide +kernel
theorem dV_17 : decode jdk_33_method_22_code 17 = .ok (.sipush 128, 3) := by decide +kernel
theorem dV_20 : decode jdk_33_method_22_code 20 = .ok (.iadd, 1) := by decide +kernel
theorem dV_21 : decode jdk_33_method_22_code 21 = .ok (.aaload, 1) := by decide +kernel
theorem dV_22 : decode jdk_33_method_22_code 22 = .ok (.areturn, 1) := by decide +kernel
theorem dV_23 : decode jdk_33_method_22_code 23 = .ok (.new 1, 3) := by decide +kernel
theorem dV_26 : decode jdk_33_method_22_code 26 = .ok (.dup, 1) := by decide +kernel
theorem dV_27 : decode jdk_33_method_22_code 27 = .ok (.iload_n 0, 1) := by decide +kernel
theorem dV_28 : decode jdk_33_method_22_code 28 = .ok (.invokespecial 199, 3) := by decide +kernel
theorem dV_31 : decode jdk_33_method_22_code 31 = .ok (.areturn, 1) := by decide +kernel
theorem pdV : parseMethodDescriptor "(I)Ljava/lang/Integer;" = some ⟨[.int], (some (.object "java/lang/Integer"))⟩ := by decide +kernel
theorem dIi_0 : decode jdk_33_method_23_code 0 = .ok (.aload_n 0, 1) := by decide +kernel
theorem dIi_1 : decode jdk_33_method_23_code 1 = .ok (.invokespecial 202, 3) := by decide +kernel
theorem dIi_4 : decode jdk_33_method_23_code 4 = .ok (.aload_n 0, 1) := by decide +kernel
theorem dIi_5 : decode jdk_33_method_23_code 5 = .ok (.iload_n 1, 1) := by decide +kernel
theorem dIi_6 : decode jdk_33_method_23_code 6 = .ok (.putfield 205, 3) := by decide +kernel
theorem dIi_9 : decode jdk_33_method_23_code 9 = .ok (.return_, 1) := by decide +kernel
theorem pdIi : parseMethodDescriptor "(I)V" = some ⟨[.int], none⟩ := by decide +kernel
theorem dNu_0 : decode jdk_18_method_1_code 0 = .ok (.aload_n 0, 1) := by decide +kernel
theorem dNu_1 : decode jdk_18_method_1_code 1 = .ok (.invokespecial 1, 3) := by decide +kernel
theorem dNu_4 : decode jdk_18_method_1_code 4 = .ok (.return_, 1) := by decide +kernel
theorem pdNu : parseMethodDescriptor "()V" = some ⟨[], none⟩ := by decide +kernel
theorem dIv_0 : decode jdk_33_method_27_code 0 = .ok (.aload_n 0, 1) := by decide +kernel
theorem dIv_1 : decode jdk_33_method_27_code 1 = .ok (.getfield 205, 3) := by decide +kernel
theorem dIv_4 : decode jdk_33_method_27_code 4 = .ok (.ireturn, 1) := by decide +kernel
theorem pdIv : parseMethodDescriptor "()I" = some ⟨[], (some .int)⟩ := by decide +kernel
theorem dSv_0 : decode jdk_42_method_139_code 0 = .ok (.getstatic 38, 3) := by decide +kernel
theorem dSv_3 : decode jdk_42_method_139_code 3 = .ok (.ifCond .eq 23, 3) := by decide +kernel
theorem dSv_6 : decode jdk_42_method_139_code 6 = .ok (.iload_n 0, 1) := by decide +kernel
theorem dSv_7 : decode jdk_42_method_139_code 7 = .ok (.invokestatic 1015, 3) := by decide +kernel
theorem dSv_10 : decode jdk_42_method_139_code 10 = .ok (.ifCond .eq 16, 3) := by decide +kernel
theorem dSv_13 : decode jdk_42_method_139_code 13 = .ok (.new 10, 3) := by decide +kernel
theorem dSv_16 : decode jdk_42_method_139_code 16 = .ok (.dup, 1) := by decide +kernel
theorem dSv_17 : decode jdk_42_method_139_code 17 = .ok (.iload_n 0, 1) := by decide +kernel
theorem dSv_18 : decode jdk_42_method_139_code 18 = .ok (.invokestatic 1018, 3) := by decide +kernel
theorem dSv_21 : decode jdk_42_method_139_code 21 = .ok (.iconst 0, 1) := by decide +kernel
theorem dSv_22 : decode jdk_42_method_139_code 22 = .ok (.invokespecial 209, 3) := by decide +kernel
theorem dSv_25 : decode jdk_42_method_139_code 25 = .ok (.areturn, 1) := by decide +kernel
theorem dSv_26 : decode jdk_42_method_139_code 26 = .ok (.new 10, 3) := by decide +kernel
theorem dSv_29 : decode jdk_42_method_139_code 29 = .ok (.dup, 1) := by decide +kernel
theorem dSv_30 : decode jdk_42_method_139_code 30 = .ok (.iload_n 0, 1) := by decide +kernel
theorem dSv_31 : decode jdk_42_method_139_code 31 = .ok (.invokestatic 1021, 3) := by decide +kernel
theorem dSv_34 : decode jdk_42_method_139_code 34 = .ok (.iconst 1, 1) := by decide +kernel
theorem dSv_35 : decode jdk_42_method_139_code 35 = .ok (.invokespecial 209, 3) := by decide +kernel
theorem dSv_38 : decode jdk_42_method_139_code 38 = .ok (.areturn, 1) := by decide +kernel
theorem pdSv : parseMethodDescriptor "(C)Ljava/lang/String;" = some ⟨[.char], (some (.object "java/lang/String"))⟩ := by decide +kernel
theorem dCE_0 : decode jdk_43_method_3_code 0 = .ok (.iload_n 0, 1) := by decide +kernel
theorem dCE_1 : decode jdk_43_method_3_code 1 = .ok (.sipush 255, 3) := by decide +kernel
theorem dCE_4 : decode jdk_43_method_3_code 4 = .ok (.if_icmp .gt 7, 3) := by decide +kernel
theorem dCE_7 : decode jdk_43_method_3_code 7 = .ok (.iconst 1, 1) := by decide +kernel
theorem dCE_8 : decode jdk_43_method_3_code 8 = .ok (.goto 4, 3) := by decide +kernel
theorem dCE_11 : decode jdk_43_method_3_code 11 = .ok (.iconst 0, 1) := by decide +kernel
theorem dCE_12 : decode jdk_43_method_3_code 12 = .ok (.ireturn, 1) := by decide +kernel
theorem pdCE : parseMethodDescriptor "(C)Z" = some ⟨[.char], (some .boolean)⟩ := by decide +kernel
theorem dTB_0 : decode jdk_43_method_46_code 0 = .ok (.iconst 1, 1) := by decide +kernel
theorem dTB_1 : decode jdk_43_method_46_code 1 = .ok (.newarray .byte, 2) := by decide +kernel
theorem dTB_3 : decode jdk_43_method_46_code 3 = .ok (.dup, 1) := by decide +kernel
theorem dTB_4 : decode jdk_43_method_46_code 4 = .ok (.iconst 0, 1) := by decide +kernel
theorem dTB_5 : decode jdk_43_method_46_code 5 = .ok (.iload_n 0, 1) := by decide +kernel
theorem dTB_6 : decode jdk_43_method_46_code 6 = .ok (.i2b, 1) := by decide +kernel
theorem dTB_7 : decode jdk_43_method_46_code 7 = .ok (.bastore, 1) := by decide +kernel
theorem dTB_8 : decode jdk_43_method_46_code 8 = .ok (.areturn, 1) := by decide +kernel
theorem pdTB : parseMethodDescriptor "(C)[B" = some ⟨[.char], (some (.array .byte))⟩ := by decide +kernel
theorem dSB_0 : decode jdk_42_method_151_code 0 = .ok (.aload_n 0, 1) := by decide +kernel
theorem dSB_1 : decode jdk_42_method_151_code 1 = .ok (.invokespecial 1, 3) := by decide +kernel
theorem dSB_4 : decode jdk_42_method_151_code 4 = .ok (.aload_n 0, 1) := by decide +kernel
theorem dSB_5 : decode jdk_42_method_151_code 5 = .ok (.aload_n 1, 1) := by decide +kernel
theorem dSB_6 : decode jdk_42_method_151_code 6 = .ok (.putfield 9, 3) := by decide +kernel
theorem dSB_9 : decode jdk_42_method_151_code 9 = .ok (.aload_n 0, 1) := by decide +kernel
theorem dSB_10 : decode jdk_42_method_151_code 10 = .ok (.iload_n 2, 1) := by decide +kernel
theorem dSB_11 : decode jdk_42_method_151_code 11 = .ok (.putfield 15, 3) := by decide +kernel
theorem dSB_14 : decode jdk_42_method_151_code 14 = .ok (.return_, 1) := by decide +kernel
theorem pdSB : parseMethodDescriptor "([BB)V" = some ⟨[(.array .byte), .byte], none⟩ := by decide +kernel
theorem pdC : parseMethodDescriptor "([C)V" = some ⟨[(.array .char)], none⟩ := by decide +kernel
theorem pnL : plainName "com/example/lowr/lowr/model/FormulaTextIsReadablePinLaw" = true := by first | (simp [plainName, overriddenIn]; done) | decide +kernel
theorem pnF : plainName "com/example/lowr/lowr/model/FormulaText" = true := by first | (simp [plainName, overriddenIn]; done) | decide +kernel
theorem pnR : plainName "java/util/Objects" = true := by first | (simp [plainName, overriddenIn]; done) | decide +kernel
theorem pnI : plainName "java/lang/Integer" = true := by first | (simp [plainName, overriddenIn]; done) | decide +kernel
theorem pnN : plainName "java/lang/Number" = true := by first | (simp [plainName, overriddenIn]; done) | decide +kernel
theorem pnS : plainName "java/lang/String" = true := by first | (simp [plainName, overriddenIn]; done) | decide +kernel
theorem pn1 : plainName "java/lang/StringLatin1" = true := by first | (simp [plainName, overriddenIn]; done) | decide +kernel
abbrev rm0 : Room := { frames := 0, cells := 0, slots := 0, locals := 0 }
set_option maxRecDepth 65536 in
set_option maxHeartbeats 4000000 in
theorem metR {Z : State} {a0 : Array Value} {n0 : Nat} {h : Heap} (hw : ∀ d ∈ tables_1, d.before a0 Z = true) (hO : Old Z n0 h) {o t : Addr} :
    Met Z [] n0 ⟨"java/util/Objects", "requireNonNull", "(Ljava/lang/Object;Ljava/lang/String;)Ljava/lang/Object;"⟩ jdk_31_method_11_code 2 (some (.object "java/lang/Object")) rm0 #[.ref o, .ref t] h [] (fun v h' => v = some (.ref o) ∧ h' = h) := by
  have w : ∀ (i : Nat) {d : Jvm.Cond}, tables_1[i]? = some d → d.before a0 Z = true := fun i d q => hw d (List.mem_of_getElem? q)
  have hEL : EW Z a0 [] := EW.nil
  refine Met.of_walk (a0 := a0) pnR hEL hO all0 (L0 := #[.val (.ref o), .val (.ref t)]) (fun m => by first | (simp [entryFrame, mkF, argsToLocals, Value.category, maxLocals]; done) | rfl) rfl ?_
  intro k H0
  have H1 := H0.aloadN 1 dR_0 rfl
  have H2 := H1.nonnullYes 13 dR_1
  have H3 := H2.aloadN 14 dR_13 rfl
  exact H3.retA rfl rfl rfl dR_14 (by decide) (by decide) ⟨rfl, rfl⟩
def FTx (Z : State) (h : Heap) (g : Addr) (F U : Value) : Prop := Exa Z h g "com/example/lowr/lowr/model/FormulaText" ∧ Fld Z h g "com/example/lowr/lowr/model/FormulaText" "formula" "Ljava/lang/Object;" F ∧ Fld Z h g "com/example/lowr/lowr/model/FormulaText" "refusal" "Ljava/lang/String;" U
theorem FTx.ext {Z : State} {h h' : Heap} {g : Addr} {F U : Value} (T : FTx Z h g F U) (E : Ext h h') : FTx Z h' g F U := ⟨T.1.ext E, T.2.1.ext E, T.2.2.ext E⟩
abbrev rm3 : Room := { frames := 1, cells := 2, slots := 36, locals := 24 }
set_option maxRecDepth 65536 in
set_option maxHeartbeats 4000000 in
theorem metC3a {Z : State} {a0 : Array Value} {n0 : Nat} {h : Heap} (hw : ∀ d ∈ tables_1, d.before a0 Z = true) (hO : Old Z n0 h) {g t : Addr} {o1 o2 o3 : Value} (hg : n0 ≤ g) (E : Exa Z h g "com/example/lowr/lowr/model/FormulaText") (F1 : Fld Z h g "com/example/lowr/lowr/model/FormulaText" "text" "Ljava/lang/String;" o1) (F2 : Fld Z h g "com/example/lowr/lowr/model/FormulaText" "formula" "Ljava/lang/Object;" o2) (F3 : Fld Z h g "com/example/lowr/lowr/model/FormulaText" "refusal" "Ljava/lang/String;" o3) (St : Exa Z h t ST) {i : Addr} :
    Met Z [] n0 ⟨"com/example/lowr/lowr/model/FormulaText", "<init>", "(Ljava/lang/String;Ljava/lang/Object;Ljava/lang/String;)V"⟩ prog_55_method_2_code 4 none rm3 #[.ref g, .ref t, .ref i, .null] h [g] (fun v h' => v = none ∧ FTx Z h' g (.ref i) (.null)) := by
  have w : ∀ (i : Nat) {d : Jvm.Cond}, tables_1[i]? = some d → d.before a0 Z = true := fun i d q => hw d (List.mem_of_getElem? q)
  have hEL : EW Z a0 [] := EW.nil
  have wS : ∀ a ∈ Bundle.stringAtoms, a.before a0 Z = true := fun d hd => hw d ((by decide +kernel : ∀ d ∈ Bundle.stringAtoms, d ∈ tables_1) d hd)
  refine Met.of_walk (a0 := a0) pnF hEL hO (allS ⟨E.lt, hg⟩ all0) (L0 := #[.val (.ref g), .val (.ref t), .val (.ref i), .val .null]) (fun m => by first | (simp [entryFrame, mkF, argsToLocals, Value.category, maxLocals]; done) | rfl) rfl ?_
  intro k H0
  have n12 : RoadKit.slotOf Z "com/example/lowr/lowr/model/FormulaText" "formula" "Ljava/lang/Object;" ≠ RoadKit.slotOf Z "com/example/lowr/lowr/model/FormulaText" "text" "Ljava/lang/String;" := slot_ne (Or.inr (w 59 rfl)) (Or.inr (w 57 rfl)) (by decide) (t := .object "java/lang/Object") (by decide) (t' := .object "java/lang/String") (by decide)
  have n13 : RoadKit.slotOf Z "com/example/lowr/lowr/model/FormulaText" "refusal" "Ljava/lang/String;" ≠ RoadKit.slotOf Z "com/example/lowr/lowr/model/FormulaText" "text" "Ljava/lang/String;" := slot_ne (Or.inr (w 61 rfl)) (Or.inr (w 57 rfl)) (by decide) (t := .object "java/lang/String") (by decide) (t' := .object "java/lang/String") (by decide)
  have n23 : RoadKit.slotOf Z "com/example/lowr/lowr/model/FormulaText" "refusal" "Ljava/lang/String;" ≠ RoadKit.slotOf Z "com/example/lowr/lowr/model/FormulaText" "formula" "Ljava/lang/Object;" := slot_ne (Or.inr (w 61 rfl)) (Or.inr (w 59 rfl)) (by decide) (t := .object "java/lang/String") (by decide) (t' := .object "java/lang/Object") (by decide)
  have H1 := H0.aloadN 1 dC3_0 rfl
  have H2 := H1.initO 4 (w 53 rfl) (w 12 rfl) (w 13 rfl) dC3_1 (by decide) (W := 0) (by decide) (by decide)
  have H3 := H2.aloadN 5 dC3_4 rfl
  have H4 := H3.aloadN 6 dC3_5 rfl
  obtain ⟨a4, h4, E4, H5⟩ := H4.ldcO 8 (w 54 rfl) wS hEL dC3_6 (n := 32) (by decide) (by decide) (by decide) (by decide)
  obtain ⟨_, h5, ⟨rfl, e5⟩, K5, H6⟩ := H5.callS 11 (z := ⟨"java/util/Objects", "requireNonNull", "(Ljava/lang/Object;Ljava/lang/String;)Ljava/lang/Object;"⟩) (w 46 rfl) (w 47 rfl) (w 48 rfl) (w 49 rfl) (by decide) (argsL := [(.ref t), (.ref a4)]) (rest := [(.ref g)]) (Paid.of_met (W := 1) (metR hw H5.oldO) (w 49 rfl) (w 48 rfl) hEL (by decide) (by decide)) (lenOf pdR rfl) rfl (Nat.le_of_eq rfl) dC3_8 (by decide) (by decide) all0
  subst e5
  have H7 := H6.castY 14 (w 55 rfl) (Ins.self (St.ext E4)) dC3_11
  obtain ⟨h6, W6, K6, E6, F6, H8⟩ := H7.putF 17 (w 56 rfl) (F1.ext E4) (E.ext E4) (Or.inr ⟨(w 57 rfl), rfl, rfl⟩) (w 31 rfl) (ty := .object "java/lang/String") (by decide) rfl rfl dC3_14 (by simp)
  have H9 := H8.aloadN 18 dC3_17 rfl
  have H10 := H9.aloadN 19 dC3_18 rfl
  obtain ⟨h7, W7, K7, E7, F7, H11⟩ := H10.putF 22 (w 58 rfl) ((F2.ext E4).other W6 (Or.inr n12)) E6 (Or.inr ⟨(w 59 rfl), rfl, rfl⟩) (w 31 rfl) (ty := .object "java/lang/Object") (by decide) rfl rfl dC3_19 (by simp)
  have H12 := H11.aloadN 23 dC3_22 rfl
  have H13 := H12.aloadN 24 dC3_23 rfl
  obtain ⟨h8, W8, K8, E8, F8, H14⟩ := H13.putF 27 (w 60 rfl) (((F3.ext E4).other W6 (Or.inr n13)).other W7 (Or.inr n23)) E7 (Or.inr ⟨(w 61 rfl), rfl, rfl⟩) (w 31 rfl) (ty := .object "java/lang/String") (by decide) rfl rfl dC3_24 (by simp)
  exact H14.retV rfl dC3_27 (by decide) (by decide) ⟨rfl, E8, F7.other W8 (Or.inr (Ne.symm n23)), F8⟩
set_option maxRecDepth 65536 in
set_option maxHeartbeats 4000000 in
theorem metC3b {Z : State} {a0 : Array Value} {n0 : Nat} {h : Heap} (hw : ∀ d ∈ tables_1, d.before a0 Z = true) (hO : Old Z n0 h) {g t : Addr} {o1 o2 o3 : Value} (hg : n0 ≤ g) (E : Exa Z h g "com/example/lowr/lowr/model/FormulaText") (F1 : Fld Z h g "com/example/lowr/lowr/model/FormulaText" "text" "Ljava/lang/String;" o1) (F2 : Fld Z h g "com/example/lowr/lowr/model/FormulaText" "formula" "Ljava/lang/Object;" o2) (F3 : Fld Z h g "com/example/lowr/lowr/model/FormulaText" "refusal" "Ljava/lang/String;" o3) (St : Exa Z h t ST) {u : Addr} :
    Met Z [] n0 ⟨"com/example/lowr/lowr/model/FormulaText", "<init>", "(Ljava/lang/String;Ljava/lang/Object;Ljava/lang/String;)V"⟩ prog_55_method_2_code 4 none rm3 #[.ref g, .ref t, .null, .ref u] h [g] (fun v h' => v = none ∧ FTx Z h' g (.null) (.ref u)) := by
  have w : ∀ (i : Nat) {d : Jvm.Cond}, tables_1[i]? = some d → d.before a0 Z = true := fun i d q => hw d (List.mem_of_getElem? q)
  have hEL : EW Z a0 [] := EW.nil
  have wS : ∀ a ∈ Bundle.stringAtoms, a.before a0 Z = true := fun d hd => hw d ((by decide +kernel : ∀ d ∈ Bundle.stringAtoms, d ∈ tables_1) d hd)
  refine Met.of_walk (a0 := a0) pnF hEL hO (allS ⟨E.lt, hg⟩ all0) (L0 := #[.val (.ref g), .val (.ref t), .val .null, .val (.ref u)]) (fun m => by first | (simp [entryFrame, mkF, argsToLocals, Value.category, maxLocals]; done) | rfl) rfl ?_
  intro k H0
  have n12 : RoadKit.slotOf Z "com/example/lowr/lowr/model/FormulaText" "formula" "Ljava/lang/Object;" ≠ RoadKit.slotOf Z "com/example/lowr/lowr/model/FormulaText" "text" "Ljava/lang/String;" := slot_ne (Or.inr (w 59 rfl)) (Or.inr (w 57 rfl)) (by decide) (t := .object "java/lang/Object") (by decide) (t' := .object "java/lang/String") (by decide)
  have n13 : RoadKit.slotOf Z "com/example/lowr/lowr/model/FormulaText" "refusal" "Ljava/lang/String;" ≠ RoadKit.slotOf Z "com/example/lowr/lowr/model/FormulaText" "text" "Ljava/lang/String;" := slot_ne (Or.inr (w 61 rfl)) (Or.inr (w 57 rfl)) (by decide) (t := .object "java/lang/String") (by decide) (t' := .object "java/lang/String") (by decide)
  have n23 : RoadKit.slotOf Z "com/example/lowr/lowr/model/FormulaText" "refusal" "Ljava/lang/String;" ≠ RoadKit.slotOf Z "com/example/lowr/lowr/model/FormulaText" "formula" "Ljava/lang/Object;" := slot_ne (Or.inr (w 61 rfl)) (Or.inr (w 59 rfl)) (by decide) (t := .object "java/lang/String") (by decide) (t' := .object "java/lang/Object") (by decide)
  have H1 := H0.aloadN 1 dC3_0 rfl
  have H2 := H1.initO 4 (w 53 rfl) (w 12 rfl) (w 13 rfl) dC3_1 (by decide) (W := 0) (by decide) (by decide)
  have H3 := H2.aloadN 5 dC3_4 rfl
  have H4 := H3.aloadN 6 dC3_5 rfl
  obtain ⟨a4, h4, E4, H5⟩ := H4.ldcO 8 (w 54 rfl) wS hEL dC3_6 (n := 32) (by decide) (by decide) (by decide) (by decide)
  obtain ⟨_, h5, ⟨rfl, e5⟩, K5, H6⟩ := H5.callS 11 (z := ⟨"java/util/Objects", "requireNonNull", "(Ljava/lang/Object;Ljava/lang/String;)Ljava/lang/Object;"⟩) (w 46 rfl) (w 47 rfl) (w 48 rfl) (w 49 rfl) (by decide) (argsL := [(.ref t), (.ref a4)]) (rest := [(.ref g)]) (Paid.of_met (W := 1) (metR hw H5.oldO) (w 49 rfl) (w 48 rfl) hEL (by decide) (by decide)) (lenOf pdR rfl) rfl (Nat.le_of_eq rfl) dC3_8 (by decide) (by decide) all0
  subst e5
  have H7 := H6.castY 14 (w 55 rfl) (Ins.self (St.ext E4)) dC3_11
  obtain ⟨h6, W6, K6, E6, F6, H8⟩ := H7.putF 17 (w 56 rfl) (F1.ext E4) (E.ext E4) (Or.inr ⟨(w 57 rfl), rfl, rfl⟩) (w 31 rfl) (ty := .object "java/lang/String") (by decide) rfl rfl dC3_14 (by simp)
  have H9 := H8.aloadN 18 dC3_17 rfl
  have H10 := H9.aloadN 19 dC3_18 rfl
  obtain ⟨h7, W7, K7, E7, F7, H11⟩ := H10.putF 22 (w 58 rfl) ((F2.ext E4).other W6 (Or.inr n12)) E6 (Or.inr ⟨(w 59 rfl), rfl, rfl⟩) (w 31 rfl) (ty := .object "java/lang/Object") (by decide) rfl rfl dC3_19 (by simp)
  have H12 := H11.aloadN 23 dC3_22 rfl
  have H13 := H12.aloadN 24 dC3_23 rfl
  obtain ⟨h8, W8, K8, E8, F8, H14⟩ := H13.putF 27 (w 60 rfl) (((F3.ext E4).other W6 (Or.inr n13)).other W7 (Or.inr n23)) E7 (Or.inr ⟨(w 61 rfl), rfl, rfl⟩) (w 31 rfl) (ty := .object "java/lang/String") (by decide) rfl rfl dC3_24 (by simp)
  exact H14.retV rfl dC3_27 (by decide) (by decide) ⟨rfl, E8, F7.other W8 (Or.inr (Ne.symm n23)), F8⟩
abbrev rm2 : Room := { frames := 2, cells := 4, slots := 72, locals := 39 }
set_option maxRecDepth 65536 in
set_option maxHeartbeats 4000000 in
theorem metC2 {Z : State} {a0 : Array Value} {n0 : Nat} {h : Heap} (hw : ∀ d ∈ tables_1, d.before a0 Z = true) (hO : Old Z n0 h) {g t : Addr} {o1 o2 o3 : Value} (hg : n0 ≤ g) (E : Exa Z h g "com/example/lowr/lowr/model/FormulaText") (F1 : Fld Z h g "com/example/lowr/lowr/model/FormulaText" "text" "Ljava/lang/String;" o1) (F2 : Fld Z h g "com/example/lowr/lowr/model/FormulaText" "formula" "Ljava/lang/Object;" o2) (F3 : Fld Z h g "com/example/lowr/lowr/model/FormulaText" "refusal" "Ljava/lang/String;" o3) (St : Exa Z h t ST) {i : Addr} :
    Met Z [] n0 ⟨"com/example/lowr/lowr/model/FormulaText", "<init>", "(Ljava/lang/String;Ljava/lang/Object;)V"⟩ prog_55_method_1_code 3 none rm2 #[.ref g, .ref t, .ref i] h [g] (fun v h' => v = none ∧ FTx Z h' g (.ref i) .null) := by
  have w : ∀ (i : Nat) {d : Jvm.Cond}, tables_1[i]? = some d → d.before a0 Z = true := fun i d q => hw d (List.mem_of_getElem? q)
  have hEL : EW Z a0 [] := EW.nil
  have wS : ∀ a ∈ Bundle.stringAtoms, a.before a0 Z = true := fun d hd => hw d ((by decide +kernel : ∀ d ∈ Bundle.stringAtoms, d ∈ tables_1) d hd)
  refine Met.of_walk (a0 := a0) pnF hEL hO (allS ⟨E.lt, hg⟩ all0) (L0 := #[.val (.ref g), .val (.ref t), .val (.ref i)]) (fun m => by first | (simp [entryFrame, mkF, argsToLocals, Value.category, maxLocals]; done) | rfl) rfl ?_
  intro k H0
  have H1 := H0.aloadN 1 dC2_0 rfl
  have H2 := H1.aloadN 2 dC2_1 rfl
  have H3 := H2.aloadN 3 dC2_2 rfl
  obtain ⟨a4, h4, E4, H4⟩ := H3.ldcO 5 (w 43 rfl) wS hEL dC2_3 (n := 32) (by decide) (by decide) (by decide) (by decide)
  obtain ⟨_, h5, ⟨rfl, e5⟩, K5, H5⟩ := H4.callS 8 (z := ⟨"java/util/Objects", "requireNonNull", "(Ljava/lang/Object;Ljava/lang/String;)Ljava/lang/Object;"⟩) (w 46 rfl) (w 47 rfl) (w 48 rfl) (w 49 rfl) (by decide) (argsL := [(.ref i), (.ref a4)]) (rest := [(.ref t), (.ref g)]) (Paid.of_met (W := 2) (metR hw H4.oldO) (w 49 rfl) (w 48 rfl) hEL (by decide) (by decide)) (lenOf pdR rfl) rfl (Nat.le_of_eq rfl) dC2_5 (by decide) (by decide) all0
  subst e5
  have H6 := H5.anull 9 dC2_8
  obtain ⟨_, h6, ⟨rfl, T6⟩, K6, H7⟩ := H6.callI 12 (z := ⟨"com/example/lowr/lowr/model/FormulaText", "<init>", "(Ljava/lang/String;Ljava/lang/Object;Ljava/lang/String;)V"⟩) rfl (w 50 rfl) (w 51 rfl) (w 52 rfl) (by decide) (a := g) (argsL := [(.ref t), (.ref i), .null]) (rest := []) (Paid.of_met (W := 0) (metC3a hw H6.oldO hg (E.ext E4) (F1.ext E4) (F2.ext E4) (F3.ext E4) (St.ext E4)) (w 52 rfl) (w 32 rfl) hEL (by decide) (by decide)) (lenOf pdC3 rfl) rfl (Nat.le_of_eq rfl) dC2_9 (by decide) (by decide) (by simp)
  exact H7.retV rfl dC2_12 (by decide) (by decide) ⟨rfl, T6⟩
abbrev rmU : Room := { frames := 2, cells := 5, slots := 75, locals := 40 }
set_option maxRecDepth 65536 in
set_option maxHeartbeats 4000000 in
theorem metU {Z : State} {a0 : Array Value} {n0 : Nat} {h : Heap} (hw : ∀ d ∈ tables_1, d.before a0 Z = true) (hO : Old Z n0 h) {t u : Addr} (St : Exa Z h t ST) (Su : Exa Z h u ST) :
    Met Z [] n0 ⟨"com/example/lowr/lowr/model/FormulaText", "unreadable", "(Ljava/lang/String;Ljava/lang/String;)Lcom/example/lowr/lowr/model/FormulaText;"⟩ prog_55_method_3_code 2 (some (.object "com/example/lowr/lowr/model/FormulaText")) rmU #[.ref t, .ref u] h [] (fun v h' => ∃ g, v = some (.ref g) ∧ FTx Z h' g .null (.ref u)) := by
  have w : ∀ (i : Nat) {d : Jvm.Cond}, tables_1[i]? = some d → d.before a0 Z = true := fun i d q => hw d (List.mem_of_getElem? q)
  have hEL : EW Z a0 [] := EW.nil
  have wS : ∀ a ∈ Bundle.stringAtoms, a.before a0 Z = true := fun d hd => hw d ((by decide +kernel : ∀ d ∈ Bundle.stringAtoms, d ∈ tables_1) d hd)
  refine Met.of_walk (a0 := a0) pnF hEL hO all0 (L0 := #[.val (.ref t), .val (.ref u)]) (fun m => by first | (simp [entryFrame, mkF, argsToLocals, Value.category, maxLocals]; done) | rfl) rfl ?_
  intro k H0
  obtain ⟨b1, h1, g1, E1, A1, D1, H1⟩ := H0.newO 3 (w 103 rfl) (w 31 rfl) (w 32 rfl) dU_0 (by decide) (by decide)
  have F10 : Fld Z h1 b1 "com/example/lowr/lowr/model/FormulaText" "text" "Ljava/lang/String;" .null := D1 (Or.inr (w 57 rfl)) (ty := .object "java/lang/String") (by decide)
  have F11 : Fld Z h1 b1 "com/example/lowr/lowr/model/FormulaText" "formula" "Ljava/lang/Object;" .null := D1 (Or.inr (w 59 rfl)) (ty := .object "java/lang/Object") (by decide)
  have F12 : Fld Z h1 b1 "com/example/lowr/lowr/model/FormulaText" "refusal" "Ljava/lang/String;" .null := D1 (Or.inr (w 61 rfl)) (ty := .object "java/lang/String") (by decide)
  have H2 := H1.dup 4 dU_3
  have H3 := H2.aloadN 5 dU_4 rfl
  have H4 := H3.anull 6 dU_5
  have H5 := H4.aloadN 7 dU_6 rfl
  obtain ⟨a4, h4, E4, H6⟩ := H5.ldcO 9 (w 104 rfl) wS hEL dU_7 (n := 32) (by decide) (by decide) (by decide) (by decide)
  obtain ⟨_, h5, ⟨rfl, e5⟩, K5, H7⟩ := H6.callS 12 (z := ⟨"java/util/Objects", "requireNonNull", "(Ljava/lang/Object;Ljava/lang/String;)Ljava/lang/Object;"⟩) (w 46 rfl) (w 47 rfl) (w 48 rfl) (w 49 rfl) (by decide) (argsL := [(.ref u), (.ref a4)]) (rest := [.null, (.ref t), (.ref b1), (.ref b1)]) (Paid.of_met (W := 4) (metR hw H6.oldO) (w 49 rfl) (w 48 rfl) hEL (by decide) (by decide)) (lenOf pdR rfl) rfl (Nat.le_of_eq rfl) dU_9 (by decide) (by decide) all0
  subst e5
  have H8 := H7.castY 15 (w 55 rfl) (Ins.self ((Su.ext E1).ext E4)) dU_12
  obtain ⟨_, h6, ⟨rfl, T6⟩, K6, H9⟩ := H8.callI 18 (z := ⟨"com/example/lowr/lowr/model/FormulaText", "<init>", "(Ljava/lang/String;Ljava/lang/Object;Ljava/lang/String;)V"⟩) rfl (w 50 rfl) (w 51 rfl) (w 52 rfl) (by decide) (a := b1) (argsL := [(.ref t), .null, (.ref u)]) (rest := [(.ref b1)]) (Paid.of_met (W := 1) (metC3b hw H8.oldO (H8.sf_lt (by simp)).2 (A1.ext E4) (F10.ext E4) (F11.ext E4) (F12.ext E4) ((St.ext E1).ext E4)) (w 52 rfl) (w 32 rfl) hEL (by decide) (by decide)) (lenOf pdC3 rfl) rfl (Nat.le_of_eq rfl) dU_15 (by decide) (by decide) (by simp)
  exact H9.retA rfl rfl rfl dU_18 (by decide) (by decide) ⟨b1, rfl, T6⟩
set_option maxRecDepth 65536 in
set_option maxHeartbeats 4000000 in
theorem metIRa {Z : State} {a0 : Array Value} {n0 : Nat} {h : Heap} (hw : ∀ d ∈ tables_1, d.before a0 Z = true) (hO : Old Z n0 h) {g i : Addr} (T : FTx Z h g (.ref i) (.null)) :
    Met Z [] n0 ⟨"com/example/lowr/lowr/model/FormulaText", "isReadable", "()Z"⟩ prog_55_method_5_code 1 (some .boolean) rm0 #[.ref g] h [] (fun v h' => v = some (.int 1) ∧ h' = h) := by
  have w : ∀ (i : Nat) {d : Jvm.Cond}, tables_1[i]? = some d → d.before a0 Z = true := fun i d q => hw d (List.mem_of_getElem? q)
  have hEL : EW Z a0 [] := EW.nil
  refine Met.of_walk (a0 := a0) pnF hEL hO all0 (L0 := #[.val (.ref g)]) (fun m => by first | (simp [entryFrame, mkF, argsToLocals, Value.category, maxLocals]; done) | rfl) rfl ?_
  intro k H0
  have H1 := H0.aloadN 1 dIR_0 rfl
  have H2 := H1.getF 4 (w 58 rfl) T.2.1 dIR_1
  have H3 := H2.nullNo 7 dIR_4
  have H4 := H3.iconst 8 (1 : Int32) dIR_7
  have H5 := H4.goto 12 dIR_8
  exact H5.retI rfl rfl (by simp) dIR_12 (by decide) (by decide) ⟨rfl, rfl⟩
set_option maxRecDepth 65536 in
set_option maxHeartbeats 4000000 in
theorem metIRb {Z : State} {a0 : Array Value} {n0 : Nat} {h : Heap} (hw : ∀ d ∈ tables_1, d.before a0 Z = true) (hO : Old Z n0 h) {g u : Addr} (T : FTx Z h g (.null) (.ref u)) :
    Met Z [] n0 ⟨"com/example/lowr/lowr/model/FormulaText", "isReadable", "()Z"⟩ prog_55_method_5_code 1 (some .boolean) rm0 #[.ref g] h [] (fun v h' => v = some (.int 0) ∧ h' = h) := by
  have w : ∀ (i : Nat) {d : Jvm.Cond}, tables_1[i]? = some d → d.before a0 Z = true := fun i d q => hw d (List.mem_of_getElem? q)
  have hEL : EW Z a0 [] := EW.nil
  refine Met.of_walk (a0 := a0) pnF hEL hO all0 (L0 := #[.val (.ref g)]) (fun m => by first | (simp [entryFrame, mkF, argsToLocals, Value.category, maxLocals]; done) | rfl) rfl ?_
  intro k H0
  have H1 := H0.aloadN 1 dIR_0 rfl
  have H2 := H1.getF 4 (w 58 rfl) T.2.1 dIR_1
  have H3 := H2.nullYes 11 dIR_4
  have H4 := H3.iconst 12 (0 : Int32) dIR_11
  exact H4.retI rfl rfl (by simp) dIR_12 (by decide) (by decide) ⟨rfl, rfl⟩
set_option maxRecDepth 65536 in
set_option maxHeartbeats 4000000 in
theorem metGR {Z : State} {a0 : Array Value} {n0 : Nat} {h : Heap} (hw : ∀ d ∈ tables_1, d.before a0 Z = true) (hO : Old Z n0 h) {g : Addr} {F U : Value} (hU : U.isRef = true) (T : FTx Z h g F U) :
    Met Z [] n0 ⟨"com/example/lowr/lowr/model/FormulaText", "getRefusal", "()Ljava/lang/String;"⟩ prog_55_method_7_code 1 (some (.object "java/lang/String")) rm0 #[.ref g] h [] (fun v h' => v = some U ∧ h' = h) := by
  have w : ∀ (i : Nat) {d : Jvm.Cond}, tables_1[i]? = some d → d.before a0 Z = true := fun i d q => hw d (List.mem_of_getElem? q)
  have hEL : EW Z a0 [] := EW.nil
  refine Met.of_walk (a0 := a0) pnF hEL hO all0 (L0 := #[.val (.ref g)]) (fun m => by first | (simp [entryFrame, mkF, argsToLocals, Value.category, maxLocals]; done) | rfl) rfl ?_
  intro k H0
  have H1 := H0.aloadN 1 dGR_0 rfl
  have H2 := H1.getF 4 (w 60 rfl) T.2.2 dGR_1
  exact H2.retA rfl rfl hU dGR_4 (by decide) (by decide) ⟨rfl, rfl⟩
set_option maxRecDepth 65536 in
set_option maxHeartbeats 4000000 in
theorem metGF {Z : State} {a0 : Array Value} {n0 : Nat} {h : Heap} (hw : ∀ d ∈ tables_1, d.before a0 Z = true) (hO : Old Z n0 h) {g i : Addr} {U : Value} (T : FTx Z h g (.ref i) U) :
    Met Z [] n0 ⟨"com/example/lowr/lowr/model/FormulaText", "getFormula", "()Ljava/lang/Object;"⟩ prog_55_method_6_code 1 (some (.object "java/lang/Object")) rm0 #[.ref g] h [] (fun v h' => v = some (.ref i) ∧ h' = h) := by
  have w : ∀ (i : Nat) {d : Jvm.Cond}, tables_1[i]? = some d → d.before a0 Z = true := fun i d q => hw d (List.mem_of_getElem? q)
  have hEL : EW Z a0 [] := EW.nil
  refine Met.of_walk (a0 := a0) pnF hEL hO all0 (L0 := #[.val (.ref g)]) (fun m => by first | (simp [entryFrame, mkF, argsToLocals, Value.category, maxLocals]; done) | rfl) rfl ?_
  intro k H0
  have H1 := H0.aloadN 1 dGF_0 rfl
  have H2 := H1.getF 4 (w 58 rfl) T.2.1 dGF_1
  have H3 := H2.nonnullYes 19 dGF_4
  have H4 := H3.aloadN 20 dGF_19 rfl
  have H5 := H4.getF 23 (w 58 rfl) T.2.1 dGF_20
  exact H5.retA rfl rfl rfl dGF_23 (by decide) (by decide) ⟨rfl, rfl⟩
set_option maxRecDepth 65536 in
set_option maxHeartbeats 4000000 in
theorem metIv {Z : State} {a0 : Array Value} {n0 : Nat} {h : Heap} (hw : ∀ d ∈ tables_1, d.before a0 Z = true) (hO : Old Z n0 h) {o : Addr} {i : Int32} (F : Fld Z h o "java/lang/Integer" "value" "I" (.int i)) :
    Met Z [] n0 ⟨"java/lang/Integer", "intValue", "()I"⟩ jdk_33_method_27_code 1 (some .int) rm0 #[.ref o] h [] (fun v h' => v = some (.int i) ∧ h' = h) := by
  have w : ∀ (i : Nat) {d : Jvm.Cond}, tables_1[i]? = some d → d.before a0 Z = true := fun i d q => hw d (List.mem_of_getElem? q)
  have hEL : EW Z a0 [] := EW.nil
  refine Met.of_walk (a0 := a0) pnI hEL hO all0 (L0 := #[.val (.ref o)]) (fun m => by first | (simp [entryFrame, mkF, argsToLocals, Value.category, maxLocals]; done) | rfl) rfl ?_
  intro k H0
  have H1 := H0.aloadN 1 dIv_0 rfl
  have H2 := H1.getF 4 (w 84 rfl) F dIv_1
  exact H2.retI rfl rfl (by simp) dIv_4 (by decide) (by decide) ⟨rfl, rfl⟩
abbrev rmN : Room := { frames := 1, cells := 0, slots := 0, locals := 12 }
abbrev rmIi : Room := { frames := 2, cells := 0, slots := 0, locals := 24 }
abbrev rmV : Room := { frames := 3, cells := 1, slots := 1, locals := 38 }
set_option maxRecDepth 65536 in
set_option maxHeartbeats 4000000 in
theorem metNu {Z : State} {a0 : Array Value} {n0 : Nat} {h : Heap} (hw : ∀ d ∈ tables_1, d.before a0 Z = true) (hO : Old Z n0 h) {o : Addr} :
    Met Z [] n0 ⟨"java/lang/Number", "<init>", "()V"⟩ jdk_18_method_1_code 1 none rmN #[.ref o] h [] (fun v h' => v = none ∧ h' = h) := by
  have w : ∀ (i : Nat) {d : Jvm.Cond}, tables_1[i]? = some d → d.before a0 Z = true := fun i d q => hw d (List.mem_of_getElem? q)
  have hEL : EW Z a0 [] := EW.nil
  refine Met.of_walk (a0 := a0) pnN hEL hO all0 (L0 := #[.val (.ref o)]) (fun m => by first | (simp [entryFrame, mkF, argsToLocals, Value.category, maxLocals]; done) | rfl) rfl ?_
  intro k H0
  have H1 := H0.aloadN 1 dNu_0 rfl
  have H2 := H1.initO 4 (w 116 rfl) (w 12 rfl) (w 13 rfl) dNu_1 (by decide) (W := 0) (by decide) (by decide)
  exact H2.retV rfl dNu_4 (by decide) (by decide) ⟨rfl, rfl⟩
set_option maxRecDepth 65536 in
set_option maxHeartbeats 4000000 in
theorem metIi {Z : State} {a0 : Array Value} {n0 : Nat} {h : Heap} (hw : ∀ d ∈ tables_1, d.before a0 Z = true) (hO : Old Z n0 h) {o : Addr} {i : Int32} {u : Value} (hg : n0 ≤ o) (E : Exa Z h o "java/lang/Integer") (F : Fld Z h o "java/lang/Integer" "value" "I" u) :
    Met Z [] n0 ⟨"java/lang/Integer", "<init>", "(I)V"⟩ jdk_33_method_23_code 2 none rmIi #[.ref o, .int i] h [o] (fun v h' => v = none ∧ Exa Z h' o "java/lang/Integer" ∧ Fld Z h' o "java/lang/Integer" "value" "I" (.int i)) := by
  have w : ∀ (i : Nat) {d : Jvm.Cond}, tables_1[i]? = some d → d.before a0 Z = true := fun i d q => hw d (List.mem_of_getElem? q)
  have hEL : EW Z a0 [] := EW.nil
  refine Met.of_walk (a0 := a0) pnI hEL hO (allS ⟨E.lt, hg⟩ all0) (L0 := #[.val (.ref o), .val (.int i)]) (fun m => by first | (simp [entryFrame, mkF, argsToLocals, Value.category, maxLocals]; done) | rfl) rfl ?_
  intro k H0
  have H1 := H0.aloadN 1 dIi_0 rfl
  obtain ⟨_, h1, ⟨rfl, e1⟩, K1, H2⟩ := H1.callI 4 (z := ⟨"java/lang/Number", "<init>", "()V"⟩) rfl (w 110 rfl) (w 111 rfl) (w 115 rfl) (by decide) (a := o) (argsL := []) (rest := []) (Paid.of_met (W := 0) (metNu hw H1.oldO) (w 115 rfl) (w 114 rfl) hEL (by decide) (by decide)) (lenOf pdNu rfl) rfl (Nat.le_of_eq rfl) dIi_1 (by decide) (by decide) all0
  subst e1
  have H3 := H2.aloadN 5 dIi_4 rfl
  have H4 := H3.iloadN 6 dIi_5 rfl
  obtain ⟨h2, W2, K2, E2, F2, H5⟩ := H4.putF 9 (w 84 rfl) F E (Or.inr ⟨(w 85 rfl), rfl, rfl⟩) (w 106 rfl) (ty := .int) (by decide) rfl rfl dIi_6 (by simp)
  exact H5.retV rfl dIi_9 (by decide) (by decide) ⟨rfl, E2, F2⟩
theorem idx128 {i : Int32} (h1 : ¬ i < -128) (h2 : ¬ 127 < i) : ¬ (i + 128) < 0 ∧ (i + 128) < 256 := by
  have c := c_iadd i 128
  have r := rng32 (i + 128)
  rw [Int32.lt_iff_toInt_lt] at h1 h2
  have e1 : (-128 : Int32).toInt = -128 := rfl
  have e2 : (127 : Int32).toInt = 127 := rfl
  have e3 : (128 : Int32).toInt = 128 := rfl
  have e4 : (256 : Int32).toInt = 256 := rfl
  have e5 : (0 : Int32).toInt = 0 := rfl
  constructor <;> rw [Int32.lt_iff_toInt_lt] <;> omega
theorem sub128 (i : Int32) : i + 128 - 128 = i := by simp
set_option maxRecDepth 65536 in
set_option maxHeartbeats 4000000 in
theorem metV {Z : State} {a0 : Array Value} {n0 : Nat} {h : Heap} (hw : ∀ d ∈ tables_1, d.before a0 Z = true) (hO : Old Z n0 h) {ca : Addr} {cc : Cell} (Sh : Sta Z Z.heap "java/lang/Integer$IntegerCache" "high" "I" (.int 127)) (Sa : Sta Z Z.heap "java/lang/Integer$IntegerCache" "cache" "[Ljava/lang/Integer;" (.ref ca)) (Bx : Bxs Z ca cc "java/lang/Integer" "I" 256 (fun j => .int (j - 128))) (i : Int32) :
    Met Z [] n0 ⟨"java/lang/Integer", "valueOf", "(I)Ljava/lang/Integer;"⟩ jdk_33_method_22_code 1 (some (.object "java/lang/Integer")) rmV #[.int i] h [] (fun v h' => ∃ o, v = some (.ref o) ∧ Exa Z h' o "java/lang/Integer" ∧ Fld Z h' o "java/lang/Integer" "value" "I" (.int i)) := by
  have w : ∀ (i : Nat) {d : Jvm.Cond}, tables_1[i]? = some d → d.before a0 Z = true := fun i d q => hw d (List.mem_of_getElem? q)
  have hEL : EW Z a0 [] := EW.nil
  refine Met.of_walk (a0 := a0) pnI hEL hO all0 (L0 := #[.val (.int i)]) (fun m => by first | (simp [entryFrame, mkF, argsToLocals, Value.category, maxLocals]; done) | rfl) rfl ?_
  intro k H0
  by_cases hA : i < -128 ∨ 127 < i
  · have HN : Here k rmV Z [] n0 ⟨"java/lang/Integer", "valueOf", "(I)Ljava/lang/Integer;"⟩ jdk_33_method_22_code (some (.object "java/lang/Integer")) h [] h 23 #[.val (.int i)] [] 0 0 [] := by
      by_cases h1 : i < -128
      · have H1 := H0.iloadN 1 dV_0 rfl
        have H2 := H1.bipush 3 (-128 : Int32) dV_1
        have H3 := H2.icmpYes 23 dV_3 (XT.ii_lt_t h1)
        exact H3
      · have H4 := H0.iloadN 1 dV_0 rfl
        have H5 := H4.bipush 3 (-128 : Int32) dV_1
        have H6 := H5.icmpNo 6 dV_3 (XT.ii_lt_f h1)
        have H7 := H6.iloadN 7 dV_6 rfl
        have H8 := H7.getS 10 (w 37 rfl) (staOld Sh H7.oldO) dV_7
        have H9 := H8.icmpYes 23 dV_10 (XT.ii_gt_t (hA.resolve_left h1))
        exact H9
    obtain ⟨b1, h1, g1, E1, A1, D1, H10⟩ := HN.newO 26 (w 105 rfl) (w 106 rfl) (w 35 rfl) dV_23 (by decide) (by decide)
    have F1 : Fld Z h1 b1 "java/lang/Integer" "value" "I" (.int 0) := D1 (Or.inr (w 85 rfl)) (ty := .int) (by decide)
    have H11 := H10.dup 27 dV_26
    have H12 := H11.iloadN 28 dV_27 rfl
    obtain ⟨_, h2, ⟨rfl, A2, F2⟩, K2, H13⟩ := H12.callI 31 (z := ⟨"java/lang/Integer", "<init>", "(I)V"⟩) rfl (w 107 rfl) (w 108 rfl) (w 109 rfl) (by decide) (a := b1) (argsL := [(.int i)]) (rest := [(.ref b1)]) (Paid.of_met (W := 1) (metIi hw H12.oldO (H12.sf_lt (by simp)).2 A1 F1) (w 109 rfl) (w 35 rfl) hEL (by decide) (by decide)) (lenOf pdIi rfl) rfl (Nat.le_of_eq rfl) dV_28 (by decide) (by decide) (by simp)
    exact H13.retA rfl rfl rfl dV_31 (by decide) (by decide) ⟨b1, rfl, A2, F2⟩
  · have H14 := H0.iloadN 1 dV_0 rfl
    have H15 := H14.bipush 3 (-128 : Int32) dV_1
    have H16 := H15.icmpNo 6 dV_3 (XT.ii_lt_f (fun z => hA (Or.inl z)))
    have H17 := H16.iloadN 7 dV_6 rfl
    have H18 := H17.getS 10 (w 37 rfl) (staOld Sh H17.oldO) dV_7
    have H19 := H18.icmpNo 13 dV_10 (XT.ii_gt_f (fun z => hA (Or.inr z)))
    have H20 := H19.getS 16 (w 39 rfl) (staOld Sa H19.oldO) dV_13
    have H21 := H20.iloadN 17 dV_16 rfl
    have H22 := H21.sipush 20 (128 : Int32) dV_17
    have H23 := H22.iadd 21 dV_20
    have hj := idx128 (fun z => hA (Or.inl z)) (fun z => hA (Or.inr z))
    have hin := inb_of Bx.2.1 hj
    obtain ⟨o, o1, o2, o3⟩ := Bx.2.2.2 _ hin
    simp only [sub128] at o3
    have H24 := H23.aaloadA 22 (Bx.1.ext H23.old) rfl hin o1 dV_21
    exact H24.retA rfl rfl rfl dV_22 (by decide) (by decide) ⟨o, rfl, o2.ext H24.old, o3.ext H24.old⟩
abbrev rmTB : Room := { frames := 0, cells := 1, slots := 1, locals := 0 }
abbrev rmSB : Room := { frames := 1, cells := 0, slots := 0, locals := 12 }
abbrev rmSv : Room := { frames := 2, cells := 2, slots := 5, locals := 27 }
set_option maxRecDepth 65536 in
set_option maxHeartbeats 4000000 in
theorem metCE {Z : State} {a0 : Array Value} {n0 : Nat} {h : Heap} (hw : ∀ d ∈ tables_1, d.before a0 Z = true) (hO : Old Z n0 h) {c : Int32} (hc : C8 c) :
    Met Z [] n0 ⟨"java/lang/StringLatin1", "canEncode", "(C)Z"⟩ jdk_43_method_3_code 1 (some .boolean) rm0 #[.int c] h [] (fun v h' => v = some (.int 1) ∧ h' = h) := by
  have w : ∀ (i : Nat) {d : Jvm.Cond}, tables_1[i]? = some d → d.before a0 Z = true := fun i d q => hw d (List.mem_of_getElem? q)
  have hEL : EW Z a0 [] := EW.nil
  refine Met.of_walk (a0 := a0) pn1 hEL hO all0 (L0 := #[.val (.int c)]) (fun m => by first | (simp [entryFrame, mkF, argsToLocals, Value.category, maxLocals]; done) | rfl) rfl ?_
  intro k H0
  have H1 := H0.iloadN 1 dCE_0 rfl
  have H2 := H1.sipush 4 (255 : Int32) dCE_1
  have H3 := H2.icmpNo 7 dCE_4 (XT.ii_gt_f hc.2)
  have H4 := H3.iconst 8 (1 : Int32) dCE_7
  have H5 := H4.goto 12 dCE_8
  exact H5.retI rfl rfl (by simp) dCE_12 (by decide) (by decide) ⟨rfl, rfl⟩
set_option maxRecDepth 65536 in
set_option maxHeartbeats 4000000 in
theorem metTB {Z : State} {a0 : Array Value} {n0 : Nat} {h : Heap} (hw : ∀ d ∈ tables_1, d.before a0 Z = true) (hO : Old Z n0 h) {c : Int32} :
    Met Z [] n0 ⟨"java/lang/StringLatin1", "toBytes", "(C)[B"⟩ jdk_43_method_46_code 1 (some (.array .byte)) rmTB #[.int c] h [] (fun v h' => ∃ b, v = some (.ref b)) := by
  have w : ∀ (i : Nat) {d : Jvm.Cond}, tables_1[i]? = some d → d.before a0 Z = true := fun i d q => hw d (List.mem_of_getElem? q)
  have hEL : EW Z a0 [] := EW.nil
  refine Met.of_walk (a0 := a0) pn1 hEL hO all0 (L0 := #[.val (.int c)]) (fun m => by first | (simp [entryFrame, mkF, argsToLocals, Value.category, maxLocals]; done) | rfl) rfl ?_
  intro k H0
  have H1 := H0.iconst 1 (1 : Int32) dTB_0
  obtain ⟨b1, h1, k1, g1, E1, V1, H2⟩ := H1.newP 3 (ty := .byte) rfl (w 19 rfl) dTB_1 (by decide) (cap := 1) (by decide) (by decide) (by decide) (by decide)
  have H3 := H2.dup 4 dTB_3
  have H4 := H3.iconst 5 (0 : Int32) dTB_4
  have H5 := H4.iloadN 6 dTB_5 rfl
  have H6 := H5.i2b 7 dTB_6
  obtain ⟨h2, K2, V2, H7⟩ := H6.stB 8 V1 0 ⟨by decide, by decide⟩ rfl (by decide) dTB_7 (by simp)
  exact H7.retA rfl rfl rfl dTB_8 (by decide) (by decide) ⟨b1, rfl⟩
set_option maxRecDepth 65536 in
set_option maxHeartbeats 4000000 in
theorem metSB {Z : State} {a0 : Array Value} {n0 : Nat} {h : Heap} (hw : ∀ d ∈ tables_1, d.before a0 Z = true) (hO : Old Z n0 h) {x b : Addr} {o1 o2 : Value} (hg : n0 ≤ x) (E : Exa Z h x ST) (F1 : Fld Z h x ST "value" "[B" o1) (F2 : Fld Z h x ST "coder" "B" o2) :
    Met Z [] n0 ⟨"java/lang/String", "<init>", "([BB)V"⟩ jdk_42_method_151_code 3 none rmSB #[.ref x, .ref b, .int 0] h [x] (fun v h' => v = none ∧ Exa Z h' x ST) := by
  have w : ∀ (i : Nat) {d : Jvm.Cond}, tables_1[i]? = some d → d.before a0 Z = true := fun i d q => hw d (List.mem_of_getElem? q)
  have hEL : EW Z a0 [] := EW.nil
  refine Met.of_walk (a0 := a0) pnS hEL hO (allS ⟨E.lt, hg⟩ all0) (L0 := #[.val (.ref x), .val (.ref b), .val (.int (0 : Int32))]) (fun m => by first | (simp [entryFrame, mkF, argsToLocals, Value.category, maxLocals]; done) | rfl) rfl ?_
  intro k H0
  have nvc : RoadKit.slotOf Z ST "coder" "B" ≠ RoadKit.slotOf Z ST "value" "[B" := slot_ne (Or.inr (w 27 rfl)) (Or.inr (w 29 rfl)) (by decide) (t := .byte) (by decide) (t' := .array .byte) (by decide)
  have H1 := H0.aloadN 1 dSB_0 rfl
  have H2 := H1.initO 4 (w 11 rfl) (w 12 rfl) (w 13 rfl) dSB_1 (by decide) (W := 0) (by decide) (by decide)
  have H3 := H2.aloadN 5 dSB_4 rfl
  have H4 := H3.aloadN 6 dSB_5 rfl
  obtain ⟨h1, W1, K1, E1, F1, H5⟩ := H4.putF 9 (w 28 rfl) F1 E (Or.inr ⟨(w 29 rfl), rfl, rfl⟩) (w 2 rfl) (ty := .array .byte) (by decide) rfl rfl dSB_6 (by simp)
  have H6 := H5.aloadN 10 dSB_9 rfl
  have H7 := H6.iloadN 11 dSB_10 rfl
  obtain ⟨h2, W2, K2, E2, F2, H8⟩ := H7.putF 14 (w 26 rfl) (F2.other W1 (Or.inr nvc)) E1 (Or.inr ⟨(w 27 rfl), rfl, rfl⟩) (w 2 rfl) (ty := .byte) (by decide) rfl rfl dSB_11 (by simp)
  exact H8.retV rfl dSB_14 (by decide) (by decide) ⟨rfl, E2⟩
set_option maxRecDepth 65536 in
set_option maxHeartbeats 4000000 in
theorem metSv {Z : State} {a0 : Array Value} {n0 : Nat} {h : Heap} (hw : ∀ d ∈ tables_1, d.before a0 Z = true) (hO : Old Z n0 h) {zc : Int32} (Sc : Sta Z Z.heap ST "COMPACT_STRINGS" "Z" (.int zc)) (hzc : ¬ zc = 0) {c : Int32} (hc : C8 c) :
    Met Z [] n0 ⟨"java/lang/String", "valueOf", "(C)Ljava/lang/String;"⟩ jdk_42_method_139_code 1 (some (.object "java/lang/String")) rmSv #[.int c] h [] (fun v h' => ∃ u, v = some (.ref u) ∧ Exa Z h' u ST) := by
  have w : ∀ (i : Nat) {d : Jvm.Cond}, tables_1[i]? = some d → d.before a0 Z = true := fun i d q => hw d (List.mem_of_getElem? q)
  have hEL : EW Z a0 [] := EW.nil
  refine Met.of_walk (a0 := a0) pnS hEL hO all0 (L0 := #[.val (.int c)]) (fun m => by first | (simp [entryFrame, mkF, argsToLocals, Value.category, maxLocals]; done) | rfl) rfl ?_
  intro k H0
  have H1 := H0.getS 3 (w 14 rfl) (staOld Sc H0.oldO) dSv_0
  have H2 := H1.ifNo 6 dSv_3 (XT.i0_eq_f hzc)
  have H3 := H2.iloadN 7 dSv_6 rfl
  obtain ⟨_, h1, ⟨rfl, e1⟩, K1, H4⟩ := H3.callS 10 (z := ⟨"java/lang/StringLatin1", "canEncode", "(C)Z"⟩) (w 89 rfl) (w 90 rfl) (w 91 rfl) (w 92 rfl) (by decide) (argsL := [(.int c)]) (rest := []) (Paid.of_met (W := 0) (metCE hw H3.oldO hc) (w 92 rfl) (w 91 rfl) hEL (by decide) (by decide)) (lenOf pdCE rfl) rfl (Nat.le_of_eq rfl) dSv_7 (by decide) (by decide) all0
  subst e1
  have H5 := H4.ifNo 13 dSv_10 (XT.i0_eq_f (by decide))
  obtain ⟨b2, h2, g2, E2, A2, D2, H6⟩ := H5.newO 16 (w 93 rfl) (w 2 rfl) (w 3 rfl) dSv_13 (by decide) (by decide)
  have H7 := H6.dup 17 dSv_16
  have H8 := H7.iloadN 18 dSv_17 rfl
  have F2 : Fld Z h2 b2 ST "value" "[B" .null := D2 (Or.inr (w 29 rfl)) (ty := .array .byte) (by decide)
  have G2 : Fld Z h2 b2 ST "coder" "B" (.int 0) := D2 (Or.inr (w 27 rfl)) (ty := .byte) (by decide)
  obtain ⟨_, h3, ⟨b3, rfl⟩, K3, H9⟩ := H8.callS 21 (z := ⟨"java/lang/StringLatin1", "toBytes", "(C)[B"⟩) (w 94 rfl) (w 95 rfl) (w 91 rfl) (w 96 rfl) (by decide) (argsL := [(.int c)]) (rest := [(.ref b2), (.ref b2)]) (Paid.of_met (W := 2) (metTB hw H8.oldO) (w 96 rfl) (w 91 rfl) hEL (by decide) (by decide)) (lenOf pdTB rfl) rfl (Nat.le_of_eq rfl) dSv_18 (by decide) (by decide) all0
  have H10 := H9.iconst 22 (0 : Int32) dSv_21
  have X3 := keepExt K3
  obtain ⟨_, h4, ⟨rfl, A4⟩, K4, H11⟩ := H10.callI 25 (z := ⟨"java/lang/String", "<init>", "([BB)V"⟩) rfl (w 97 rfl) (w 98 rfl) (w 99 rfl) (by decide) (a := b2) (argsL := [(.ref b3), (.int (0 : Int32))]) (rest := [(.ref b2)]) (Paid.of_met (W := 1) (metSB hw H10.oldO (H10.sf_lt (by simp)).2 (A2.ext X3) (F2.ext X3) (G2.ext X3)) (w 99 rfl) (w 3 rfl) hEL (by decide) (by decide)) (lenOf pdSB rfl) rfl (Nat.le_of_eq rfl) dSv_22 (by decide) (by decide) (by simp)
  exact H11.retA rfl rfl rfl dSv_25 (by decide) (by decide) ⟨b2, rfl, A4⟩
set_option maxRecDepth 65536 in
set_option maxHeartbeats 4000000 in
theorem metL {Z : State} {a0 : Array Value} {n0 : Nat} {h : Heap} (hw : ∀ d ∈ tables_1, d.before a0 Z = true) (hO : Old Z n0 h) {zc : Int32} (Sc : Sta Z Z.heap ST "COMPACT_STRINGS" "Z" (.int zc)) (hzc : ¬ zc = 0)  {ca : Addr} {cc : Cell} (Sh : Sta Z Z.heap "java/lang/Integer$IntegerCache" "high" "I" (.int 127)) (Sa : Sta Z Z.heap "java/lang/Integer$IntegerCache" "cache" "[Ljava/lang/Integer;" (.ref ca)) (Bx : Bxs Z ca cc "java/lang/Integer" "I" 256 (fun j => .int (j - 128))) (p0 p1 p2 p3 p4 : Int32) :
    Met Z [] n0 x code maxLocals ret room_1 #[.int p0, .int p1, .int p2, .int p3, .int p4] h [] (fun v _ => v = some (.int 1)) := by
  have w : ∀ (i : Nat) {d : Jvm.Cond}, tables_1[i]? = some d → d.before a0 Z = true := fun i d q => hw d (List.mem_of_getElem? q)
  have hEL : EW Z a0 [] := EW.nil
  have hws : ∀ d ∈ StrChars.Road.words, d.before a0 Z = true := fun d hd => hw d ((by decide +kernel : ∀ d ∈ StrChars.Road.words, d ∈ tables_1) d hd)
  refine Met.of_walk (a0 := a0) pnL hEL hO all0 (L0 := #[.val (.int p0), .val (.int p1), .val (.int p2), .val (.int p3), .val (.int p4), .unset, .unset, .unset, .unset, .unset]) (fun m => by first | (simp [entryFrame, mkF, argsToLocals, Value.category, maxLocals]; done) | rfl) rfl ?_
  intro k H0
  have H1 := H0.iconst 1 (2 : Int32) at_0
  obtain ⟨b1, h1, k1, g1, E1, V1, H2⟩ := H1.newP 3 (ty := .char) rfl (w 0 rfl) at_1 (by decide) (cap := 2) (by decide) (by decide) (by decide) (by decide)
  have H3 := H2.astore 5 at_3 (L' := #[.val (.int p0), .val (.int p1), .val (.int p2), .val (.int p3), .val (.int p4), .val (.ref b1), .unset, .unset, .unset, .unset]) rfl
  have H4 := H3.aload 7 at_5 rfl
  have H5 := H4.iconst 8 (0 : Int32) at_7
  have H6 := H5.iloadN 9 at_8 rfl
  have H7 := H6.sipush 12 (255 : Int32) at_9
  have H8 := H7.iand 13 at_12
  have H9 := H8.i2c 14 at_13
  generalize hx0 : (p0 &&& (255 : Int32)).toUInt32.toUInt16.toUInt32.toInt32 = x0 at H9
  have c0 : C8 x0 := hx0 ▸ c8m p0
  obtain ⟨h2, K2, V2, H10⟩ := H9.stC 15 V1 0 ⟨by decide, by decide⟩ rfl (by simp) c0.nar at_14 (by simp)
  have H11 := H10.aload 17 at_15 rfl
  have H12 := H11.iconst 18 (1 : Int32) at_17
  have H13 := H12.iloadN 19 at_18 rfl
  have H14 := H13.sipush 22 (255 : Int32) at_19
  have H15 := H14.iand 23 at_22
  have H16 := H15.i2c 24 at_23
  generalize hx1 : (p1 &&& (255 : Int32)).toUInt32.toUInt16.toUInt32.toInt32 = x1 at H16
  have c1 : C8 x1 := hx1 ▸ c8m p1
  obtain ⟨h3, K3, V3, H17⟩ := H16.stC 25 V2 1 ⟨by decide, by decide⟩ rfl (by simp) c1.nar at_24 (by simp)
  obtain ⟨b4, h4, g4, E4, A4, D4, H18⟩ := H17.newO 28 (w 1 rfl) (w 2 rfl) (w 3 rfl) at_25 (by decide) (by decide)
  have H19 := H18.dup 29 at_28
  have H20 := H19.aload 31 at_29 rfl
  have F4 : Fld Z h4 b4 ST "value" "[B" .null := D4 (Or.inr (w 29 rfl)) (ty := .array .byte) (by decide)
  have G4 : Fld Z h4 b4 ST "coder" "B" (.int 0) := D4 (Or.inr (w 27 rfl)) (ty := .byte) (by decide)
  have hp : ∀ c ∈ ([x0, x1] : List Int32), ¬ c < 0 ∧ ¬ (255 : Int32) < c := by
    intro c hc; simp only [List.mem_cons, List.not_mem_nil, or_false] at hc
    rcases hc with rfl | rfl
    · exact c0
    · exact c1
  obtain ⟨_, h5, ⟨rfl, S5⟩, K5, H21⟩ := H20.callI 34 (z := ⟨"java/lang/String", "<init>", "([C)V"⟩) rfl (w 4 rfl) (w 5 rfl) (w 6 rfl) (by decide) (a := b4) (argsL := [.ref b1]) (rest := [.ref b4])
    (payV (W := 1) (cs := [x0, x1]) (n := 2) hEL hws (w 2 rfl) H20.oldO (H20.sf_lt (by simp)).2 A4 F4 G4 (V3.ext E4) Sc hzc rfl rfl (by decide) (by decide) hp (by decide) (by decide)) (lenOf pdC rfl) rfl (Nat.le_of_eq rfl) at_31 (by decide) (by decide) (by simp)
  have H22 := H21.astore 36 at_34 (L' := #[.val (.int p0), .val (.int p1), .val (.int p2), .val (.int p3), .val (.int p4), .val (.ref b1), .val (.ref b4), .unset, .unset, .unset]) rfl
  have H23 := H22.iloadN 37 at_36 rfl
  have H24 := H23.iconst 38 (1 : Int32) at_37
  have H25 := H24.iand 39 at_38
  obtain ⟨md, c_md, HJ⟩ : ∃ md : Int32, (md = 0 ∨ md = 1) ∧ Here k room_1 Z [] n0 x code ret h [] h5 47 #[.val (.int p0), .val (.int p1), .val (.int p2), .val (.int p3), .val (.int p4), .val (.ref b1), .val (.ref b4), .unset, .unset, .unset] [(.int md)] 3 8 [b4, b1] := by
    by_cases hf1 : (p3 &&& (1 : Int32)) = 0
    · have H26 := H25.ifYes 46 at_39 (XT.i0_eq_t hf1)
      have H27 := H26.iconst 47 (0 : Int32) at_46
      exact ⟨(0 : Int32), Or.inl rfl, H27⟩
    · have H28 := H25.ifNo 42 at_39 (XT.i0_eq_f hf1)
      have H29 := H28.iconst 43 (1 : Int32) at_42
      have H30 := H29.goto 47 at_43
      exact ⟨(1 : Int32), Or.inr rfl, H30⟩
  have H31 := HJ
  clear HJ
  have H32 := H31.istore 49 at_47 (L' := #[.val (.int p0), .val (.int p1), .val (.int p2), .val (.int p3), .val (.int p4), .val (.ref b1), .val (.ref b4), .val (.int md), .unset, .unset]) rfl
  have H33 := H32.iload 51 at_49 rfl
  rcases c_md with rfl | rfl
  · have H34 := H33.ifYes 72 at_51 (XT.i0_eq_t rfl)
    have H35 := H34.aload 74 at_72 rfl
    have H36 := H35.iload 76 at_74 rfl
    have H37 := H36.sipush 79 (255 : Int32) at_76
    have H38 := H37.iand 80 at_79
    have H39 := H38.i2c 81 at_80
    generalize hr0 : (p4 &&& (255 : Int32)).toUInt32.toUInt16.toUInt32.toInt32 = r0 at H39
    have cr : C8 r0 := hr0 ▸ c8m p4
    obtain ⟨_, h6, ⟨u, rfl, Su⟩, K6, H40⟩ := H39.callS 84 (z := ⟨"java/lang/String", "valueOf", "(C)Ljava/lang/String;"⟩) (w 86 rfl) (w 87 rfl) (w 3 rfl) (w 88 rfl) (by decide) (argsL := [(.int r0)]) (rest := [(.ref b4)]) (Paid.of_met (W := 1) (metSv hw H39.oldO Sc hzc cr) (w 88 rfl) (w 3 rfl) hEL (by decide) (by decide)) (lenOf pdSv rfl) rfl (Nat.le_of_eq rfl) at_81 (by decide) (by decide) all0
    obtain ⟨_, h7, ⟨g, rfl, T7⟩, K7, H41⟩ := H40.callS 87 (z := ⟨"com/example/lowr/lowr/model/FormulaText", "unreadable", "(Ljava/lang/String;Ljava/lang/String;)Lcom/example/lowr/lowr/model/FormulaText;"⟩) (w 100 rfl) (w 101 rfl) (w 32 rfl) (w 102 rfl) (by decide) (argsL := [(.ref b4), (.ref u)]) (rest := []) (Paid.of_met (W := 0) (metU hw H40.oldO (S5.1.ext (keepExt K6)) Su) (w 102 rfl) (w 32 rfl) hEL (by decide) (by decide)) (lenOf pdU rfl) rfl (Nat.le_of_eq rfl) at_84 (by decide) (by decide) all0
    have H42 := H41.astore 89 at_87 (L' := #[.val (.int p0), .val (.int p1), .val (.int p2), .val (.int p3), .val (.int p4), .val (.ref b1), .val (.ref b4), .val (.int (0 : Int32)), .val (.ref g), .unset]) rfl
    have H43 := H42.aload 91 at_89 rfl
    obtain ⟨_, h8, ⟨rfl, e8⟩, K8, H44⟩ := H43.callV 94 (z := ⟨"com/example/lowr/lowr/model/FormulaText", "isReadable", "()Z"⟩) (z1 := ⟨"com/example/lowr/lowr/model/FormulaText", "isReadable", "()Z"⟩) (C := "com/example/lowr/lowr/model/FormulaText") (w 62 rfl) (w 63 rfl) (w 65 rfl) (w 64 rfl) (by decide) (a := g) T7.1 (argsL := []) (rest := []) (Paid.of_met (W := 0) (metIRb hw H43.oldO T7) (w 66 rfl) (w 32 rfl) hEL (by decide) (by decide)) (lenOf pdIR rfl) rfl (Nat.le_of_eq rfl) at_91 (by decide) (by decide) all0
    subst e8
    have H45 := H44.istore 96 at_94 (L' := #[.val (.int p0), .val (.int p1), .val (.int p2), .val (.int p3), .val (.int p4), .val (.ref b1), .val (.ref b4), .val (.int (0 : Int32)), .val (.ref g), .val (.int (0 : Int32))]) rfl
    have H46 := H45.iload 98 at_96 rfl
    have H47 := H46.iload 100 at_98 rfl
    have H48 := H47.icmpYes 105 at_100 (XT.ii_eq_t rfl)
    have H49 := H48.aload 107 at_105 rfl
    obtain ⟨_, h9, ⟨rfl, e9⟩, K9, H50⟩ := H49.callV 110 (z := ⟨"com/example/lowr/lowr/model/FormulaText", "getRefusal", "()Ljava/lang/String;"⟩) (z1 := ⟨"com/example/lowr/lowr/model/FormulaText", "getRefusal", "()Ljava/lang/String;"⟩) (C := "com/example/lowr/lowr/model/FormulaText") (w 67 rfl) (w 68 rfl) (w 70 rfl) (w 69 rfl) (by decide) (a := g) T7.1 (argsL := []) (rest := []) (Paid.of_met (W := 0) (metGR hw H49.oldO rfl T7) (w 71 rfl) (w 32 rfl) hEL (by decide) (by decide)) (lenOf pdGR rfl) rfl (Nat.le_of_eq rfl) at_107 (by decide) (by decide) all0
    subst e9
    have H51 := H50.nonnullYes 117 at_110
    have H52 := H51.iconst 118 (0 : Int32) at_117
    have H53 := H52.iload 120 at_118 rfl
    have H54 := H53.icmpYes 125 at_120 (XT.ii_eq_t rfl)
    have H55 := H54.iload 127 at_125 rfl
    have H56 := H55.ifYes 151 at_127 (XT.i0_eq_t rfl)
    have H57 := H56.iconst 152 (1 : Int32) at_151
    exact H57.retI rfl rfl (by simp) at_152 (by decide) (by decide) rfl
  · have H58 := H33.ifNo 54 at_51 (XT.i0_eq_f (by decide))
    obtain ⟨b6, h6, g6, E6, A6, D6, H59⟩ := H58.newO 57 (w 30 rfl) (w 31 rfl) (w 32 rfl) at_54 (by decide) (by decide)
    have F60 : Fld Z h6 b6 "com/example/lowr/lowr/model/FormulaText" "text" "Ljava/lang/String;" .null := D6 (Or.inr (w 57 rfl)) (ty := .object "java/lang/String") (by decide)
    have F61 : Fld Z h6 b6 "com/example/lowr/lowr/model/FormulaText" "formula" "Ljava/lang/Object;" .null := D6 (Or.inr (w 59 rfl)) (ty := .object "java/lang/Object") (by decide)
    have F62 : Fld Z h6 b6 "com/example/lowr/lowr/model/FormulaText" "refusal" "Ljava/lang/String;" .null := D6 (Or.inr (w 61 rfl)) (ty := .object "java/lang/String") (by decide)
    have H60 := H59.dup 58 at_57
    have H61 := H60.aload 60 at_58 rfl
    have H62 := H61.iloadN 61 at_60 rfl
    obtain ⟨_, h7, ⟨o, rfl, Eo, Fo⟩, K7, H63⟩ := H62.callS 64 (z := ⟨"java/lang/Integer", "valueOf", "(I)Ljava/lang/Integer;"⟩) (w 33 rfl) (w 34 rfl) (w 35 rfl) (w 36 rfl) (by decide) (argsL := [(.int p2)]) (rest := [(.ref b4), (.ref b6), (.ref b6)]) (Paid.of_met (W := 3) (metV hw H62.oldO Sh Sa Bx p2) (w 36 rfl) (w 35 rfl) hEL (by decide) (by decide)) (lenOf pdV rfl) rfl (Nat.le_of_eq rfl) at_61 (by decide) (by decide) all0
    have X7 := keepExt K7
    obtain ⟨_, h8, ⟨rfl, T8⟩, K8, H64⟩ := H63.callI 67 (z := ⟨"com/example/lowr/lowr/model/FormulaText", "<init>", "(Ljava/lang/String;Ljava/lang/Object;)V"⟩) rfl (w 40 rfl) (w 41 rfl) (w 42 rfl) (by decide) (a := b6) (argsL := [(.ref b4), (.ref o)]) (rest := [(.ref b6)]) (Paid.of_met (W := 1) (metC2 hw H63.oldO (H63.sf_lt (by simp)).2 (A6.ext X7) (F60.ext X7) (F61.ext X7) (F62.ext X7) ((S5.1.ext E6).ext X7)) (w 42 rfl) (w 32 rfl) hEL (by decide) (by decide)) (lenOf pdC2 rfl) rfl (Nat.le_of_eq rfl) at_64 (by decide) (by decide) (by simp)
    have neo : o ∉ [b6] := ninS (Eo.ne (A6.ext X7) (by decide)) nin0
    have Eo' := Eo.keep K8
    have Fo' := Fo.keep K8 neo
    have H65 := H64.astore 69 at_67 (L' := #[.val (.int p0), .val (.int p1), .val (.int p2), .val (.int p3), .val (.int p4), .val (.ref b1), .val (.ref b4), .val (.int (1 : Int32)), .val (.ref b6), .unset]) rfl
    have H66 := H65.goto 89 at_69
    have H67 := H66.aload 91 at_89 rfl
    obtain ⟨_, h9, ⟨rfl, e9⟩, K9, H68⟩ := H67.callV 94 (z := ⟨"com/example/lowr/lowr/model/FormulaText", "isReadable", "()Z"⟩) (z1 := ⟨"com/example/lowr/lowr/model/FormulaText", "isReadable", "()Z"⟩) (C := "com/example/lowr/lowr/model/FormulaText") (w 62 rfl) (w 63 rfl) (w 65 rfl) (w 64 rfl) (by decide) (a := b6) T8.1 (argsL := []) (rest := []) (Paid.of_met (W := 0) (metIRa hw H67.oldO T8) (w 66 rfl) (w 32 rfl) hEL (by decide) (by decide)) (lenOf pdIR rfl) rfl (Nat.le_of_eq rfl) at_91 (by decide) (by decide) all0
    subst e9
    have H69 := H68.istore 96 at_94 (L' := #[.val (.int p0), .val (.int p1), .val (.int p2), .val (.int p3), .val (.int p4), .val (.ref b1), .val (.ref b4), .val (.int (1 : Int32)), .val (.ref b6), .val (.int (1 : Int32))]) rfl
    have H70 := H69.iload 98 at_96 rfl
    have H71 := H70.iload 100 at_98 rfl
    have H72 := H71.icmpYes 105 at_100 (XT.ii_eq_t rfl)
    have H73 := H72.aload 107 at_105 rfl
    obtain ⟨_, h10, ⟨rfl, e10⟩, K10, H74⟩ := H73.callV 110 (z := ⟨"com/example/lowr/lowr/model/FormulaText", "getRefusal", "()Ljava/lang/String;"⟩) (z1 := ⟨"com/example/lowr/lowr/model/FormulaText", "getRefusal", "()Ljava/lang/String;"⟩) (C := "com/example/lowr/lowr/model/FormulaText") (w 67 rfl) (w 68 rfl) (w 70 rfl) (w 69 rfl) (by decide) (a := b6) T8.1 (argsL := []) (rest := []) (Paid.of_met (W := 0) (metGR hw H73.oldO rfl T8) (w 71 rfl) (w 32 rfl) hEL (by decide) (by decide)) (lenOf pdGR rfl) rfl (Nat.le_of_eq rfl) at_107 (by decide) (by decide) all0
    subst e10
    have H75 := H74.nonnullNo 113 at_110
    have H76 := H75.iconst 114 (1 : Int32) at_113
    have H77 := H76.goto 118 at_114
    have H78 := H77.iload 120 at_118 rfl
    have H79 := H78.icmpYes 125 at_120 (XT.ii_eq_t rfl)
    have H80 := H79.iload 127 at_125 rfl
    have H81 := H80.ifNo 130 at_127 (XT.i0_eq_f (by decide))
    have H82 := H81.aload 132 at_130 rfl
    obtain ⟨_, h11, ⟨rfl, e11⟩, K11, H83⟩ := H82.callV 135 (z := ⟨"com/example/lowr/lowr/model/FormulaText", "getFormula", "()Ljava/lang/Object;"⟩) (z1 := ⟨"com/example/lowr/lowr/model/FormulaText", "getFormula", "()Ljava/lang/Object;"⟩) (C := "com/example/lowr/lowr/model/FormulaText") (w 72 rfl) (w 73 rfl) (w 75 rfl) (w 74 rfl) (by decide) (a := b6) T8.1 (argsL := []) (rest := []) (Paid.of_met (W := 0) (metGF hw H82.oldO T8) (w 76 rfl) (w 32 rfl) hEL (by decide) (by decide)) (lenOf pdGF rfl) rfl (Nat.le_of_eq rfl) at_132 (by decide) (by decide) all0
    subst e11
    have H84 := H83.castY 138 (w 77 rfl) (Ins.self Eo') at_135
    obtain ⟨_, h12, ⟨rfl, e12⟩, K12, H85⟩ := H84.callV 141 (z := ⟨"java/lang/Integer", "intValue", "()I"⟩) (z1 := ⟨"java/lang/Integer", "intValue", "()I"⟩) (C := "java/lang/Integer") (w 79 rfl) (w 80 rfl) (w 82 rfl) (w 81 rfl) (by decide) (a := o) Eo' (argsL := []) (rest := []) (Paid.of_met (W := 0) (metIv hw H84.oldO Fo') (w 83 rfl) (w 35 rfl) hEL (by decide) (by decide)) (lenOf pdIv rfl) rfl (Nat.le_of_eq rfl) at_138 (by decide) (by decide) all0
    subst e12
    have H86 := H85.iloadN 142 at_141 rfl
    have H87 := H86.icmpNo 145 at_142 (XT.ii_ne_f rfl)
    have H88 := H87.iconst 146 (1 : Int32) at_145
    have H89 := H88.goto 150 at_146
    exact H89.retI rfl rfl (by simp) at_150 (by decide) (by decide) rfl
theorem sub_at {Z : State} {args : Array Value} {j : Int32} {idx : List Nat} (h : (Jvm.Term.index 0).eval args Z none idx Z = some (.int j)) : (Jvm.Term.sub (Jvm.Term.index 0) (Jvm.Term.int 128)).eval args Z none idx Z = some (.int (j - 128)) := by
  have q : (Jvm.Term.int 128).eval args Z none idx Z = some (.int 128) := Term.int_eval 128
  generalize Jvm.Term.index 0 = t at h
  generalize Jvm.Term.int 128 = u at q
  simp [Term.eval, h, q]
theorem lenOf' {Z : State} {args : Array Value} {t : Jvm.Term} {a : Addr} {c : Cell} {ty : FieldType} {z : Int32} (et : t.eval args Z none [] Z = some (.ref a)) (h : (Jvm.Term.length t).eval args Z none [] Z = some (.int z)) (A : Arr Z Z.heap a c ty) : True ∧ c.slots.size < 2 ^ 31 ∧ c.slots.size.toInt32 = z ∧ True := by
  have q := A.fin (Vm.Alike.refl _)
  by_cases hl : c.slots.size < 2 ^ 31
  · rw [len_f et q hl] at h
    exact ⟨trivial, hl, by injection h with h; injection h, trivial⟩
  · simp [Term.eval, et, q, hl] at h

set_option maxRecDepth 65536 in
set_option maxHeartbeats 4000000 in
theorem comes_1 {Post : Tables → Env → Array Value → State → Outcome → State → Prop} (hpost : ∀ tb e args s v u, (limb_1_1.after args s (.returned v) u = true ∧ limb_1_2.after args s (.returned v) u = true ∧ True) → FramedW s (.returned v) u (Jvm.fieldLocs frame_1_writes args s ++ Jvm.arrayLocs frame_1_arrays args s ++ Jvm.staticLocs frame_1_statics s) 32 3200 → Post tb e args s (.returned v) u) :
    ArmFor flags0 classFile x code maxLocals ret World_1 tables_1 room_1 Calls_1 rest_1 Pre_1 Post := by
  intro l hfl _ _ p e ha hc hk s m args below hf hA hF happ hP
  obtain ⟨hcalls, hrest, hpre⟩ := hP
  obtain ⟨-, -, -, hnamed, -, -, -, hat⟩ := (Spec.applies_iff hf).mp happ
  obtain ⟨hg, hn⟩ := and_e (Cond.before_iff.mp (show (Jvm.Cond.and given_1 narrow_1).before args s = true from hpre))
  obtain ⟨a0, b0⟩ := and_e hg
  obtain ⟨a1, b1⟩ := and_e b0
  obtain ⟨a2, b2⟩ := and_e b1
  obtain ⟨a3, b3⟩ := and_e b2
  obtain ⟨a4, b4⟩ := and_e b3
  obtain ⟨w0, w1, w2, w3, w4, rfl⟩ : ∃ w0 w1 w2 w3 w4 : Value, args = #[w0, w1, w2, w3, w4] := by
    have hs : args.size = 5 := by simpa [Cond.value, given_1] using a0
    obtain ⟨L⟩ := args
    match L, hs with
    | [w0, w1, w2, w3, w4], _ => exact ⟨w0, w1, w2, w3, w4, rfl⟩
  obtain ⟨i0, f0⟩ := is_v a1
  obtain rfl : w0 = (.int i0) := Option.some.inj f0
  obtain ⟨i1, f1⟩ := is_v a2
  obtain rfl : w1 = (.int i1) := Option.some.inj f1
  obtain ⟨i2, f2⟩ := is_v a3
  obtain rfl : w2 = (.int i2) := Option.some.inj f2
  obtain ⟨i3, f3⟩ := is_v a4
  obtain rfl : w3 = (.int i3) := Option.some.inj f3
  obtain ⟨i4, f4⟩ := is_v b4
  obtain rfl : w4 = (.int i4) := Option.some.inj f4
  have hw := fun d (hd : d ∈ tables_1) => atoms_spec (ws := Jvm.Cond.code x code maxLocals ret :: tables_1) hat d (List.mem_cons_of_mem _ hd)
  have w : ∀ (i : Nat) {d : Jvm.Cond}, tables_1[i]? = some d → d.before _ s = true := fun i d q => hw d (List.mem_of_getElem? q)
  obtain ⟨hsets, hown0⟩ := atoms_of _ (rest_1_c_eq ▸ (show rest_1_c.before _ s = true from hrest))
  have n5 := not_v (Cond.before_iff.mp (hsets _ (List.mem_of_getElem? (i := 2) rfl)))
  obtain ⟨zc, e10⟩ := is_v (Cond.before_iff.mp (hsets _ (List.mem_of_getElem? (i := 1) rfl)))
  have Sc : Sta s s.heap "java/lang/String" "COMPACT_STRINGS" "Z" (.int zc) := Sta.start e10 (Or.inl (hsets _ (List.mem_of_getElem? (i := 0) rfl)))
  have hzc : ¬ (zc = (0 : Int32)) := gotF (Cond.eq_ints e10 (Term.int_eval (0))) n5
  have hh1 : (Jvm.Term.static "java/lang/Integer$IntegerCache" "high" "I").eval _ s none [] s = some (.int 127) := eqv_i (Term.int_eval 127) (Cond.before_iff.mp (hsets _ (List.mem_of_getElem? (i := 12) rfl)))
  have Sh : Sta s s.heap "java/lang/Integer$IntegerCache" "high" "I" (.int 127) := Sta.start hh1 (Or.inl (hsets _ (List.mem_of_getElem? (i := 10) rfl)))
  have hca := Cond.before_iff.mp (hsets _ (List.mem_of_getElem? (i := 14) rfl))
  obtain ⟨ca, eca⟩ := exa_v hca
  have Sa : Sta s s.heap "java/lang/Integer$IntegerCache" "cache" "[Ljava/lang/Integer;" (.ref ca) := Sta.start eca (Or.inr ⟨(w 38 rfl), hsets _ (List.mem_of_getElem? (i := 11) rfl)⟩)
  obtain ⟨cc, Ac⟩ := Arr.start eca (Cond.before_iff.mp (hsets _ (List.mem_of_getElem? (i := 13) rfl)))
  have hln := eqv_i (Term.int_eval 256) (Cond.before_iff.mp (hsets _ (List.mem_of_getElem? (i := 15) rfl)))
  obtain ⟨-, hcx2, hcx3, -⟩ := lenOf' eca hln Ac
  have Bx : Bxs s ca cc "java/lang/Integer" "I" 256 (fun j => .int (j - 128)) := Bxs.start (fun idx => eca) Ac hcx2 hcx3 (by decide) (Cond.before_iff.mp (hsets _ (List.mem_of_getElem? (i := 16) rfl))) (fun X j nn hX => eqv_i (sub_at (idx_at nn)) hX)
  obtain ⟨n, o, h1, h2, h3, v, L, rfl, ⟨rfl, hK, N⟩, hCr, hq⟩ := (metL hw (Old.start s) Sc hzc Sh Sa Bx i0 i1 i2 i3 i4) l tables_1 p e ha hc hk s m _ below hf ((Spec.applies_iff_loose hf).mp happ).1 ⟨rfl, State.Warmed39.refl s, rfl, (fun p hp => nomatch hp), all0⟩ trivial
  refine ⟨n, _, h1, h2, h3, hpost _ _ _ _ _ _ ⟨Cond.after_iff.mpr rfl, Cond.after_iff.mpr (eq_i res_at (Term.int_eval (1)) rfl), trivial⟩ ⟨hq.1, hq.2.1, hq.2.2.1, (hq.2.2.2.sift fun y hy => Or.inr (N y hy)).mono (by decide) (by decide)⟩⟩
theorem main_1_1 : Claimed_1_1 := comes_1 fun _ _ _ _ _ _ h hF => ⟨h.1, hF⟩
theorem main_1_2 : Claimed_1_2 := comes_1 fun _ _ _ _ _ _ h hF => ⟨h.2.1, hF⟩
end Jvm.Pilot.@@N@@
namespace Jvm.Pilot.@@N@@
open Jvm Jvm.ClassFile Sem Op Lib Jvm.Free Jvm.Stand Jvm.Pilot.@@N@@.Jvm.D
/-! MADE BY PROGRAM (witnessworld.py) out of the Statement's table words and the real class files: 25 classes; the members and pool entries that the words name. The judged class is class 1, her method 1. -/
namespace start1
open Jvm.ClassFile
def u (s : String) : CpInfo := .utf8 (stringToUtf16 s)
/-- a pool by its gaps: so many unusable entries, then the entry; so many at the end -/
def gap : Nat → List CpInfo → List CpInfo
  | 0, r => r
  | n + 1, r => .unusable :: gap n r
def poolList (es : List (Nat × CpInfo)) (last : Nat) : List CpInfo := es.foldr (fun e r => gap e.1 (e.2 :: r)) (gap last [])
def pool (es : List (Nat × CpInfo)) (last : Nat) : Array CpInfo := ⟨poolList es last⟩
def fileOf (pool : Array CpInfo) (this : Nat) (attrs : Array Attribute := #[]) (ms : Array MethodInfo := #[]) (fl : Nat := 33) (sup : Nat := 0) (ifs : Array Nat := #[]) (fds : Array FieldInfo := #[]) : ClassFile where
  minorVersion := 0
  majorVersion := 65
  constantPool := pool
  accessFlags := fl
  thisClass := this
  superClass := sup
  interfaces := ifs
  fields := fds
  methods := ms
  attributes := attrs
def plain (name : String) (sup : Option ClassId) : Class where
  name := name
  kind := .ordinary
  loader := none
  accessFlags := 33
  super := sup
  interfaces := #[]
  cf := none
  fields := #[]
  methods := #[]
  instanceTypes := #[]
  staticTypes := #[]
  resolved := #[]
  callSites := []
  init := .initialized
  statics := none
  mirror := none

def pool0 : Array CpInfo := pool [(5, u "<init>"), (0, u "()V"), (1, .class_ 10), (1, u "java/lang/Object")] 113

def k0c0 : Code := { maxStack := 0, maxLocals := 1, code := object_method_1_code, exceptionTable := #[], attributes := #[] }
def k0m0 : Method := { name := "<init>", desc := "()V", sig := { parameters := [], returnType := none }, accessFlags := 1, code := some k0c0 }
/-- java/lang/Object -/
def k0 : Class := { plain "java/lang/Object" none with
  accessFlags := 33
  interfaces := #[]
  cf := some (fileOf pool0 8 #[] #[{ accessFlags := 1, nameIndex := 5, descriptorIndex := 6, attributes := #[] }] 33 0 #[] #[])
  fields := #[]
  methods := #[k0m0]
  instanceTypes := #[]
  staticTypes := #[]
  resolved := Array.replicate 124 none
  statics := none }

def pool1 : Array CpInfo := pool [(2, .class_ 4), (1, u "java/lang/Object"), (0, u "<init>"), (0, u "()V"), (0, .class_ 8), (0, u "java/lang/String"), (0, .methodref 7 10), (0, .nameAndType 5 11), (0, u "([C)V"), (0, .class_ 13), (0, u "com/example/lowr/lowr/model/FormulaText"), (0, .methodref 15 16), (0, .class_ 17), (0, .nameAndType 18 19), (0, u "java/lang/Integer"), (0, u "valueOf"), (0, u "(I)Ljava/lang/Integer;"), (0, .methodref 12 21), (0, .nameAndType 5 22), (0, u "(Ljava/lang/String;Ljava/lang/Object;)V"), (0, .methodref 7 24), (0, .nameAndType 18 25), (0, u "(C)Ljava/lang/String;"), (0, .methodref 12 27), (0, .nameAndType 28 29), (0, u "unreadable"), (0, u "(Ljava/lang/String;Ljava/lang/String;)Lcom/example/lowr/lowr/model/FormulaText;"), (0, .methodref 12 31), (0, .nameAndType 32 33), (0, u "isReadable"), (0, u "()Z"), (0, .methodref 12 35), (0, .nameAndType 36 37), (0, u "getRefusal"), (0, u "()Ljava/lang/String;"), (0, .methodref 12 39), (0, .nameAndType 40 41), (0, u "getFormula"), (0, u "()Ljava/lang/Object;"), (0, .methodref 15 43), (0, .nameAndType 44 45), (0, u "intValue"), (0, u "()I"), (0, .class_ 47), (0, u "com/example/lowr/lowr/model/FormulaTextIsReadablePinLaw"), (2, u "law"), (0, u "(IIIII)Z")] 5

def k1m0 : Method := { name := "<init>", desc := "()V", sig := { parameters := [], returnType := none }, accessFlags := 1, code := none }
def k1c1 : Code := { maxStack := 4, maxLocals := 10, code := code, exceptionTable := #[], attributes := #[] }
def k1m1 : Method := { name := "law", desc := "(IIIII)Z", sig := { parameters := [.int, .int, .int, .int, .int], returnType := some .boolean }, accessFlags := 9, code := some k1c1 }
/-- com/example/lowr/lowr/model/FormulaTextIsReadablePinLaw -/
def k1 : Class := { plain "com/example/lowr/lowr/model/FormulaTextIsReadablePinLaw" (some 0) with
  accessFlags := 49
  interfaces := #[]
  cf := some (fileOf pool1 46 #[] #[{ accessFlags := 1, nameIndex := 5, descriptorIndex := 6, attributes := #[] }, { accessFlags := 9, nameIndex := 50, descriptorIndex := 51, attributes := #[] }] 49 2 #[] #[])
  fields := #[]
  methods := #[k1m0, k1m1]
  instanceTypes := #[]
  staticTypes := #[]
  resolved := Array.replicate 57 none
  statics := none }

def pool2 : Array CpInfo := pool [(1, .class_ 2), (0, u "java/io/Serializable"), (0, .class_ 4), (0, u "java/lang/Object")] 2

/-- java/io/Serializable -/
def k2 : Class := { plain "java/io/Serializable" (some 0) with
  accessFlags := 1537
  interfaces := #[]
  cf := some (fileOf pool2 1 #[] #[] 1537 3 #[] #[])
  fields := #[]
  methods := #[]
  instanceTypes := #[]
  staticTypes := #[]
  resolved := Array.replicate 7 none
  statics := none }

def pool3 : Array CpInfo := pool [(1, .class_ 2), (0, u "java/lang/Comparable"), (0, .class_ 4), (0, u "java/lang/Object")] 7

/-- java/lang/Comparable -/
def k3 : Class := { plain "java/lang/Comparable" (some 0) with
  accessFlags := 1537
  interfaces := #[]
  cf := some (fileOf pool3 1 #[] #[] 1537 3 #[] #[])
  fields := #[]
  methods := #[]
  instanceTypes := #[]
  staticTypes := #[]
  resolved := Array.replicate 12 none
  statics := none }

def pool4 : Array CpInfo := pool [(2, .class_ 4), (1, u "java/lang/CharSequence"), (42, .class_ 48), (0, u "java/lang/CharSequence$1CodePointIterator"), (10, .class_ 60), (0, u "java/lang/CharSequence$1CharIterator"), (5, .class_ 67), (0, u "java/lang/Object")] 63

/-- java/lang/CharSequence -/
def k4 : Class := { plain "java/lang/CharSequence" (some 0) with
  accessFlags := 1537
  interfaces := #[]
  cf := some (fileOf pool4 2 #[.nestMembers #[47, 59]] #[] 1537 66 #[] #[])
  fields := #[]
  methods := #[]
  instanceTypes := #[]
  staticTypes := #[]
  resolved := Array.replicate 131 none
  statics := none }

def pool5 : Array CpInfo := pool [(1, .class_ 2), (0, u "java/lang/constant/Constable"), (0, .class_ 4), (0, u "java/lang/Object")] 6

/-- java/lang/constant/Constable -/
def k5 : Class := { plain "java/lang/constant/Constable" (some 0) with
  accessFlags := 1537
  interfaces := #[]
  cf := some (fileOf pool5 1 #[] #[] 1537 3 #[] #[])
  fields := #[]
  methods := #[]
  instanceTypes := #[]
  staticTypes := #[]
  resolved := Array.replicate 11 none
  statics := none }

def pool6 : Array CpInfo := pool [(1, .class_ 2), (0, u "java/lang/constant/ConstantDesc"), (0, .class_ 4), (0, u "java/lang/Object")] 32

/-- java/lang/constant/ConstantDesc -/
def k6 : Class := { plain "java/lang/constant/ConstantDesc" (some 0) with
  accessFlags := 1537
  interfaces := #[]
  cf := some (fileOf pool6 1 #[] #[] 1537 3 #[] #[])
  fields := #[]
  methods := #[]
  instanceTypes := #[]
  staticTypes := #[]
  resolved := Array.replicate 37 none
  statics := none }

def pool7 : Array CpInfo := pool [(1, .methodref 2 3), (0, .class_ 4), (0, .nameAndType 5 6), (0, u "java/lang/Object"), (0, u "<init>"), (0, u "()V"), (2, .fieldref 10 11), (0, .class_ 12), (0, .nameAndType 13 14), (0, u "java/lang/String"), (0, u "value"), (0, u "[B"), (0, .fieldref 10 16), (0, .nameAndType 17 18), (0, u "coder"), (0, u "B"), (2, u "hash"), (0, u "I"), (2, u "hashIsZero"), (0, u "Z"), (0, .methodref 10 28), (0, .nameAndType 5 29), (0, u "([CIILjava/lang/Void;)V"), (8, .fieldref 10 39), (0, .nameAndType 40 26), (0, u "COMPACT_STRINGS"), (1, .class_ 44), (1, u "java/lang/StringUTF16"), (0, u "compress"), (1, .methodref 42 48), (0, .nameAndType 49 50), (0, u "coderFromArrayLen"), (0, u "([BI)B"), (2, u "toBytes"), (53, .class_ 109), (1, u "java/lang/StringLatin1"), (67, .methodref 42 178), (0, .nameAndType 45 179), (0, u "([CII)[B"), (29, .methodref 10 210), (0, .nameAndType 5 211), (0, u "([BB)V"), (157, u "(C)Z"), (205, .class_ 576), (0, u "java/lang/CharSequence"), (22, u "CASE_INSENSITIVE_ORDER"), (0, u "Ljava/util/Comparator;"), (181, u "valueOf"), (0, u "(C)Ljava/lang/String;"), (226, u "([C)V"), (4, .methodref 107 1016), (0, .nameAndType 1017 369), (0, u "canEncode"), (0, .methodref 107 1019), (0, .nameAndType 53 1020), (0, u "(C)[B"), (80, u "serialPersistentFields"), (0, u "[Ljava/io/ObjectStreamField;"), (0, .class_ 1104), (0, u "java/lang/String$CaseInsensitiveComparator"), (1, .class_ 1107), (0, u "java/io/Serializable"), (0, .class_ 1109), (0, u "java/lang/Comparable"), (0, .class_ 1111), (0, u "java/lang/constant/Constable"), (0, .class_ 1113), (0, u "java/lang/constant/ConstantDesc"), (2, u "serialVersionUID"), (0, u "J"), (3, u "REPL"), (0, u "C"), (2, u "LATIN1"), (1, u "UTF16")] 323

def k7m0 : Method := { name := "<init>", desc := "()V", sig := { parameters := [], returnType := none }, accessFlags := 1, code := none }
def k7c1 : Code := { maxStack := 5, maxLocals := 2, code := jdk_42_method_3_code, exceptionTable := #[], attributes := #[] }
def k7m1 : Method := { name := "<init>", desc := "([C)V", sig := { parameters := [(.array .char)], returnType := none }, accessFlags := 1, code := some k7c1 }
def k7c2 : Code := { maxStack := 4, maxLocals := 1, code := jdk_42_method_139_code, exceptionTable := #[], attributes := #[] }
def k7m2 : Method := { name := "valueOf", desc := "(C)Ljava/lang/String;", sig := { parameters := [.char], returnType := some (.object "java/lang/String") }, accessFlags := 9, code := some k7c2 }
def k7c3 : Code := { maxStack := 4, maxLocals := 6, code := jdk_42_method_149_code, exceptionTable := #[], attributes := #[] }
def k7m3 : Method := { name := "<init>", desc := "([CIILjava/lang/Void;)V", sig := { parameters := [(.array .char), .int, .int, (.object "java/lang/Void")], returnType := none }, accessFlags := 2, code := some k7c3 }
def k7c4 : Code := { maxStack := 2, maxLocals := 3, code := jdk_42_method_151_code, exceptionTable := #[], attributes := #[] }
def k7m4 : Method := { name := "<init>", desc := "([BB)V", sig := { parameters := [(.array .byte), .byte], returnType := none }, accessFlags := 0, code := some k7c4 }
/-- java/lang/String -/
def k7 : Class := { plain "java/lang/String" (some 0) with
  accessFlags := 49
  interfaces := #[2, 3, 4, 5, 6]
  cf := some (fileOf pool7 10 #[.nestMembers #[1103]] #[{ accessFlags := 1, nameIndex := 5, descriptorIndex := 6, attributes := #[] }, { accessFlags := 1, nameIndex := 5, descriptorIndex := 1010, attributes := #[] }, { accessFlags := 9, nameIndex := 782, descriptorIndex := 783, attributes := #[] }, { accessFlags := 2, nameIndex := 5, descriptorIndex := 29, attributes := #[] }, { accessFlags := 0, nameIndex := 5, descriptorIndex := 211, attributes := #[] }] 49 2 #[1106, 1108, 575, 1110, 1112] #[{ accessFlags := 18, nameIndex := 13, descriptorIndex := 14, attributes := #[] }, { accessFlags := 18, nameIndex := 17, descriptorIndex := 18, attributes := #[] }, { accessFlags := 2, nameIndex := 21, descriptorIndex := 22, attributes := #[] }, { accessFlags := 2, nameIndex := 25, descriptorIndex := 26, attributes := #[] }, { accessFlags := 26, nameIndex := 1116, descriptorIndex := 1117, attributes := #[] }, { accessFlags := 24, nameIndex := 40, descriptorIndex := 26, attributes := #[] }, { accessFlags := 26, nameIndex := 1101, descriptorIndex := 1102, attributes := #[] }, { accessFlags := 26, nameIndex := 1121, descriptorIndex := 1122, attributes := #[] }, { accessFlags := 25, nameIndex := 599, descriptorIndex := 600, attributes := #[] }, { accessFlags := 24, nameIndex := 1125, descriptorIndex := 18, attributes := #[] }, { accessFlags := 24, nameIndex := 1127, descriptorIndex := 18, attributes := #[] }])
  fields := #[{ name := "value", type := (.array .byte), accessFlags := 18, slot := 0, constantValue := 0 }, { name := "coder", type := .byte, accessFlags := 18, slot := 1, constantValue := 0 }, { name := "hash", type := .int, accessFlags := 2, slot := 2, constantValue := 0 }, { name := "hashIsZero", type := .boolean, accessFlags := 2, slot := 3, constantValue := 0 }, { name := "serialVersionUID", type := .long, accessFlags := 26, slot := 0, constantValue := 0 }, { name := "COMPACT_STRINGS", type := .boolean, accessFlags := 24, slot := 1, constantValue := 0 }, { name := "serialPersistentFields", type := (.array (.object "java/io/ObjectStreamField")), accessFlags := 26, slot := 2, constantValue := 0 }, { name := "REPL", type := .char, accessFlags := 26, slot := 3, constantValue := 0 }, { name := "CASE_INSENSITIVE_ORDER", type := (.object "java/util/Comparator"), accessFlags := 25, slot := 4, constantValue := 0 }, { name := "LATIN1", type := .byte, accessFlags := 24, slot := 5, constantValue := 0 }, { name := "UTF16", type := .byte, accessFlags := 24, slot := 6, constantValue := 0 }]
  methods := #[k7m0, k7m1, k7m2, k7m3, k7m4]
  instanceTypes := #[(.array .byte), .byte, .int, .boolean]
  staticTypes := #[.long, .boolean, (.array (.object "java/io/ObjectStreamField")), .char, (.object "java/util/Comparator"), .byte, .byte]
  resolved := Array.replicate 1451 none
  statics := some 0 }

def pool8 : Array CpInfo := pool [(6, .class_ 8), (1, u "java/lang/Object"), (0, u "<init>"), (0, u "()V"), (1, .class_ 14), (1, u "java/lang/StringUTF16"), (31, u "$assertionsDisabled"), (0, u "Z"), (13, u "HI_BYTE_SHIFT"), (0, u "I"), (2, u "LO_BYTE_SHIFT"), (49, .methodref 12 116), (0, .nameAndType 117 118), (0, u "compress"), (0, u "([CI[BII)I"), (3, u "([CII)[B"), (138, u "coderFromArrayLen"), (0, u "([BI)B"), (106, .class_ 371), (1, u "java/lang/StringUTF16$LinesSpliterator"), (58, u "MAX_LENGTH"), (196, .class_ 628), (0, u "java/lang/StringUTF16$CodePointsSpliterator"), (0, .class_ 630), (0, u "java/lang/StringUTF16$CharsSpliterator")] 4

def k8m0 : Method := { name := "<init>", desc := "()V", sig := { parameters := [], returnType := none }, accessFlags := 0, code := none }
def k8c1 : Code := { maxStack := 2, maxLocals := 2, code := jdk_52_method_15_code, exceptionTable := #[], attributes := #[] }
def k8m1 : Method := { name := "coderFromArrayLen", desc := "([BI)B", sig := { parameters := [(.array .byte), .int], returnType := some .byte }, accessFlags := 8, code := some k8c1 }
def k8c2 : Code := { maxStack := 5, maxLocals := 6, code := jdk_52_method_16_code, exceptionTable := #[], attributes := #[] }
def k8m2 : Method := { name := "compress", desc := "([CII)[B", sig := { parameters := [(.array .char), .int, .int], returnType := some (.array .byte) }, accessFlags := 9, code := some k8c2 }
def k8c3 : Code := { maxStack := 3, maxLocals := 7, code := jdk_52_method_21_code, exceptionTable := #[], attributes := #[] }
def k8m3 : Method := { name := "compress", desc := "([CI[BII)I", sig := { parameters := [(.array .char), .int, (.array .byte), .int, .int], returnType := some .int }, accessFlags := 9, code := some k8c3 }
/-- java/lang/StringUTF16 -/
def k8 : Class := { plain "java/lang/StringUTF16" (some 0) with
  accessFlags := 48
  interfaces := #[]
  cf := some (fileOf pool8 12 #[.nestMembers #[627, 629, 369]] #[{ accessFlags := 0, nameIndex := 9, descriptorIndex := 10, attributes := #[] }, { accessFlags := 8, nameIndex := 261, descriptorIndex := 262, attributes := #[] }, { accessFlags := 9, nameIndex := 117, descriptorIndex := 122, attributes := #[] }, { accessFlags := 9, nameIndex := 117, descriptorIndex := 118, attributes := #[] }] 48 6 #[] #[{ accessFlags := 26, nameIndex := 61, descriptorIndex := 62, attributes := #[] }, { accessFlags := 26, nameIndex := 65, descriptorIndex := 62, attributes := #[] }, { accessFlags := 24, nameIndex := 430, descriptorIndex := 62, attributes := #[] }, { accessFlags := 4120, nameIndex := 46, descriptorIndex := 47, attributes := #[] }])
  fields := #[{ name := "HI_BYTE_SHIFT", type := .int, accessFlags := 26, slot := 0, constantValue := 0 }, { name := "LO_BYTE_SHIFT", type := .int, accessFlags := 26, slot := 1, constantValue := 0 }, { name := "MAX_LENGTH", type := .int, accessFlags := 24, slot := 2, constantValue := 0 }, { name := "$assertionsDisabled", type := .boolean, accessFlags := 4120, slot := 3, constantValue := 0 }]
  methods := #[k8m0, k8m1, k8m2, k8m3]
  instanceTypes := #[]
  staticTypes := #[.int, .int, .int, .boolean]
  resolved := Array.replicate 635 none
  statics := none }

def pool9 : Array CpInfo := pool [(1, .string 2), (0, u "formula"), (0, .methodref 4 5), (0, .class_ 6), (0, .nameAndType 7 8), (0, u "java/util/Objects"), (0, u "requireNonNull"), (0, u "(Ljava/lang/Object;Ljava/lang/String;)Ljava/lang/Object;"), (0, .methodref 10 11), (0, .class_ 12), (0, .nameAndType 13 14), (0, u "com/example/lowr/lowr/model/FormulaText"), (0, u "<init>"), (0, u "(Ljava/lang/String;Ljava/lang/Object;Ljava/lang/String;)V"), (0, .methodref 16 17), (0, .class_ 18), (0, .nameAndType 13 19), (0, u "java/lang/Object"), (0, u "()V"), (0, .string 21), (0, u "text"), (0, .class_ 23), (0, u "java/lang/String"), (0, .fieldref 10 25), (0, .nameAndType 21 26), (0, u "Ljava/lang/String;"), (0, .fieldref 10 28), (0, .nameAndType 2 29), (0, u "Ljava/lang/Object;"), (0, .fieldref 10 31), (0, .nameAndType 32 26), (0, u "refusal"), (0, .string 32), (7, u "(Ljava/lang/String;Ljava/lang/Object;)V"), (4, u "unreadable"), (0, u "(Ljava/lang/String;Ljava/lang/String;)Lcom/example/lowr/lowr/model/FormulaText;"), (2, u "()Ljava/lang/String;"), (0, u "isReadable"), (0, u "()Z"), (1, u "getFormula"), (0, u "()Ljava/lang/Object;"), (1, u "getRefusal")] 3

def k9c0 : Code := { maxStack := 4, maxLocals := 3, code := prog_55_method_1_code, exceptionTable := #[], attributes := #[] }
def k9m0 : Method := { name := "<init>", desc := "(Ljava/lang/String;Ljava/lang/Object;)V", sig := { parameters := [(.object "java/lang/String"), (.object "java/lang/Object")], returnType := none }, accessFlags := 1, code := some k9c0 }
def k9c1 : Code := { maxStack := 3, maxLocals := 4, code := prog_55_method_2_code, exceptionTable := #[], attributes := #[] }
def k9m1 : Method := { name := "<init>", desc := "(Ljava/lang/String;Ljava/lang/Object;Ljava/lang/String;)V", sig := { parameters := [(.object "java/lang/String"), (.object "java/lang/Object"), (.object "java/lang/String")], returnType := none }, accessFlags := 2, code := some k9c1 }
def k9c2 : Code := { maxStack := 6, maxLocals := 2, code := prog_55_method_3_code, exceptionTable := #[], attributes := #[] }
def k9m2 : Method := { name := "unreadable", desc := "(Ljava/lang/String;Ljava/lang/String;)Lcom/example/lowr/lowr/model/FormulaText;", sig := { parameters := [(.object "java/lang/String"), (.object "java/lang/String")], returnType := some (.object "com/example/lowr/lowr/model/FormulaText") }, accessFlags := 9, code := some k9c2 }
def k9c3 : Code := { maxStack := 1, maxLocals := 1, code := prog_55_method_5_code, exceptionTable := #[], attributes := #[] }
def k9m3 : Method := { name := "isReadable", desc := "()Z", sig := { parameters := [], returnType := some .boolean }, accessFlags := 1, code := some k9c3 }
def k9c4 : Code := { maxStack := 3, maxLocals := 1, code := prog_55_method_6_code, exceptionTable := #[], attributes := #[] }
def k9m4 : Method := { name := "getFormula", desc := "()Ljava/lang/Object;", sig := { parameters := [], returnType := some (.object "java/lang/Object") }, accessFlags := 1, code := some k9c4 }
def k9c5 : Code := { maxStack := 1, maxLocals := 1, code := prog_55_method_7_code, exceptionTable := #[], attributes := #[] }
def k9m5 : Method := { name := "getRefusal", desc := "()Ljava/lang/String;", sig := { parameters := [], returnType := some (.object "java/lang/String") }, accessFlags := 1, code := some k9c5 }
/-- com/example/lowr/lowr/model/FormulaText -/
def k9 : Class := { plain "com/example/lowr/lowr/model/FormulaText" (some 0) with
  accessFlags := 33
  interfaces := #[]
  cf := some (fileOf pool9 10 #[] #[{ accessFlags := 1, nameIndex := 13, descriptorIndex := 41, attributes := #[] }, { accessFlags := 2, nameIndex := 13, descriptorIndex := 14, attributes := #[] }, { accessFlags := 9, nameIndex := 46, descriptorIndex := 47, attributes := #[] }, { accessFlags := 1, nameIndex := 51, descriptorIndex := 52, attributes := #[] }, { accessFlags := 1, nameIndex := 54, descriptorIndex := 55, attributes := #[] }, { accessFlags := 1, nameIndex := 57, descriptorIndex := 50, attributes := #[] }] 33 16 #[] #[{ accessFlags := 18, nameIndex := 21, descriptorIndex := 26, attributes := #[] }, { accessFlags := 18, nameIndex := 2, descriptorIndex := 29, attributes := #[] }, { accessFlags := 18, nameIndex := 32, descriptorIndex := 26, attributes := #[] }])
  fields := #[{ name := "text", type := (.object "java/lang/String"), accessFlags := 18, slot := 0, constantValue := 0 }, { name := "formula", type := (.object "java/lang/Object"), accessFlags := 18, slot := 1, constantValue := 0 }, { name := "refusal", type := (.object "java/lang/String"), accessFlags := 18, slot := 2, constantValue := 0 }]
  methods := #[k9m0, k9m1, k9m2, k9m3, k9m4, k9m5]
  instanceTypes := #[(.object "java/lang/String"), (.object "java/lang/Object"), (.object "java/lang/String")]
  staticTypes := #[]
  resolved := Array.replicate 61 none
  statics := none }

def pool10 : Array CpInfo := pool [(1, .methodref 2 3), (0, .class_ 4), (0, .nameAndType 5 6), (0, u "java/lang/Object"), (0, u "<init>"), (0, u "()V"), (1, .class_ 10), (1, u "java/lang/Number"), (2, .class_ 14), (0, u "java/io/Serializable"), (0, u "serialVersionUID"), (0, u "J")] 20

def k10c0 : Code := { maxStack := 1, maxLocals := 1, code := jdk_18_method_1_code, exceptionTable := #[], attributes := #[] }
def k10m0 : Method := { name := "<init>", desc := "()V", sig := { parameters := [], returnType := none }, accessFlags := 1, code := some k10c0 }
/-- java/lang/Number -/
def k10 : Class := { plain "java/lang/Number" (some 0) with
  accessFlags := 1057
  interfaces := #[2]
  cf := some (fileOf pool10 8 #[] #[{ accessFlags := 1, nameIndex := 5, descriptorIndex := 6, attributes := #[] }] 1057 2 #[13] #[{ accessFlags := 26, nameIndex := 15, descriptorIndex := 16, attributes := #[] }])
  fields := #[{ name := "serialVersionUID", type := .long, accessFlags := 26, slot := 0, constantValue := 0 }]
  methods := #[k10m0]
  instanceTypes := #[]
  staticTypes := #[.long]
  resolved := Array.replicate 37 none
  statics := none }

def pool11 : Array CpInfo := pool [(1, .class_ 2), (0, u "java/lang/Integer"), (16, u "digits"), (0, u "[C"), (46, u "<init>"), (17, u "DigitOnes"), (0, u "[B"), (2, u "DigitTens"), (10, .nameAndType 67 101), (0, u "()V"), (19, u "()I"), (65, u "valueOf"), (0, u "(I)Ljava/lang/Integer;"), (0, .class_ 190), (0, u "java/lang/Integer$IntegerCache"), (0, .fieldref 189 192), (0, .nameAndType 193 194), (0, u "high"), (0, u "I"), (0, .fieldref 189 196), (0, .nameAndType 197 198), (0, u "cache"), (0, u "[Ljava/lang/Integer;"), (0, .methodref 1 200), (0, .nameAndType 67 201), (0, u "(I)V"), (0, .methodref 203 100), (0, .class_ 204), (0, u "java/lang/Number"), (0, .fieldref 1 206), (0, .nameAndType 207 194), (0, u "value"), (5, u "intValue"), (88, u "TYPE"), (0, u "Ljava/lang/Class;"), (0, .class_ 305), (0, u "java/lang/Comparable"), (0, .class_ 307), (0, u "java/lang/constant/Constable"), (0, .class_ 309), (0, u "java/lang/constant/ConstantDesc"), (0, u "MIN_VALUE"), (1, u "MAX_VALUE"), (3, u "SIZE"), (1, u "BYTES"), (1, u "serialVersionUID"), (0, u "J")] 131

def k11c0 : Code := { maxStack := 3, maxLocals := 1, code := jdk_33_method_22_code, exceptionTable := #[], attributes := #[] }
def k11m0 : Method := { name := "valueOf", desc := "(I)Ljava/lang/Integer;", sig := { parameters := [.int], returnType := some (.object "java/lang/Integer") }, accessFlags := 9, code := some k11c0 }
def k11c1 : Code := { maxStack := 2, maxLocals := 2, code := jdk_33_method_23_code, exceptionTable := #[], attributes := #[] }
def k11m1 : Method := { name := "<init>", desc := "(I)V", sig := { parameters := [.int], returnType := none }, accessFlags := 1, code := some k11c1 }
def k11c2 : Code := { maxStack := 1, maxLocals := 1, code := jdk_33_method_27_code, exceptionTable := #[], attributes := #[] }
def k11m2 : Method := { name := "intValue", desc := "()I", sig := { parameters := [], returnType := some .int }, accessFlags := 1, code := some k11c2 }
/-- java/lang/Integer -/
def k11 : Class := { plain "java/lang/Integer" (some 10) with
  accessFlags := 49
  interfaces := #[3, 5, 6]
  cf := some (fileOf pool11 1 #[.nestMembers #[189]] #[{ accessFlags := 9, nameIndex := 187, descriptorIndex := 188, attributes := #[] }, { accessFlags := 1, nameIndex := 67, descriptorIndex := 201, attributes := #[] }, { accessFlags := 1, nameIndex := 213, descriptorIndex := 121, attributes := #[] }] 49 203 #[304, 306, 308] #[{ accessFlags := 25, nameIndex := 310, descriptorIndex := 194, attributes := #[] }, { accessFlags := 25, nameIndex := 312, descriptorIndex := 194, attributes := #[] }, { accessFlags := 25, nameIndex := 302, descriptorIndex := 303, attributes := #[] }, { accessFlags := 24, nameIndex := 19, descriptorIndex := 20, attributes := #[] }, { accessFlags := 24, nameIndex := 89, descriptorIndex := 86, attributes := #[] }, { accessFlags := 24, nameIndex := 85, descriptorIndex := 86, attributes := #[] }, { accessFlags := 18, nameIndex := 207, descriptorIndex := 194, attributes := #[] }, { accessFlags := 25, nameIndex := 316, descriptorIndex := 194, attributes := #[] }, { accessFlags := 25, nameIndex := 318, descriptorIndex := 194, attributes := #[] }, { accessFlags := 26, nameIndex := 320, descriptorIndex := 321, attributes := #[] }])
  fields := #[{ name := "MIN_VALUE", type := .int, accessFlags := 25, slot := 0, constantValue := 0 }, { name := "MAX_VALUE", type := .int, accessFlags := 25, slot := 1, constantValue := 0 }, { name := "TYPE", type := (.object "java/lang/Class"), accessFlags := 25, slot := 2, constantValue := 0 }, { name := "digits", type := (.array .char), accessFlags := 24, slot := 3, constantValue := 0 }, { name := "DigitTens", type := (.array .byte), accessFlags := 24, slot := 4, constantValue := 0 }, { name := "DigitOnes", type := (.array .byte), accessFlags := 24, slot := 5, constantValue := 0 }, { name := "value", type := .int, accessFlags := 18, slot := 0, constantValue := 0 }, { name := "SIZE", type := .int, accessFlags := 25, slot := 6, constantValue := 0 }, { name := "BYTES", type := .int, accessFlags := 25, slot := 7, constantValue := 0 }, { name := "serialVersionUID", type := .long, accessFlags := 26, slot := 8, constantValue := 0 }]
  methods := #[k11m0, k11m1, k11m2]
  instanceTypes := #[.int]
  staticTypes := #[.int, .int, (.object "java/lang/Class"), (.array .char), (.array .byte), (.array .byte), .int, .int, .long]
  resolved := Array.replicate 453 none
  statics := none }

def pool12 : Array CpInfo := pool [(2, .class_ 4), (1, u "java/lang/Object"), (0, u "<init>"), (0, u "()V"), (0, .class_ 8), (0, u "java/lang/Integer"), (7, .class_ 18), (1, u "java/lang/Integer$IntegerCache"), (0, u "$assertionsDisabled"), (0, u "Z"), (26, u "high"), (0, u "I"), (8, u "archivedCache"), (0, u "[Ljava/lang/Integer;"), (12, u "cache"), (0, u "low")] 27

def k12m0 : Method := { name := "<init>", desc := "()V", sig := { parameters := [], returnType := none }, accessFlags := 2, code := none }
/-- java/lang/Integer$IntegerCache -/
def k12 : Class := { plain "java/lang/Integer$IntegerCache" (some 0) with
  accessFlags := 48
  interfaces := #[]
  cf := some (fileOf pool12 16 #[.nestHost 7] #[{ accessFlags := 2, nameIndex := 5, descriptorIndex := 6, attributes := #[] }] 48 2 #[] #[{ accessFlags := 24, nameIndex := 72, descriptorIndex := 48, attributes := #[] }, { accessFlags := 24, nameIndex := 47, descriptorIndex := 48, attributes := #[] }, { accessFlags := 24, nameIndex := 71, descriptorIndex := 58, attributes := #[] }, { accessFlags := 8, nameIndex := 57, descriptorIndex := 58, attributes := #[] }, { accessFlags := 4120, nameIndex := 19, descriptorIndex := 20, attributes := #[] }])
  fields := #[{ name := "low", type := .int, accessFlags := 24, slot := 0, constantValue := 0 }, { name := "high", type := .int, accessFlags := 24, slot := 1, constantValue := 0 }, { name := "cache", type := (.array (.object "java/lang/Integer")), accessFlags := 24, slot := 2, constantValue := 0 }, { name := "archivedCache", type := (.array (.object "java/lang/Integer")), accessFlags := 8, slot := 3, constantValue := 0 }, { name := "$assertionsDisabled", type := .boolean, accessFlags := 4120, slot := 4, constantValue := 0 }]
  methods := #[k12m0]
  instanceTypes := #[]
  staticTypes := #[.int, .int, (.array (.object "java/lang/Integer")), (.array (.object "java/lang/Integer")), .boolean]
  resolved := Array.replicate 100 none
  statics := some 1 }

def pool13 : Array CpInfo := pool [(2, .class_ 4), (1, u "java/lang/Object"), (0, u "<init>"), (0, u "()V"), (35, .class_ 44), (1, u "java/util/Objects"), (0, u "requireNonNull"), (48, u "(Ljava/lang/Object;Ljava/lang/String;)Ljava/lang/Object;")] 89

def k13m0 : Method := { name := "<init>", desc := "()V", sig := { parameters := [], returnType := none }, accessFlags := 2, code := none }
def k13c1 : Code := { maxStack := 3, maxLocals := 2, code := jdk_31_method_11_code, exceptionTable := #[], attributes := #[] }
def k13m1 : Method := { name := "requireNonNull", desc := "(Ljava/lang/Object;Ljava/lang/String;)Ljava/lang/Object;", sig := { parameters := [(.object "java/lang/Object"), (.object "java/lang/String")], returnType := some (.object "java/lang/Object") }, accessFlags := 9, code := some k13c1 }
/-- java/util/Objects -/
def k13 : Class := { plain "java/util/Objects" (some 0) with
  accessFlags := 49
  interfaces := #[]
  cf := some (fileOf pool13 42 #[] #[{ accessFlags := 2, nameIndex := 5, descriptorIndex := 6, attributes := #[] }, { accessFlags := 9, nameIndex := 45, descriptorIndex := 94, attributes := #[] }] 49 2 #[] #[])
  fields := #[]
  methods := #[k13m0, k13m1]
  instanceTypes := #[]
  staticTypes := #[]
  resolved := Array.replicate 184 none
  statics := none }

def pool14 : Array CpInfo := pool [(4, .class_ 6), (1, u "java/lang/Object"), (0, u "<init>"), (0, u "()V"), (5, .class_ 16), (1, u "java/lang/StringLatin1"), (73, u "canEncode"), (14, u "(C)Z"), (15, u "$assertionsDisabled"), (0, u "Z"), (98, .class_ 223), (1, u "java/lang/StringLatin1$LinesSpliterator"), (156, u "toBytes"), (1, u "(C)[B"), (7, .class_ 391), (0, u "java/lang/StringLatin1$CharsSpliterator")] 3

def k14m0 : Method := { name := "<init>", desc := "()V", sig := { parameters := [], returnType := none }, accessFlags := 0, code := none }
def k14c1 : Code := { maxStack := 2, maxLocals := 1, code := jdk_43_method_3_code, exceptionTable := #[], attributes := #[] }
def k14m1 : Method := { name := "canEncode", desc := "(C)Z", sig := { parameters := [.char], returnType := some .boolean }, accessFlags := 9, code := some k14c1 }
def k14c2 : Code := { maxStack := 4, maxLocals := 1, code := jdk_43_method_46_code, exceptionTable := #[], attributes := #[] }
def k14m2 : Method := { name := "toBytes", desc := "(C)[B", sig := { parameters := [.char], returnType := some (.array .byte) }, accessFlags := 9, code := some k14c2 }
/-- java/lang/StringLatin1 -/
def k14 : Class := { plain "java/lang/StringLatin1" (some 0) with
  accessFlags := 48
  interfaces := #[]
  cf := some (fileOf pool14 14 #[.nestMembers #[390, 221]] #[{ accessFlags := 0, nameIndex := 7, descriptorIndex := 8, attributes := #[] }, { accessFlags := 9, nameIndex := 90, descriptorIndex := 105, attributes := #[] }, { accessFlags := 9, nameIndex := 380, descriptorIndex := 382, attributes := #[] }] 48 4 #[] #[{ accessFlags := 4120, nameIndex := 121, descriptorIndex := 122, attributes := #[] }])
  fields := #[{ name := "$assertionsDisabled", type := .boolean, accessFlags := 4120, slot := 0, constantValue := 0 }]
  methods := #[k14m0, k14m1, k14m2]
  instanceTypes := #[]
  staticTypes := #[.boolean]
  resolved := Array.replicate 395 none
  statics := none }

def pool15 : Array CpInfo := pool [(2, .class_ 4), (1, u "java/lang/Object"), (0, u "<init>"), (0, u "()V"), (17, .class_ 26), (1, u "jdk/internal/util/Preconditions"), (28, .class_ 56), (0, u "jdk/internal/util/Preconditions$4"), (57, .class_ 115), (0, u "jdk/internal/util/Preconditions$1"), (7, u "SIOOBE_FORMATTER"), (0, u "Ljava/util/function/BiFunction;"), (0, .class_ 126), (0, u "jdk/internal/util/Preconditions$2"), (3, u "AIOOBE_FORMATTER"), (0, .class_ 132), (0, u "jdk/internal/util/Preconditions$3"), (3, u "IOOBE_FORMATTER")] 57

def k15m0 : Method := { name := "<init>", desc := "()V", sig := { parameters := [], returnType := none }, accessFlags := 1, code := none }
/-- jdk/internal/util/Preconditions -/
def k15 : Class := { plain "jdk/internal/util/Preconditions" (some 0) with
  accessFlags := 33
  interfaces := #[]
  cf := some (fileOf pool15 24 #[.nestMembers #[55, 131, 125, 114]] #[{ accessFlags := 1, nameIndex := 5, descriptorIndex := 6, attributes := #[] }] 33 2 #[] #[{ accessFlags := 25, nameIndex := 123, descriptorIndex := 124, attributes := #[] }, { accessFlags := 25, nameIndex := 130, descriptorIndex := 124, attributes := #[] }, { accessFlags := 25, nameIndex := 136, descriptorIndex := 124, attributes := #[] }])
  fields := #[{ name := "SIOOBE_FORMATTER", type := (.object "java/util/function/BiFunction"), accessFlags := 25, slot := 0, constantValue := 0 }, { name := "AIOOBE_FORMATTER", type := (.object "java/util/function/BiFunction"), accessFlags := 25, slot := 1, constantValue := 0 }, { name := "IOOBE_FORMATTER", type := (.object "java/util/function/BiFunction"), accessFlags := 25, slot := 2, constantValue := 0 }]
  methods := #[k15m0]
  instanceTypes := #[]
  staticTypes := #[(.object "java/util/function/BiFunction"), (.object "java/util/function/BiFunction"), (.object "java/util/function/BiFunction")]
  resolved := Array.replicate 194 none
  statics := some 2 }

def pool16 : Array CpInfo := pool [(9, u "<init>"), (6, .class_ 18), (1, u "java/lang/Object"), (0, u "()V"), (1, .class_ 23), (1, u "jdk/internal/util/ArraysSupport"), (0, u "LOG2_ARRAY_LONG_INDEX_SCALE"), (0, u "I"), (2, u "U"), (0, u "Ljdk/internal/misc/Unsafe;"), (8, u "BIG_ENDIAN"), (0, u "Z"), (8, u "LOG2_BYTE_BIT_SIZE"), (4, u "LOG2_ARRAY_INT_INDEX_SCALE"), (54, u "JLA"), (0, u "Ljdk/internal/access/JavaLangAccess;"), (11, u "LOG2_ARRAY_BOOLEAN_INDEX_SCALE"), (9, u "LOG2_ARRAY_BYTE_INDEX_SCALE"), (5, u "LOG2_ARRAY_CHAR_INDEX_SCALE"), (5, u "LOG2_ARRAY_SHORT_INDEX_SCALE"), (18, u "LOG2_ARRAY_FLOAT_INDEX_SCALE"), (24, u "LOG2_ARRAY_DOUBLE_INDEX_SCALE"), (89, u "T_BOOLEAN"), (2, u "T_CHAR"), (1, u "T_FLOAT"), (1, u "T_DOUBLE"), (1, u "T_BYTE"), (1, u "T_SHORT"), (1, u "T_INT"), (1, u "T_LONG"), (1, u "SOFT_MAX_ARRAY_LENGTH")] 83

def k16m0 : Method := { name := "<init>", desc := "()V", sig := { parameters := [], returnType := none }, accessFlags := 2, code := none }
/-- jdk/internal/util/ArraysSupport -/
def k16 : Class := { plain "jdk/internal/util/ArraysSupport" (some 0) with
  accessFlags := 33
  interfaces := #[]
  cf := some (fileOf pool16 21 #[] #[{ accessFlags := 2, nameIndex := 9, descriptorIndex := 19, attributes := #[] }] 33 16 #[] #[{ accessFlags := 24, nameIndex := 28, descriptorIndex := 29, attributes := #[] }, { accessFlags := 26, nameIndex := 38, descriptorIndex := 39, attributes := #[] }, { accessFlags := 25, nameIndex := 121, descriptorIndex := 25, attributes := #[] }, { accessFlags := 25, nameIndex := 131, descriptorIndex := 25, attributes := #[] }, { accessFlags := 25, nameIndex := 137, descriptorIndex := 25, attributes := #[] }, { accessFlags := 25, nameIndex := 143, descriptorIndex := 25, attributes := #[] }, { accessFlags := 25, nameIndex := 53, descriptorIndex := 25, attributes := #[] }, { accessFlags := 25, nameIndex := 24, descriptorIndex := 25, attributes := #[] }, { accessFlags := 25, nameIndex := 162, descriptorIndex := 25, attributes := #[] }, { accessFlags := 25, nameIndex := 187, descriptorIndex := 25, attributes := #[] }, { accessFlags := 26, nameIndex := 48, descriptorIndex := 25, attributes := #[] }, { accessFlags := 25, nameIndex := 277, descriptorIndex := 25, attributes := #[] }, { accessFlags := 25, nameIndex := 280, descriptorIndex := 25, attributes := #[] }, { accessFlags := 25, nameIndex := 282, descriptorIndex := 25, attributes := #[] }, { accessFlags := 25, nameIndex := 284, descriptorIndex := 25, attributes := #[] }, { accessFlags := 25, nameIndex := 286, descriptorIndex := 25, attributes := #[] }, { accessFlags := 25, nameIndex := 288, descriptorIndex := 25, attributes := #[] }, { accessFlags := 25, nameIndex := 290, descriptorIndex := 25, attributes := #[] }, { accessFlags := 25, nameIndex := 292, descriptorIndex := 25, attributes := #[] }, { accessFlags := 26, nameIndex := 108, descriptorIndex := 109, attributes := #[] }, { accessFlags := 25, nameIndex := 294, descriptorIndex := 25, attributes := #[] }])
  fields := #[{ name := "U", type := (.object "jdk/internal/misc/Unsafe"), accessFlags := 24, slot := 0, constantValue := 0 }, { name := "BIG_ENDIAN", type := .boolean, accessFlags := 26, slot := 1, constantValue := 0 }, { name := "LOG2_ARRAY_BOOLEAN_INDEX_SCALE", type := .int, accessFlags := 25, slot := 2, constantValue := 0 }, { name := "LOG2_ARRAY_BYTE_INDEX_SCALE", type := .int, accessFlags := 25, slot := 3, constantValue := 0 }, { name := "LOG2_ARRAY_CHAR_INDEX_SCALE", type := .int, accessFlags := 25, slot := 4, constantValue := 0 }, { name := "LOG2_ARRAY_SHORT_INDEX_SCALE", type := .int, accessFlags := 25, slot := 5, constantValue := 0 }, { name := "LOG2_ARRAY_INT_INDEX_SCALE", type := .int, accessFlags := 25, slot := 6, constantValue := 0 }, { name := "LOG2_ARRAY_LONG_INDEX_SCALE", type := .int, accessFlags := 25, slot := 7, constantValue := 0 }, { name := "LOG2_ARRAY_FLOAT_INDEX_SCALE", type := .int, accessFlags := 25, slot := 8, constantValue := 0 }, { name := "LOG2_ARRAY_DOUBLE_INDEX_SCALE", type := .int, accessFlags := 25, slot := 9, constantValue := 0 }, { name := "LOG2_BYTE_BIT_SIZE", type := .int, accessFlags := 26, slot := 10, constantValue := 0 }, { name := "T_BOOLEAN", type := .int, accessFlags := 25, slot := 11, constantValue := 0 }, { name := "T_CHAR", type := .int, accessFlags := 25, slot := 12, constantValue := 0 }, { name := "T_FLOAT", type := .int, accessFlags := 25, slot := 13, constantValue := 0 }, { name := "T_DOUBLE", type := .int, accessFlags := 25, slot := 14, constantValue := 0 }, { name := "T_BYTE", type := .int, accessFlags := 25, slot := 15, constantValue := 0 }, { name := "T_SHORT", type := .int, accessFlags := 25, slot := 16, constantValue := 0 }, { name := "T_INT", type := .int, accessFlags := 25, slot := 17, constantValue := 0 }, { name := "T_LONG", type := .int, accessFlags := 25, slot := 18, constantValue := 0 }, { name := "JLA", type := (.object "jdk/internal/access/JavaLangAccess"), accessFlags := 26, slot := 19, constantValue := 0 }, { name := "SOFT_MAX_ARRAY_LENGTH", type := .int, accessFlags := 25, slot := 20, constantValue := 0 }]
  methods := #[k16m0]
  instanceTypes := #[]
  staticTypes := #[(.object "jdk/internal/misc/Unsafe"), .boolean, .int, .int, .int, .int, .int, .int, .int, .int, .int, .int, .int, .int, .int, .int, .int, .int, .int, (.object "jdk/internal/access/JavaLangAccess"), .int]
  resolved := Array.replicate 378 none
  statics := none }

def pool17 : Array CpInfo := pool [(1, u "java/lang/Cloneable"), (0, .class_ 1), (0, u "java/lang/Object"), (0, .class_ 3)] 3

/-- java/lang/Cloneable -/
def k17 : Class := { plain "java/lang/Cloneable" (some 0) with
  accessFlags := 1537
  interfaces := #[]
  cf := some (fileOf pool17 2 #[] #[] 1537 4 #[] #[])
  fields := #[]
  methods := #[]
  instanceTypes := #[]
  staticTypes := #[]
  resolved := Array.replicate 8 none
  statics := none }

/-- the primitive byte -/
def k18 : Class := { plain "byte" none with kind := .primitive 'B', accessFlags := 0x411 }
/-- [B -/
def k19 : Class := { plain "[B" (some 0) with kind := .array 18 .byte, interfaces := #[17, 2], accessFlags := 1041 }

/-- the primitive char -/
def k20 : Class := { plain "char" none with kind := .primitive 'C', accessFlags := 0x411 }
/-- [C -/
def k21 : Class := { plain "[C" (some 0) with kind := .array 20 .char, interfaces := #[17, 2], accessFlags := 1041 }

/-- the primitive int -/
def k22 : Class := { plain "int" none with kind := .primitive 'I', accessFlags := 0x411 }
/-- [I -/
def k23 : Class := { plain "[I" (some 0) with kind := .array 22 .int, interfaces := #[17, 2], accessFlags := 1041 }

/-- [Ljava/lang/Integer; -/
def k24 : Class := { plain "[Ljava/lang/Integer;" (some 0) with kind := .array 11 (.object "java/lang/Integer"), interfaces := #[17, 2], accessFlags := 1041 }

def heap : Heap := #[{ cls := 7, slots := #[.long 0, .int 1, .null, .int 0, .null, .int 0, .int 0], vm := .statics 7 },
  { cls := 12, slots := #[.int 0, .int 127, .ref 3, .null, .int 0], vm := .statics 12 },
  { cls := 15, slots := #[.null, .null, .null], vm := .statics 15 },
  { cls := 24, slots := #[.ref 4, .ref 5, .ref 6, .ref 7, .ref 8, .ref 9, .ref 10, .ref 11, .ref 12, .ref 13, .ref 14, .ref 15, .ref 16, .ref 17, .ref 18, .ref 19, .ref 20, .ref 21, .ref 22, .ref 23, .ref 24, .ref 25, .ref 26, .ref 27, .ref 28, .ref 29, .ref 30, .ref 31, .ref 32, .ref 33, .ref 34, .ref 35, .ref 36, .ref 37, .ref 38, .ref 39, .ref 40, .ref 41, .ref 42, .ref 43, .ref 44, .ref 45, .ref 46, .ref 47, .ref 48, .ref 49, .ref 50, .ref 51, .ref 52, .ref 53, .ref 54, .ref 55, .ref 56, .ref 57, .ref 58, .ref 59, .ref 60, .ref 61, .ref 62, .ref 63, .ref 64, .ref 65, .ref 66, .ref 67, .ref 68, .ref 69, .ref 70, .ref 71, .ref 72, .ref 73, .ref 74, .ref 75, .ref 76, .ref 77, .ref 78, .ref 79, .ref 80, .ref 81, .ref 82, .ref 83, .ref 84, .ref 85, .ref 86, .ref 87, .ref 88, .ref 89, .ref 90, .ref 91, .ref 92, .ref 93, .ref 94, .ref 95, .ref 96, .ref 97, .ref 98, .ref 99, .ref 100, .ref 101, .ref 102, .ref 103, .ref 104, .ref 105, .ref 106, .ref 107, .ref 108, .ref 109, .ref 110, .ref 111, .ref 112, .ref 113, .ref 114, .ref 115, .ref 116, .ref 117, .ref 118, .ref 119, .ref 120, .ref 121, .ref 122, .ref 123, .ref 124, .ref 125, .ref 126, .ref 127, .ref 128, .ref 129, .ref 130, .ref 131, .ref 132, .ref 133, .ref 134, .ref 135, .ref 136, .ref 137, .ref 138, .ref 139, .ref 140, .ref 141, .ref 142, .ref 143, .ref 144, .ref 145, .ref 146, .ref 147, .ref 148, .ref 149, .ref 150, .ref 151, .ref 152, .ref 153, .ref 154, .ref 155, .ref 156, .ref 157, .ref 158, .ref 159, .ref 160, .ref 161, .ref 162, .ref 163, .ref 164, .ref 165, .ref 166, .ref 167, .ref 168, .ref 169, .ref 170, .ref 171, .ref 172, .ref 173, .ref 174, .ref 175, .ref 176, .ref 177, .ref 178, .ref 179, .ref 180, .ref 181, .ref 182, .ref 183, .ref 184, .ref 185, .ref 186, .ref 187, .ref 188, .ref 189, .ref 190, .ref 191, .ref 192, .ref 193, .ref 194, .ref 195, .ref 196, .ref 197, .ref 198, .ref 199, .ref 200, .ref 201, .ref 202, .ref 203, .ref 204, .ref 205, .ref 206, .ref 207, .ref 208, .ref 209, .ref 210, .ref 211, .ref 212, .ref 213, .ref 214, .ref 215, .ref 216, .ref 217, .ref 218, .ref 219, .ref 220, .ref 221, .ref 222, .ref 223, .ref 224, .ref 225, .ref 226, .ref 227, .ref 228, .ref 229, .ref 230, .ref 231, .ref 232, .ref 233, .ref 234, .ref 235, .ref 236, .ref 237, .ref 238, .ref 239, .ref 240, .ref 241, .ref 242, .ref 243, .ref 244, .ref 245, .ref 246, .ref 247, .ref 248, .ref 249, .ref 250, .ref 251, .ref 252, .ref 253, .ref 254, .ref 255, .ref 256, .ref 257, .ref 258, .ref 259], vm := .none },
  { cls := 11, slots := #[.int (-128)], vm := .none },
  { cls := 11, slots := #[.int (-127)], vm := .none },
  { cls := 11, slots := #[.int (-126)], vm := .none },
  { cls := 11, slots := #[.int (-125)], vm := .none },
  { cls := 11, slots := #[.int (-124)], vm := .none },
  { cls := 11, slots := #[.int (-123)], vm := .none },
  { cls := 11, slots := #[.int (-122)], vm := .none },
  { cls := 11, slots := #[.int (-121)], vm := .none },
  { cls := 11, slots := #[.int (-120)], vm := .none },
  { cls := 11, slots := #[.int (-119)], vm := .none },
  { cls := 11, slots := #[.int (-118)], vm := .none },
  { cls := 11, slots := #[.int (-117)], vm := .none },
  { cls := 11, slots := #[.int (-116)], vm := .none },
  { cls := 11, slots := #[.int (-115)], vm := .none },
  { cls := 11, slots := #[.int (-114)], vm := .none },
  { cls := 11, slots := #[.int (-113)], vm := .none },
  { cls := 11, slots := #[.int (-112)], vm := .none },
  { cls := 11, slots := #[.int (-111)], vm := .none },
  { cls := 11, slots := #[.int (-110)], vm := .none },
  { cls := 11, slots := #[.int (-109)], vm := .none },
  { cls := 11, slots := #[.int (-108)], vm := .none },
  { cls := 11, slots := #[.int (-107)], vm := .none },
  { cls := 11, slots := #[.int (-106)], vm := .none },
  { cls := 11, slots := #[.int (-105)], vm := .none },
  { cls := 11, slots := #[.int (-104)], vm := .none },
  { cls := 11, slots := #[.int (-103)], vm := .none },
  { cls := 11, slots := #[.int (-102)], vm := .none },
  { cls := 11, slots := #[.int (-101)], vm := .none },
  { cls := 11, slots := #[.int (-100)], vm := .none },
  { cls := 11, slots := #[.int (-99)], vm := .none },
  { cls := 11, slots := #[.int (-98)], vm := .none },
  { cls := 11, slots := #[.int (-97)], vm := .none },
  { cls := 11, slots := #[.int (-96)], vm := .none },
  { cls := 11, slots := #[.int (-95)], vm := .none },
  { cls := 11, slots := #[.int (-94)], vm := .none },
  { cls := 11, slots := #[.int (-93)], vm := .none },
  { cls := 11, slots := #[.int (-92)], vm := .none },
  { cls := 11, slots := #[.int (-91)], vm := .none },
  { cls := 11, slots := #[.int (-90)], vm := .none },
  { cls := 11, slots := #[.int (-89)], vm := .none },
  { cls := 11, slots := #[.int (-88)], vm := .none },
  { cls := 11, slots := #[.int (-87)], vm := .none },
  { cls := 11, slots := #[.int (-86)], vm := .none },
  { cls := 11, slots := #[.int (-85)], vm := .none },
  { cls := 11, slots := #[.int (-84)], vm := .none },
  { cls := 11, slots := #[.int (-83)], vm := .none },
  { cls := 11, slots := #[.int (-82)], vm := .none },
  { cls := 11, slots := #[.int (-81)], vm := .none },
  { cls := 11, slots := #[.int (-80)], vm := .none },
  { cls := 11, slots := #[.int (-79)], vm := .none },
  { cls := 11, slots := #[.int (-78)], vm := .none },
  { cls := 11, slots := #[.int (-77)], vm := .none },
  { cls := 11, slots := #[.int (-76)], vm := .none },
  { cls := 11, slots := #[.int (-75)], vm := .none },
  { cls := 11, slots := #[.int (-74)], vm := .none },
  { cls := 11, slots := #[.int (-73)], vm := .none },
  { cls := 11, slots := #[.int (-72)], vm := .none },
  { cls := 11, slots := #[.int (-71)], vm := .none },
  { cls := 11, slots := #[.int (-70)], vm := .none },
  { cls := 11, slots := #[.int (-69)], vm := .none },
  { cls := 11, slots := #[.int (-68)], vm := .none },
  { cls := 11, slots := #[.int (-67)], vm := .none },
  { cls := 11, slots := #[.int (-66)], vm := .none },
  { cls := 11, slots := #[.int (-65)], vm := .none },
  { cls := 11, slots := #[.int (-64)], vm := .none },
  { cls := 11, slots := #[.int (-63)], vm := .none },
  { cls := 11, slots := #[.int (-62)], vm := .none },
  { cls := 11, slots := #[.int (-61)], vm := .none },
  { cls := 11, slots := #[.int (-60)], vm := .none },
  { cls := 11, slots := #[.int (-59)], vm := .none },
  { cls := 11, slots := #[.int (-58)], vm := .none },
  { cls := 11, slots := #[.int (-57)], vm := .none },
  { cls := 11, slots := #[.int (-56)], vm := .none },
  { cls := 11, slots := #[.int (-55)], vm := .none },
  { cls := 11, slots := #[.int (-54)], vm := .none },
  { cls := 11, slots := #[.int (-53)], vm := .none },
  { cls := 11, slots := #[.int (-52)], vm := .none },
  { cls := 11, slots := #[.int (-51)], vm := .none },
  { cls := 11, slots := #[.int (-50)], vm := .none },
  { cls := 11, slots := #[.int (-49)], vm := .none },
  { cls := 11, slots := #[.int (-48)], vm := .none },
  { cls := 11, slots := #[.int (-47)], vm := .none },
  { cls := 11, slots := #[.int (-46)], vm := .none },
  { cls := 11, slots := #[.int (-45)], vm := .none },
  { cls := 11, slots := #[.int (-44)], vm := .none },
  { cls := 11, slots := #[.int (-43)], vm := .none },
  { cls := 11, slots := #[.int (-42)], vm := .none },
  { cls := 11, slots := #[.int (-41)], vm := .none },
  { cls := 11, slots := #[.int (-40)], vm := .none },
  { cls := 11, slots := #[.int (-39)], vm := .none },
  { cls := 11, slots := #[.int (-38)], vm := .none },
  { cls := 11, slots := #[.int (-37)], vm := .none },
  { cls := 11, slots := #[.int (-36)], vm := .none },
  { cls := 11, slots := #[.int (-35)], vm := .none },
  { cls := 11, slots := #[.int (-34)], vm := .none },
  { cls := 11, slots := #[.int (-33)], vm := .none },
  { cls := 11, slots := #[.int (-32)], vm := .none },
  { cls := 11, slots := #[.int (-31)], vm := .none },
  { cls := 11, slots := #[.int (-30)], vm := .none },
  { cls := 11, slots := #[.int (-29)], vm := .none },
  { cls := 11, slots := #[.int (-28)], vm := .none },
  { cls := 11, slots := #[.int (-27)], vm := .none },
  { cls := 11, slots := #[.int (-26)], vm := .none },
  { cls := 11, slots := #[.int (-25)], vm := .none },
  { cls := 11, slots := #[.int (-24)], vm := .none },
  { cls := 11, slots := #[.int (-23)], vm := .none },
  { cls := 11, slots := #[.int (-22)], vm := .none },
  { cls := 11, slots := #[.int (-21)], vm := .none },
  { cls := 11, slots := #[.int (-20)], vm := .none },
  { cls := 11, slots := #[.int (-19)], vm := .none },
  { cls := 11, slots := #[.int (-18)], vm := .none },
  { cls := 11, slots := #[.int (-17)], vm := .none },
  { cls := 11, slots := #[.int (-16)], vm := .none },
  { cls := 11, slots := #[.int (-15)], vm := .none },
  { cls := 11, slots := #[.int (-14)], vm := .none },
  { cls := 11, slots := #[.int (-13)], vm := .none },
  { cls := 11, slots := #[.int (-12)], vm := .none },
  { cls := 11, slots := #[.int (-11)], vm := .none },
  { cls := 11, slots := #[.int (-10)], vm := .none },
  { cls := 11, slots := #[.int (-9)], vm := .none },
  { cls := 11, slots := #[.int (-8)], vm := .none },
  { cls := 11, slots := #[.int (-7)], vm := .none },
  { cls := 11, slots := #[.int (-6)], vm := .none },
  { cls := 11, slots := #[.int (-5)], vm := .none },
  { cls := 11, slots := #[.int (-4)], vm := .none },
  { cls := 11, slots := #[.int (-3)], vm := .none },
  { cls := 11, slots := #[.int (-2)], vm := .none },
  { cls := 11, slots := #[.int (-1)], vm := .none },
  { cls := 11, slots := #[.int (0)], vm := .none },
  { cls := 11, slots := #[.int (1)], vm := .none },
  { cls := 11, slots := #[.int (2)], vm := .none },
  { cls := 11, slots := #[.int (3)], vm := .none },
  { cls := 11, slots := #[.int (4)], vm := .none },
  { cls := 11, slots := #[.int (5)], vm := .none },
  { cls := 11, slots := #[.int (6)], vm := .none },
  { cls := 11, slots := #[.int (7)], vm := .none },
  { cls := 11, slots := #[.int (8)], vm := .none },
  { cls := 11, slots := #[.int (9)], vm := .none },
  { cls := 11, slots := #[.int (10)], vm := .none },
  { cls := 11, slots := #[.int (11)], vm := .none },
  { cls := 11, slots := #[.int (12)], vm := .none },
  { cls := 11, slots := #[.int (13)], vm := .none },
  { cls := 11, slots := #[.int (14)], vm := .none },
  { cls := 11, slots := #[.int (15)], vm := .none },
  { cls := 11, slots := #[.int (16)], vm := .none },
  { cls := 11, slots := #[.int (17)], vm := .none },
  { cls := 11, slots := #[.int (18)], vm := .none },
  { cls := 11, slots := #[.int (19)], vm := .none },
  { cls := 11, slots := #[.int (20)], vm := .none },
  { cls := 11, slots := #[.int (21)], vm := .none },
  { cls := 11, slots := #[.int (22)], vm := .none },
  { cls := 11, slots := #[.int (23)], vm := .none },
  { cls := 11, slots := #[.int (24)], vm := .none },
  { cls := 11, slots := #[.int (25)], vm := .none },
  { cls := 11, slots := #[.int (26)], vm := .none },
  { cls := 11, slots := #[.int (27)], vm := .none },
  { cls := 11, slots := #[.int (28)], vm := .none },
  { cls := 11, slots := #[.int (29)], vm := .none },
  { cls := 11, slots := #[.int (30)], vm := .none },
  { cls := 11, slots := #[.int (31)], vm := .none },
  { cls := 11, slots := #[.int (32)], vm := .none },
  { cls := 11, slots := #[.int (33)], vm := .none },
  { cls := 11, slots := #[.int (34)], vm := .none },
  { cls := 11, slots := #[.int (35)], vm := .none },
  { cls := 11, slots := #[.int (36)], vm := .none },
  { cls := 11, slots := #[.int (37)], vm := .none },
  { cls := 11, slots := #[.int (38)], vm := .none },
  { cls := 11, slots := #[.int (39)], vm := .none },
  { cls := 11, slots := #[.int (40)], vm := .none },
  { cls := 11, slots := #[.int (41)], vm := .none },
  { cls := 11, slots := #[.int (42)], vm := .none },
  { cls := 11, slots := #[.int (43)], vm := .none },
  { cls := 11, slots := #[.int (44)], vm := .none },
  { cls := 11, slots := #[.int (45)], vm := .none },
  { cls := 11, slots := #[.int (46)], vm := .none },
  { cls := 11, slots := #[.int (47)], vm := .none },
  { cls := 11, slots := #[.int (48)], vm := .none },
  { cls := 11, slots := #[.int (49)], vm := .none },
  { cls := 11, slots := #[.int (50)], vm := .none },
  { cls := 11, slots := #[.int (51)], vm := .none },
  { cls := 11, slots := #[.int (52)], vm := .none },
  { cls := 11, slots := #[.int (53)], vm := .none },
  { cls := 11, slots := #[.int (54)], vm := .none },
  { cls := 11, slots := #[.int (55)], vm := .none },
  { cls := 11, slots := #[.int (56)], vm := .none },
  { cls := 11, slots := #[.int (57)], vm := .none },
  { cls := 11, slots := #[.int (58)], vm := .none },
  { cls := 11, slots := #[.int (59)], vm := .none },
  { cls := 11, slots := #[.int (60)], vm := .none },
  { cls := 11, slots := #[.int (61)], vm := .none },
  { cls := 11, slots := #[.int (62)], vm := .none },
  { cls := 11, slots := #[.int (63)], vm := .none },
  { cls := 11, slots := #[.int (64)], vm := .none },
  { cls := 11, slots := #[.int (65)], vm := .none },
  { cls := 11, slots := #[.int (66)], vm := .none },
  { cls := 11, slots := #[.int (67)], vm := .none },
  { cls := 11, slots := #[.int (68)], vm := .none },
  { cls := 11, slots := #[.int (69)], vm := .none },
  { cls := 11, slots := #[.int (70)], vm := .none },
  { cls := 11, slots := #[.int (71)], vm := .none },
  { cls := 11, slots := #[.int (72)], vm := .none },
  { cls := 11, slots := #[.int (73)], vm := .none },
  { cls := 11, slots := #[.int (74)], vm := .none },
  { cls := 11, slots := #[.int (75)], vm := .none },
  { cls := 11, slots := #[.int (76)], vm := .none },
  { cls := 11, slots := #[.int (77)], vm := .none },
  { cls := 11, slots := #[.int (78)], vm := .none },
  { cls := 11, slots := #[.int (79)], vm := .none },
  { cls := 11, slots := #[.int (80)], vm := .none },
  { cls := 11, slots := #[.int (81)], vm := .none },
  { cls := 11, slots := #[.int (82)], vm := .none },
  { cls := 11, slots := #[.int (83)], vm := .none },
  { cls := 11, slots := #[.int (84)], vm := .none },
  { cls := 11, slots := #[.int (85)], vm := .none },
  { cls := 11, slots := #[.int (86)], vm := .none },
  { cls := 11, slots := #[.int (87)], vm := .none },
  { cls := 11, slots := #[.int (88)], vm := .none },
  { cls := 11, slots := #[.int (89)], vm := .none },
  { cls := 11, slots := #[.int (90)], vm := .none },
  { cls := 11, slots := #[.int (91)], vm := .none },
  { cls := 11, slots := #[.int (92)], vm := .none },
  { cls := 11, slots := #[.int (93)], vm := .none },
  { cls := 11, slots := #[.int (94)], vm := .none },
  { cls := 11, slots := #[.int (95)], vm := .none },
  { cls := 11, slots := #[.int (96)], vm := .none },
  { cls := 11, slots := #[.int (97)], vm := .none },
  { cls := 11, slots := #[.int (98)], vm := .none },
  { cls := 11, slots := #[.int (99)], vm := .none },
  { cls := 11, slots := #[.int (100)], vm := .none },
  { cls := 11, slots := #[.int (101)], vm := .none },
  { cls := 11, slots := #[.int (102)], vm := .none },
  { cls := 11, slots := #[.int (103)], vm := .none },
  { cls := 11, slots := #[.int (104)], vm := .none },
  { cls := 11, slots := #[.int (105)], vm := .none },
  { cls := 11, slots := #[.int (106)], vm := .none },
  { cls := 11, slots := #[.int (107)], vm := .none },
  { cls := 11, slots := #[.int (108)], vm := .none },
  { cls := 11, slots := #[.int (109)], vm := .none },
  { cls := 11, slots := #[.int (110)], vm := .none },
  { cls := 11, slots := #[.int (111)], vm := .none },
  { cls := 11, slots := #[.int (112)], vm := .none },
  { cls := 11, slots := #[.int (113)], vm := .none },
  { cls := 11, slots := #[.int (114)], vm := .none },
  { cls := 11, slots := #[.int (115)], vm := .none },
  { cls := 11, slots := #[.int (116)], vm := .none },
  { cls := 11, slots := #[.int (117)], vm := .none },
  { cls := 11, slots := #[.int (118)], vm := .none },
  { cls := 11, slots := #[.int (119)], vm := .none },
  { cls := 11, slots := #[.int (120)], vm := .none },
  { cls := 11, slots := #[.int (121)], vm := .none },
  { cls := 11, slots := #[.int (122)], vm := .none },
  { cls := 11, slots := #[.int (123)], vm := .none },
  { cls := 11, slots := #[.int (124)], vm := .none },
  { cls := 11, slots := #[.int (125)], vm := .none },
  { cls := 11, slots := #[.int (126)], vm := .none },
  { cls := 11, slots := #[.int (127)], vm := .none }]
def classes : Array Class := #[k0, k1, k2, k3, k4, k5, k6, k7, k8, k9, k10, k11, k12, k13, k14, k15, k16, k17, k18, k19, k20, k21, k22, k23, k24]
def interned : List (Array UInt16 × Addr) := []
def slotsUsed : Nat := 527
def theMethod : MethodId := ⟨1, 1⟩
def args0 : Array Value := #[.int 3, .int 5, .int 9, .int 8, .int 7]
def aboutOver (below : List Frame) : State where
  vm := { classes := classes, interned := interned.toArray }
  heap := heap
  slotsUsed := slotsUsed
  threads := #[{ frames := .invoking theMethod args0 :: below }]
def below0 : List Frame := [.native { method := ⟨0, 0⟩, args := #[] }]
def about1 : State := aboutOver below0
def p0 : Program := .bare "" "" ""
def e0 : Env := launch0.env 0 0 0
theorem w_frames : about1.frames = Frame.invoking theMethod args0 :: below0 := rfl
set_option maxRecDepth 65536 in
theorem w_args : argsFit about1.vm theMethod args0 = true := by decide +kernel
set_option maxRecDepth 65536 in
theorem w_heap : heapFits about1 = true := by decide +kernel
set_option maxRecDepth 65536 in
theorem w_runnable : about1.curStatus? = some .runnable := by decide +kernel
set_option maxRecDepth 65536 in
theorem w_alone : about1.alone = true := by decide +kernel
set_option maxRecDepth 65536 in
theorem w_named : about1.methodNamed? x = some theMethod := by decide +kernel
set_option maxRecDepth 65536 in
theorem w_hears : about1.hears theMethod below0 = true := by decide +kernel
set_option maxRecDepth 65536 in
theorem w_ripe : about1.ripe theMethod args0 below0 = true := by decide +kernel
theorem w_running : about1.status = .running := rfl
set_option maxRecDepth 65536 in
theorem w_room : about1.hasRoom e0.platform room_1 = true :=
  launch0.hasRoom_least _ room_1 (by decide +kernel) (by decide +kernel) (by decide +kernel) (by decide +kernel) (by decide +kernel) (by decide +kernel)
theorem allAtoms_all (ts : List Jvm.Cond) (a : Array Jvm.Value) (st : Jvm.State) : (allAtoms ts).before a st = ts.all (fun c => c.before a st) := by
  induction ts with
  | nil => rfl
  | cons c t ih =>
    show (Jvm.Cond.and c (allAtoms t)).before a st = _
    rw [Jvm.Cond.before_and, ih, List.all_cons]
def words1 : List Jvm.Cond := Jvm.Cond.code x code maxLocals ret :: tables_1
/-- a 'code' word, met by the world's own term for the bytes: nothing is compared byte by byte -/
theorem code_word {y : MethodName} {bytes : ByteArray} {mx : Nat} {rt : Option FieldType} {a : Array Value} {s : State} {m : MethodId} {meth : Method} {c : Code} (h1 : s.methodNamed? y = some m) (h2 : s.vm.method? m = some meth) (h3 : meth.code = some c) (h4 : c.code = bytes)
    (h5 : (c.maxLocals == mx && c.exceptionTable.isEmpty && decide (c.maxStack ≤ mostOperands) && decide (meth.sig.returnType = rt) && !meth.locks && decide (parseMethodDescriptor y.desc = some meth.sig)) = true) : (Jvm.Cond.code y bytes mx rt).before a s = true := by
  simp only [Bool.and_eq_true, beq_iff_eq, Bool.not_eq_true', decide_eq_true_eq] at h5
  obtain ⟨⟨⟨⟨⟨g1, g2⟩, g3⟩, g4⟩, g5⟩, g6⟩ := h5
  simp [Cond.before, Cond.holds, Cond.value, h1, h2, h3, h4, g1, g2, g3, g4, g5, g6]
def isCode : Jvm.Cond → Bool
  | .code _ _ _ _ => true
  | _ => false
theorem all_split {L : List Jvm.Cond} {P : Jvm.Cond → Bool} (h1 : L.all (fun c => isCode c || P c) = true) (h2 : ∀ c ∈ L.filter isCode, P c = true) : L.all P = true := by
  refine List.all_eq_true.mpr fun c hc => ?_
  have h := List.all_eq_true.mp h1 c hc
  rcases Bool.eq_false_or_eq_true (isCode c) with hi | hi
  · exact h2 c (List.mem_filter.mpr ⟨hc, hi⟩)
  · simpa [hi] using h
set_option maxRecDepth 65536 in
theorem w_c0 : (Jvm.Cond.code x code maxLocals ret).before args0 about1 = true := code_word (m := ⟨1, 1⟩) (meth := k1m1) (c := k1c1) (by decide +kernel) rfl rfl rfl (by decide +kernel)
set_option maxRecDepth 65536 in
theorem w_c1 : (Jvm.Cond.code ({ cls := "java/lang/String", name := "<init>", desc := "([C)V" } : Jvm.MethodName) jdk_42_method_3_code (2 : Nat) (Option.none : Option Jvm.ClassFile.FieldType)).before args0 about1 = true := code_word (m := ⟨7, 1⟩) (meth := k7m1) (c := k7c1) (by decide +kernel) rfl rfl rfl (by decide +kernel)
set_option maxRecDepth 65536 in
theorem w_c2 : (Jvm.Cond.code ({ cls := "java/lang/String", name := "<init>", desc := "([CIILjava/lang/Void;)V" } : Jvm.MethodName) jdk_42_method_149_code (6 : Nat) (Option.none : Option Jvm.ClassFile.FieldType)).before args0 about1 = true := code_word (m := ⟨7, 3⟩) (meth := k7m3) (c := k7c3) (by decide +kernel) rfl rfl rfl (by decide +kernel)
set_option maxRecDepth 65536 in
theorem w_c3 : (Jvm.Cond.code ({ cls := "java/lang/Object", name := "<init>", desc := "()V" } : Jvm.MethodName) object_method_1_code (1 : Nat) (Option.none : Option Jvm.ClassFile.FieldType)).before args0 about1 = true := code_word (m := ⟨0, 0⟩) (meth := k0m0) (c := k0c0) (by decide +kernel) rfl rfl rfl (by decide +kernel)
set_option maxRecDepth 65536 in
theorem w_c4 : (Jvm.Cond.code ({ cls := "java/lang/StringUTF16", name := "compress", desc := "([CII)[B" } : Jvm.MethodName) jdk_52_method_16_code (6 : Nat) (Option.some (Jvm.ClassFile.FieldType.array Jvm.ClassFile.FieldType.byte))).before args0 about1 = true := code_word (m := ⟨8, 2⟩) (meth := k8m2) (c := k8c2) (by decide +kernel) rfl rfl rfl (by decide +kernel)
set_option maxRecDepth 65536 in
theorem w_c5 : (Jvm.Cond.code ({ cls := "java/lang/StringUTF16", name := "compress", desc := "([CI[BII)I" } : Jvm.MethodName) jdk_52_method_21_code (7 : Nat) (Option.some Jvm.ClassFile.FieldType.int)).before args0 about1 = true := code_word (m := ⟨8, 3⟩) (meth := k8m3) (c := k8c3) (by decide +kernel) rfl rfl rfl (by decide +kernel)
set_option maxRecDepth 65536 in
theorem w_c6 : (Jvm.Cond.code ({ cls := "java/lang/StringUTF16", name := "coderFromArrayLen", desc := "([BI)B" } : Jvm.MethodName) jdk_52_method_15_code (2 : Nat) (Option.some Jvm.ClassFile.FieldType.byte)).before args0 about1 = true := code_word (m := ⟨8, 1⟩) (meth := k8m1) (c := k8c1) (by decide +kernel) rfl rfl rfl (by decide +kernel)
set_option maxRecDepth 65536 in
theorem w_c7 : (Jvm.Cond.code ({ cls := "java/lang/Integer", name := "valueOf", desc := "(I)Ljava/lang/Integer;" } : Jvm.MethodName) jdk_33_method_22_code (1 : Nat) (Option.some (Jvm.ClassFile.FieldType.object "java/lang/Integer"))).before args0 about1 = true := code_word (m := ⟨11, 0⟩) (meth := k11m0) (c := k11c0) (by decide +kernel) rfl rfl rfl (by decide +kernel)
set_option maxRecDepth 65536 in
theorem w_c8 : (Jvm.Cond.code ({ cls := "com/example/lowr/lowr/model/FormulaText", name := "<init>", desc := "(Ljava/lang/String;Ljava/lang/Object;)V" } : Jvm.MethodName) prog_55_method_1_code (3 : Nat) (Option.none : Option Jvm.ClassFile.FieldType)).before args0 about1 = true := code_word (m := ⟨9, 0⟩) (meth := k9m0) (c := k9c0) (by decide +kernel) rfl rfl rfl (by decide +kernel)
set_option maxRecDepth 65536 in
theorem w_c9 : (Jvm.Cond.code ({ cls := "java/util/Objects", name := "requireNonNull", desc := "(Ljava/lang/Object;Ljava/lang/String;)Ljava/lang/Object;" } : Jvm.MethodName) jdk_31_method_11_code (2 : Nat) (Option.some (Jvm.ClassFile.FieldType.object "java/lang/Object"))).before args0 about1 = true := code_word (m := ⟨13, 1⟩) (meth := k13m1) (c := k13c1) (by decide +kernel) rfl rfl rfl (by decide +kernel)
set_option maxRecDepth 65536 in
theorem w_c10 : (Jvm.Cond.code ({ cls := "com/example/lowr/lowr/model/FormulaText", name := "<init>", desc := "(Ljava/lang/String;Ljava/lang/Object;Ljava/lang/String;)V" } : Jvm.MethodName) prog_55_method_2_code (4 : Nat) (Option.none : Option Jvm.ClassFile.FieldType)).before args0 about1 = true := code_word (m := ⟨9, 1⟩) (meth := k9m1) (c := k9c1) (by decide +kernel) rfl rfl rfl (by decide +kernel)
set_option maxRecDepth 65536 in
theorem w_c11 : (Jvm.Cond.code ({ cls := "com/example/lowr/lowr/model/FormulaText", name := "isReadable", desc := "()Z" } : Jvm.MethodName) prog_55_method_5_code (1 : Nat) (Option.some Jvm.ClassFile.FieldType.boolean)).before args0 about1 = true := code_word (m := ⟨9, 3⟩) (meth := k9m3) (c := k9c3) (by decide +kernel) rfl rfl rfl (by decide +kernel)
set_option maxRecDepth 65536 in
theorem w_c12 : (Jvm.Cond.code ({ cls := "com/example/lowr/lowr/model/FormulaText", name := "getRefusal", desc := "()Ljava/lang/String;" } : Jvm.MethodName) prog_55_method_7_code (1 : Nat) (Option.some (Jvm.ClassFile.FieldType.object "java/lang/String"))).before args0 about1 = true := code_word (m := ⟨9, 5⟩) (meth := k9m5) (c := k9c5) (by decide +kernel) rfl rfl rfl (by decide +kernel)
set_option maxRecDepth 65536 in
theorem w_c13 : (Jvm.Cond.code ({ cls := "com/example/lowr/lowr/model/FormulaText", name := "getFormula", desc := "()Ljava/lang/Object;" } : Jvm.MethodName) prog_55_method_6_code (1 : Nat) (Option.some (Jvm.ClassFile.FieldType.object "java/lang/Object"))).before args0 about1 = true := code_word (m := ⟨9, 4⟩) (meth := k9m4) (c := k9c4) (by decide +kernel) rfl rfl rfl (by decide +kernel)
set_option maxRecDepth 65536 in
theorem w_c14 : (Jvm.Cond.code ({ cls := "java/lang/Integer", name := "intValue", desc := "()I" } : Jvm.MethodName) jdk_33_method_27_code (1 : Nat) (Option.some Jvm.ClassFile.FieldType.int)).before args0 about1 = true := code_word (m := ⟨11, 2⟩) (meth := k11m2) (c := k11c2) (by decide +kernel) rfl rfl rfl (by decide +kernel)
set_option maxRecDepth 65536 in
theorem w_c15 : (Jvm.Cond.code ({ cls := "java/lang/String", name := "valueOf", desc := "(C)Ljava/lang/String;" } : Jvm.MethodName) jdk_42_method_139_code (1 : Nat) (Option.some (Jvm.ClassFile.FieldType.object "java/lang/String"))).before args0 about1 = true := code_word (m := ⟨7, 2⟩) (meth := k7m2) (c := k7c2) (by decide +kernel) rfl rfl rfl (by decide +kernel)
set_option maxRecDepth 65536 in
theorem w_c16 : (Jvm.Cond.code ({ cls := "java/lang/StringLatin1", name := "canEncode", desc := "(C)Z" } : Jvm.MethodName) jdk_43_method_3_code (1 : Nat) (Option.some Jvm.ClassFile.FieldType.boolean)).before args0 about1 = true := code_word (m := ⟨14, 1⟩) (meth := k14m1) (c := k14c1) (by decide +kernel) rfl rfl rfl (by decide +kernel)
set_option maxRecDepth 65536 in
theorem w_c17 : (Jvm.Cond.code ({ cls := "java/lang/StringLatin1", name := "toBytes", desc := "(C)[B" } : Jvm.MethodName) jdk_43_method_46_code (1 : Nat) (Option.some (Jvm.ClassFile.FieldType.array Jvm.ClassFile.FieldType.byte))).before args0 about1 = true := code_word (m := ⟨14, 2⟩) (meth := k14m2) (c := k14c2) (by decide +kernel) rfl rfl rfl (by decide +kernel)
set_option maxRecDepth 65536 in
theorem w_c18 : (Jvm.Cond.code ({ cls := "java/lang/String", name := "<init>", desc := "([BB)V" } : Jvm.MethodName) jdk_42_method_151_code (3 : Nat) (Option.none : Option Jvm.ClassFile.FieldType)).before args0 about1 = true := code_word (m := ⟨7, 4⟩) (meth := k7m4) (c := k7c4) (by decide +kernel) rfl rfl rfl (by decide +kernel)
set_option maxRecDepth 65536 in
theorem w_c19 : (Jvm.Cond.code ({ cls := "com/example/lowr/lowr/model/FormulaText", name := "unreadable", desc := "(Ljava/lang/String;Ljava/lang/String;)Lcom/example/lowr/lowr/model/FormulaText;" } : Jvm.MethodName) prog_55_method_3_code (2 : Nat) (Option.some (Jvm.ClassFile.FieldType.object "com/example/lowr/lowr/model/FormulaText"))).before args0 about1 = true := code_word (m := ⟨9, 2⟩) (meth := k9m2) (c := k9c2) (by decide +kernel) rfl rfl rfl (by decide +kernel)
set_option maxRecDepth 65536 in
theorem w_c20 : (Jvm.Cond.code ({ cls := "java/lang/Integer", name := "<init>", desc := "(I)V" } : Jvm.MethodName) jdk_33_method_23_code (2 : Nat) (Option.none : Option Jvm.ClassFile.FieldType)).before args0 about1 = true := code_word (m := ⟨11, 1⟩) (meth := k11m1) (c := k11c1) (by decide +kernel) rfl rfl rfl (by decide +kernel)
set_option maxRecDepth 65536 in
theorem w_c21 : (Jvm.Cond.code ({ cls := "java/lang/Number", name := "<init>", desc := "()V" } : Jvm.MethodName) jdk_18_method_1_code (1 : Nat) (Option.none : Option Jvm.ClassFile.FieldType)).before args0 about1 = true := code_word (m := ⟨10, 0⟩) (meth := k10m0) (c := k10c0) (by decide +kernel) rfl rfl rfl (by decide +kernel)
def codes1 : List Jvm.Cond := [Jvm.Cond.code x code maxLocals ret, Jvm.Cond.code ({ cls := "java/lang/String", name := "<init>", desc := "([C)V" } : Jvm.MethodName) jdk_42_method_3_code (2 : Nat) (Option.none : Option Jvm.ClassFile.FieldType), Jvm.Cond.code ({ cls := "java/lang/String", name := "<init>", desc := "([CIILjava/lang/Void;)V" } : Jvm.MethodName) jdk_42_method_149_code (6 : Nat) (Option.none : Option Jvm.ClassFile.FieldType), Jvm.Cond.code ({ cls := "java/lang/Object", name := "<init>", desc := "()V" } : Jvm.MethodName) object_method_1_code (1 : Nat) (Option.none : Option Jvm.ClassFile.FieldType), Jvm.Cond.code ({ cls := "java/lang/StringUTF16", name := "compress", desc := "([CII)[B" } : Jvm.MethodName) jdk_52_method_16_code (6 : Nat) (Option.some (Jvm.ClassFile.FieldType.array Jvm.ClassFile.FieldType.byte)), Jvm.Cond.code ({ cls := "java/lang/StringUTF16", name := "compress", desc := "([CI[BII)I" } : Jvm.MethodName) jdk_52_method_21_code (7 : Nat) (Option.some Jvm.ClassFile.FieldType.int), Jvm.Cond.code ({ cls := "java/lang/StringUTF16", name := "coderFromArrayLen", desc := "([BI)B" } : Jvm.MethodName) jdk_52_method_15_code (2 : Nat) (Option.some Jvm.ClassFile.FieldType.byte), Jvm.Cond.code ({ cls := "java/lang/Integer", name := "valueOf", desc := "(I)Ljava/lang/Integer;" } : Jvm.MethodName) jdk_33_method_22_code (1 : Nat) (Option.some (Jvm.ClassFile.FieldType.object "java/lang/Integer")), Jvm.Cond.code ({ cls := "com/example/lowr/lowr/model/FormulaText", name := "<init>", desc := "(Ljava/lang/String;Ljava/lang/Object;)V" } : Jvm.MethodName) prog_55_method_1_code (3 : Nat) (Option.none : Option Jvm.ClassFile.FieldType), Jvm.Cond.code ({ cls := "java/util/Objects", name := "requireNonNull", desc := "(Ljava/lang/Object;Ljava/lang/String;)Ljava/lang/Object;" } : Jvm.MethodName) jdk_31_method_11_code (2 : Nat) (Option.some (Jvm.ClassFile.FieldType.object "java/lang/Object")), Jvm.Cond.code ({ cls := "com/example/lowr/lowr/model/FormulaText", name := "<init>", desc := "(Ljava/lang/String;Ljava/lang/Object;Ljava/lang/String;)V" } : Jvm.MethodName) prog_55_method_2_code (4 : Nat) (Option.none : Option Jvm.ClassFile.FieldType), Jvm.Cond.code ({ cls := "com/example/lowr/lowr/model/FormulaText", name := "isReadable", desc := "()Z" } : Jvm.MethodName) prog_55_method_5_code (1 : Nat) (Option.some Jvm.ClassFile.FieldType.boolean), Jvm.Cond.code ({ cls := "com/example/lowr/lowr/model/FormulaText", name := "getRefusal", desc := "()Ljava/lang/String;" } : Jvm.MethodName) prog_55_method_7_code (1 : Nat) (Option.some (Jvm.ClassFile.FieldType.object "java/lang/String")), Jvm.Cond.code ({ cls := "com/example/lowr/lowr/model/FormulaText", name := "getFormula", desc := "()Ljava/lang/Object;" } : Jvm.MethodName) prog_55_method_6_code (1 : Nat) (Option.some (Jvm.ClassFile.FieldType.object "java/lang/Object")), Jvm.Cond.code ({ cls := "java/lang/Integer", name := "intValue", desc := "()I" } : Jvm.MethodName) jdk_33_method_27_code (1 : Nat) (Option.some Jvm.ClassFile.FieldType.int), Jvm.Cond.code ({ cls := "java/lang/String", name := "valueOf", desc := "(C)Ljava/lang/String;" } : Jvm.MethodName) jdk_42_method_139_code (1 : Nat) (Option.some (Jvm.ClassFile.FieldType.object "java/lang/String")), Jvm.Cond.code ({ cls := "java/lang/StringLatin1", name := "canEncode", desc := "(C)Z" } : Jvm.MethodName) jdk_43_method_3_code (1 : Nat) (Option.some Jvm.ClassFile.FieldType.boolean), Jvm.Cond.code ({ cls := "java/lang/StringLatin1", name := "toBytes", desc := "(C)[B" } : Jvm.MethodName) jdk_43_method_46_code (1 : Nat) (Option.some (Jvm.ClassFile.FieldType.array Jvm.ClassFile.FieldType.byte)), Jvm.Cond.code ({ cls := "java/lang/String", name := "<init>", desc := "([BB)V" } : Jvm.MethodName) jdk_42_method_151_code (3 : Nat) (Option.none : Option Jvm.ClassFile.FieldType), Jvm.Cond.code ({ cls := "com/example/lowr/lowr/model/FormulaText", name := "unreadable", desc := "(Ljava/lang/String;Ljava/lang/String;)Lcom/example/lowr/lowr/model/FormulaText;" } : Jvm.MethodName) prog_55_method_3_code (2 : Nat) (Option.some (Jvm.ClassFile.FieldType.object "com/example/lowr/lowr/model/FormulaText")), Jvm.Cond.code ({ cls := "java/lang/Integer", name := "<init>", desc := "(I)V" } : Jvm.MethodName) jdk_33_method_23_code (2 : Nat) (Option.none : Option Jvm.ClassFile.FieldType), Jvm.Cond.code ({ cls := "java/lang/Number", name := "<init>", desc := "()V" } : Jvm.MethodName) jdk_18_method_1_code (1 : Nat) (Option.none : Option Jvm.ClassFile.FieldType)]
set_option maxRecDepth 65536 in
theorem codes_eq : words1.filter isCode = codes1 := rfl
theorem w_codes : ∀ c ∈ words1.filter isCode, c.before args0 about1 = true := by
  rw [codes_eq]
  intro c hc
  simp only [codes1, List.mem_cons, List.not_mem_nil, or_false] at hc
  rcases hc with rfl | rfl | rfl | rfl | rfl | rfl | rfl | rfl | rfl | rfl | rfl | rfl | rfl | rfl | rfl | rfl | rfl | rfl | rfl | rfl | rfl | rfl
  · exact w_c0
  · exact w_c1
  · exact w_c2
  · exact w_c3
  · exact w_c4
  · exact w_c5
  · exact w_c6
  · exact w_c7
  · exact w_c8
  · exact w_c9
  · exact w_c10
  · exact w_c11
  · exact w_c12
  · exact w_c13
  · exact w_c14
  · exact w_c15
  · exact w_c16
  · exact w_c17
  · exact w_c18
  · exact w_c19
  · exact w_c20
  · exact w_c21
set_option maxRecDepth 65536 in
theorem w_t1 : (words1.take 24).all (fun c => isCode c || c.before args0 about1) = true := by decide +kernel
set_option maxRecDepth 65536 in
theorem w_t2 : ((words1.drop 24).take 24).all (fun c => isCode c || c.before args0 about1) = true := by decide +kernel
set_option maxRecDepth 65536 in
theorem w_t3 : (((words1.drop 24).drop 24).take 24).all (fun c => isCode c || c.before args0 about1) = true := by decide +kernel
set_option maxRecDepth 65536 in
theorem w_t4 : ((((words1.drop 24).drop 24).drop 24).take 24).all (fun c => isCode c || c.before args0 about1) = true := by decide +kernel
set_option maxRecDepth 65536 in
theorem w_t5 : ((((words1.drop 24).drop 24).drop 24).drop 24).all (fun c => isCode c || c.before args0 about1) = true := by decide +kernel
theorem w_tables : (allAtoms (Jvm.Cond.code x code maxLocals ret :: tables_1)).before args0 about1 = true := by
  rw [allAtoms_all]
  show words1.all (fun c => c.before args0 about1) = true
  refine all_split ?_ w_codes
  rw [← List.take_append_drop 24 words1, List.all_append, w_t1, ← List.take_append_drop 24 (words1.drop 24), List.all_append, w_t2, ← List.take_append_drop 24 ((words1.drop 24).drop 24), List.all_append, w_t3, ← List.take_append_drop 24 (((words1.drop 24).drop 24).drop 24), List.all_append, w_t4, w_t5]
  rfl
set_option maxRecDepth 65536 in
theorem w_rest : rest_1_c.before args0 about1 = true := by decide +kernel
set_option maxRecDepth 65536 in
theorem w_case : (Jvm.Cond.and given_1 narrow_1).before args0 about1 = true := by decide +kernel
theorem w_applies : (headSpec (Jvm.Cond.code x code maxLocals ret :: tables_1) room_1).applies x e0.platform about1 = true :=
  (Spec.applies_iff w_frames).mpr ⟨w_running, w_runnable, w_alone, w_named, w_hears, w_ripe, w_room, w_tables⟩
theorem atStart : AtStart classFile x code maxLocals ret World_1 tables_1 room_1 Calls_1 rest_1 Pre_1 launch0 p0 e0 about1 theMethod args0 below0 :=
  ⟨lists_1, trivial, launch0.admits_env _ _ _, launch0.least_env, fairChoices_fair.cas, fairChoices_fair.clock, w_frames, w_args, w_heap, w_applies, trivial, w_rest, w_case⟩
end start1
theorem witness_1 : WitnessClaimed_1 := ⟨start1.p0, start1.e0, start1.about1, start1.theMethod, start1.args0, start1.below0, start1.atStart⟩
end Jvm.Pilot.@@N@@
