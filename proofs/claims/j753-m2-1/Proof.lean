import JvmDerived
import JvmDerived.Pilot.@@N@@Statement
import JvmDerived.Pilot.@@N@@Code
set_option linter.unusedVariables false
set_option linter.unusedSimpArgs false
namespace Jvm.OwnKit
open Sem ClassFile Op Lib Bundle Jvm.Stand Jvm.Free Jvm.LawKit Jvm.RoadKit
/-! Own text. 'Here': the run of one method has come to this pc, these locals, this stack, over this heap; the state and the tables at hand are hidden. 'Met': a method's contract; 'Paid': a call of it can be paid. -/
abbrev Ctx : Type := Program × Launch × Env × State × MethodId × Array Value × List Frame × Method × Code × State
def Here (k : Ctx) (R : Room) (Z : State) (EL : List (String × Nat)) (n0 : Nat) (y : MethodName) (B : ByteArray) (ret : Option FieldType) (h0 : Heap) (ws : List Addr) (h : Heap) (pc : Nat) (L : Array Slot) (S : List Value) (ce sl : Nat) (sf : List Addr) : Prop :=
  match k with
  | (p, l, e, s, m, args, below, meth, c, start) =>
    ∃ (T : State) (vm0 : Vm) (k0 : Nat) (locs : List Loc),
      Stand p l e R (s.setVm vm0) m args below meth c T locs ce sl ∧ T.heap = h ∧ s.Since vm0 k0 ∧ k0 ≤ h.size ∧ Z.Warmed39 vm0 ∧ vm0.findClass y.cls = some m.cls ∧ CHr Z EL s.vm s.heap vm0 h ∧ Fr n0 locs ∧
      (s.heap = h0 ∧ Keep h0 h ws ∧ Old Z n0 h ∧ ∀ x ∈ sf, Safe Z EL vm0 h x ∧ x < h.size ∧ n0 ≤ x ∧ (x ∈ ws ∨ h0.size ≤ x)) ∧
      (p.tables.exec = Jvm.exec ∧ c.code = B ∧ L.size = c.maxLocals ∧ meth.sig.returnType = ret ∧ meth.name = y.name ∧ meth.locks = false ∧ ∃ a0, EW Z a0 EL) ∧
      ∀ t, Steps p.tables e below (T.setTop (mkF m pc L S)) t → Steps p.tables e below start t
def Done (k : Ctx) (R : Room) (Z : State) (EL : List (String × Nat)) (n0 : Nat) (h0 : Heap) (ws : List Addr) (Q : Option Value → Heap → Prop) : Prop :=
  match k with
  | (p, l, e, s, m, args, below, meth, c, start) =>
    ∃ s₂ o, Steps p.tables e below start s₂ ∧ s₂.status = .running ∧ Ended s₂ below o ∧ ∃ v L, o = .returned v ∧ (Q v s₂.heap ∧ Keep h0 s₂.heap ws ∧ Fr n0 L) ∧ CHr Z EL s.vm s.heap s₂.vm s₂.heap ∧ ReturnedEndW s o s₂ L R.cells R.slots
def Met (Z : State) (EL : List (String × Nat)) (n0 : Nat) (y : MethodName) (B : ByteArray) (mx : Nat) (ret : Option FieldType) (rm : Room) (as' : Array Value) (h : Heap) (ws : List Addr) (Q : Option Value → Heap → Prop) : Prop :=
  ∀ (l : Launch) (wds : List Jvm.Cond), MetFree l y (head1 (Jvm.Cond.code y B mx ret :: wds) rm) (fun a U => a = as' ∧ Z.Warmed39 U.vm ∧ U.heap = h ∧ CHv Z EL U.vm h ∧ ∀ x ∈ ws, Safe Z EL U.vm h x) (fun _ _ _ _ _ => True)
    (fun _ U o U' => ∃ v L, o = .returned v ∧ (Q v U'.heap ∧ Keep h U'.heap ws ∧ Fr n0 L) ∧ CHr Z EL U.vm U.heap U'.vm U'.heap ∧ ReturnedEndW U o U' L rm.cells rm.slots)
def Paid (k : Ctx) (R : Room) (Z : State) (EL : List (String × Nat)) (n0 : Nat) (z : MethodName) (W : Nat) (as' : Array Value) (h : Heap) (ws : List Addr) (kc ks : Nat) (Q : Option Value → Heap → Prop) : Prop :=
  match k with
  | (p, l, e, s, m, args, below, meth, c, start) =>
    ∀ vm0, Z.Warmed39 vm0 → CHv Z EL vm0 h → (∀ x ∈ ws, Safe Z EL vm0 h x ∧ x < h.size) →
      BackS l R p e below (s.setVm vm0) args z 3 W (fun A a => a = as' ∧ A.U.heap = h ∧ A.cells + kc ≤ R.cells ∧ A.slots + ks ≤ R.slots)
        (fun A _ v D => ∃ L, (Q v D.U.heap ∧ Keep h D.U.heap ws ∧ Fr n0 L) ∧ D.locs = A.locs ++ L ∧ D.cells = A.cells + kc ∧ D.slots = A.slots + ks ∧ CHr Z EL vm0 h D.U.vm D.U.heap)
section Base
variable {k : Ctx} {R rm : Room} {Z : State} {EL : List (String × Nat)} {n0 : Nat} {y z : MethodName} {B bytes : ByteArray} {ret rt : Option FieldType} {h0 h h' : Heap} {ws ws' sf : List Addr} {pc : Nat} {L : Array Slot} {S : List Value} {ce sl mx : Nat} {a0 as' : Array Value} {Q : Option Value → Heap → Prop} {s : State} {vm0 vm1 : Vm} {k0 : Nat}
theorem upd (hC : CHr Z EL s.vm s.heap vm0 h) (hk : k0 ≤ h.size) (hF : s.heap = h0 ∧ Keep h0 h ws ∧ Old Z n0 h ∧ ∀ x ∈ sf, Safe Z EL vm0 h x ∧ x < h.size ∧ n0 ≤ x ∧ (x ∈ ws ∨ h0.size ≤ x)) {w1 : List Addr} (K : Keep h h' w1) (hw : ∀ x ∈ w1, x ∈ sf) :
    CHr Z EL s.vm s.heap vm0 h' ∧ k0 ≤ h'.size ∧ (s.heap = h0 ∧ Keep h0 h' ws ∧ Old Z n0 h' ∧ ∀ x ∈ sf, Safe Z EL vm0 h' x ∧ x < h'.size ∧ n0 ≤ x ∧ (x ∈ ws ∨ h0.size ≤ x)) := by
  obtain ⟨f1, f2, f3, f4⟩ := hF
  have hs : ∀ x ∈ w1, Safe Z EL vm0 h x := fun x q => (f4 x (hw x q)).1
  refine ⟨hC.trans (CHr.keep K hs hC.1), Nat.le_trans hk K.1, f1, f2.trans K (fun x q => (f4 x (hw x q)).2.2.2), f3.keep K (fun x q => (f4 x (hw x q)).2.2.1), fun x q => ?_⟩
  obtain ⟨g1, g2, g3⟩ := f4 x q
  exact ⟨Safe.keep K hs hC.1 g1, Nat.lt_of_lt_of_le g2 K.1, g3⟩
theorem updC (hC : CHr Z EL s.vm s.heap vm0 h) (hF : s.heap = h0 ∧ Keep h0 h ws ∧ Old Z n0 h ∧ ∀ x ∈ sf, Safe Z EL vm0 h x ∧ x < h.size ∧ n0 ≤ x ∧ (x ∈ ws ∨ h0.size ≤ x)) {w1 : List Addr} (K : Keep h h' w1) (hw : ∀ x ∈ w1, x ∈ sf) (A : CHr Z EL vm0 h vm1 h') :
    CHr Z EL s.vm s.heap vm1 h' ∧ (s.heap = h0 ∧ Keep h0 h' ws ∧ Old Z n0 h' ∧ ∀ x ∈ sf, Safe Z EL vm1 h' x ∧ x < h'.size ∧ n0 ≤ x ∧ (x ∈ ws ∨ h0.size ≤ x)) := by
  obtain ⟨f1, f2, f3, f4⟩ := hF
  refine ⟨hC.trans A, f1, f2.trans K (fun x q => (f4 x (hw x q)).2.2.2), f3.keep K (fun x q => (f4 x (hw x q)).2.2.1), fun x q => ?_⟩
  obtain ⟨g1, g2, g3⟩ := f4 x q
  exact ⟨A.safe g2 g1, Nat.lt_of_lt_of_le g2 K.1, g3⟩
theorem extKeep (E : Ext h h') : Keep h h' [] := (Keep.refl h []).ext E
/-- a fresh cell is one more that may be written -/
theorem updN (hC : CHr Z EL s.vm s.heap vm0 h) (hk : k0 ≤ h.size) (hF : s.heap = h0 ∧ Keep h0 h ws ∧ Old Z n0 h ∧ ∀ x ∈ sf, Safe Z EL vm0 h x ∧ x < h.size ∧ n0 ≤ x ∧ (x ∈ ws ∨ h0.size ≤ x)) (E : Ext h h') (hlt : h.size < h'.size) :
    CHr Z EL s.vm s.heap vm0 h' ∧ k0 ≤ h'.size ∧ (s.heap = h0 ∧ Keep h0 h' ws ∧ Old Z n0 h' ∧ ∀ x ∈ h.size :: sf, Safe Z EL vm0 h' x ∧ x < h'.size ∧ n0 ≤ x ∧ (x ∈ ws ∨ h0.size ≤ x)) := by
  obtain ⟨u1, u2, u3, u4, u5, u6⟩ := upd hC hk hF (extKeep E) all0
  refine ⟨u1, u2, u3, u4, u5, fun x q => ?_⟩
  rcases List.mem_cons.mp q with rfl | q
  · exact ⟨Safe.ext E hC.1 (Safe.new (Nat.le_refl _)), hlt, by have := hF.2.2.1.2.1; have := hF.2.2.1.1; omega, Or.inr hF.2.1.1⟩
  · exact u6 x q
theorem Here.go (H : Here k R Z EL n0 y B ret h0 ws h pc L S ce sl sf) {pc' : Nat} {L' : Array Slot} {S' : List Value} (hL : L'.size = L.size)
    (f : ∀ (p : Program) (e : Env) (below : List Frame) (m : MethodId) (c : Code) (T t : State), At T m c below → p.tables.exec = Jvm.exec → c.code = B → Steps p.tables e below (T.setTop (mkF m pc' L' S')) t → Steps p.tables e below (T.setTop (mkF m pc L S)) t) :
    Here k R Z EL n0 y B ret h0 ws h pc' L' S' ce sl sf := by
  obtain ⟨p, l, e, s, m, args, below, meth, c, start⟩ := k
  obtain ⟨T, vm0, k0, locs, X, e1, hS, hk, hZ, hown, hC, hN, hF, ⟨hx, hb, hl, hr⟩, st⟩ := H
  exact ⟨T, vm0, k0, locs, X, e1, hS, hk, hZ, hown, hC, hN, hF, ⟨hx, hb, hL.trans hl, hr⟩, fun t q => st t (f p e below m c T t X.here hx hb q)⟩
/-- a step that reads the tables or the heap -/
theorem Here.goT (H : Here k R Z EL n0 y B ret h0 ws h pc L S ce sl sf) {pc' : Nat} {L' : Array Slot} {S' : List Value} (hL : L'.size = L.size)
    (f : ∀ (p : Program) (l : Launch) (e : Env) (s : State) (m : MethodId) (args : Array Value) (below : List Frame) (meth : Method) (c : Code) (T : State) (locs : List Loc) (ce sl : Nat), Stand p l e R s m args below meth c T locs ce sl → T.heap = h → Z.Warmed39 s.vm → s.vm.findClass y.cls = some m.cls → p.tables.exec = Jvm.exec → c.code = B → L.size = c.maxLocals → s.heap = h0 →
      ∃ T', Stand p l e R s m args below meth c T' locs ce sl ∧ T'.heap = h ∧ ∀ t, Steps p.tables e below (T'.setTop (mkF m pc' L' S')) t → Steps p.tables e below (T.setTop (mkF m pc L S)) t) :
    Here k R Z EL n0 y B ret h0 ws h pc' L' S' ce sl sf := by
  obtain ⟨p, l, e, s, m, args, below, meth, c, start⟩ := k
  obtain ⟨T, vm0, k0, locs, X, e1, hS, hk, hZ, hown, hC, hN, hF, ⟨hx, hb, hl, hr⟩, st⟩ := H
  obtain ⟨T', X', e2, g⟩ := f p l e (s.setVm vm0) m args below meth c T locs ce sl X e1 hZ hown hx hb hl hF.1
  exact ⟨T', vm0, k0, locs, X', e2, hS, hk, hZ, hown, hC, hN, hF, ⟨hx, hb, hL.trans hl, hr⟩, fun t q => st t (g t q)⟩
theorem Here.old (H : Here k R Z EL n0 y B ret h0 ws h pc L S ce sl sf) : Ext Z.heap h := by
  obtain ⟨p, l, e, s, m, args, below, meth, c, start⟩ := k
  obtain ⟨T, vm0, k0, locs, X, e1, hS, hk, hZ, hown, hC, hN, hF, -⟩ := H
  exact hF.2.2.1.2
theorem Here.oldO (H : Here k R Z EL n0 y B ret h0 ws h pc L S ce sl sf) : Old Z n0 h := by
  obtain ⟨p, l, e, s, m, args, below, meth, c, start⟩ := k
  obtain ⟨T, vm0, k0, locs, X, e1, hS, hk, hZ, hown, hC, hN, hF, -⟩ := H
  exact hF.2.2.1
theorem Here.sf_lt (H : Here k R Z EL n0 y B ret h0 ws h pc L S ce sl sf) {x : Addr} (hx : x ∈ sf) : x < h.size ∧ n0 ≤ x := by
  obtain ⟨p, l, e, s, m, args, below, meth, c, start⟩ := k
  obtain ⟨T, vm0, k0, locs, X, e1, hS, hk, hZ, hown, hC, hN, hF, -⟩ := H
  exact ⟨(hF.2.2.2 x hx).2.1, (hF.2.2.2 x hx).2.2.1⟩
theorem Here.kept (H : Here k R Z EL n0 y B ret h0 ws h pc L S ce sl sf) : Keep h0 h ws := by
  obtain ⟨p, l, e, s, m, args, below, meth, c, start⟩ := k
  obtain ⟨T, vm0, k0, locs, X, e1, hS, hk, hZ, hown, hC, hN, hF, -⟩ := H
  exact hF.2.1
/-- fewer promises: more cells and slots booked, a shorter list of what may be written -/
theorem Here.more (H : Here k R Z EL n0 y B ret h0 ws h pc L S ce sl sf) {ce' sl' : Nat} {sf' : List Addr} (hc : ce ≤ ce') (hs : sl ≤ sl') (hf : ∀ x ∈ sf', x ∈ sf) : Here k R Z EL n0 y B ret h0 ws h pc L S ce' sl' sf' := by
  obtain ⟨p, l, e, s, m, args, below, meth, c, start⟩ := k
  obtain ⟨T, vm0, k0, locs, X, e1, hS, hk, hZ, hown, hC, hN, ⟨f1, f2, f3, f4⟩, hr⟩ := H
  exact ⟨T, vm0, k0, locs, X.more hc hs, e1, hS, hk, hZ, hown, hC, hN, ⟨f1, f2, f3, fun x q => f4 x (hf x q)⟩, hr⟩
/-! ### the ends -/
theorem Here.fin (H : Here k R Z EL n0 y B ret h0 ws h pc L S ce sl sf) {v : Option Value} (hv : ret = none → v = none) (hc : ce ≤ R.cells) (hs : sl ≤ R.slots) (hQ : Q v h)
    (f : ∀ (p : Program) (l : Launch) (e : Env) (s : State) (m : MethodId) (args : Array Value) (below : List Frame) (meth : Method) (c : Code) (T : State) (locs : List Loc) (ce sl : Nat) (fs : List Frame), Stand p l e R s m args below meth c T locs ce sl → p.tables.exec = Jvm.exec → c.code = B → meth.sig.returnType = ret →
      (∀ (f : JFrame) (acts : List Action), f.method = m → f.locked = none → f.entered = [] → (doReturn e (T.setTop f) acts v).1 = T.setFrames fs) → Steps p.tables e below (T.setTop (mkF m pc L S)) (T.setFrames fs)) :
    Done k R Z EL n0 h0 ws Q := by
  obtain ⟨p, l, e, s, m, args, below, meth, c, start⟩ := k
  obtain ⟨T, vm0, k0, locs, X, e1, hS, hk, hZ, hown, hC, hN, hF, ⟨hx, hb, hl, hr, hnm, hlk, a0, hE⟩, st⟩ := H
  obtain ⟨fs, g1, g2, g3, gE⟩ := X.leaveW hS (by rw [e1]; exact hk) (v := v) (fun q => hv (hr ▸ q)) hlk
  have hA : CHr Z EL vm0 h T.vm h := CHv.at X hZ hE hC.1
  refine ⟨T.setFrames fs, _, st _ (f p l e _ m args below meth c T locs ce sl fs X hx hb hr g1), g2, g3, v, locs, rfl, ⟨?_, ?_, hN⟩, ?_, ?_⟩
  · show Q v T.heap
    rw [e1]; exact hQ
  · show Keep h0 T.heap ws
    rw [e1]; exact hF.2.1
  · show CHr Z EL s.vm s.heap T.vm T.heap
    rw [e1]; exact hC.trans hA
  · exact ⟨gE.1, gE.2.1, gE.2.2.1, gE.2.2.2.mono hc hs⟩
theorem Here.retI (H : Here k R Z EL n0 y B ret h0 ws h pc L [.int w] ce sl sf) {t : FieldType} (ht : ret = some t) (hn : narrow t (.int w) = .int w) (hti : t = .int ∨ t = .boolean ∨ t = .byte ∨ t = .char ∨ t = .short) (d : decode B pc = .ok (.ireturn, 1)) (hc : ce ≤ R.cells) (hs : sl ≤ R.slots) (hQ : Q (some (.int w)) h) : Done k R Z EL n0 h0 ws Q :=
  H.fin (fun q => by rw [ht] at q; cases q) hc hs hQ fun p l e s m args below meth c T locs ce sl fs X hx hB hr g => X.ireturnOut hx (hr.trans ht) hn hti (Jvm.hb hB d) g
theorem Here.retA (H : Here k R Z EL n0 y B ret h0 ws h pc L [w] ce sl sf) {t : FieldType} (ht : ret = some t) (hi : t.isReference = true) (hw : w.isRef = true) (d : decode B pc = .ok (.areturn, 1)) (hc : ce ≤ R.cells) (hs : sl ≤ R.slots) (hQ : Q (some w) h) : Done k R Z EL n0 h0 ws Q :=
  H.fin (fun q => by rw [ht] at q; cases q) hc hs hQ fun p l e s m args below meth c T locs ce sl fs X hx hB hr g => X.areturnOut hx hw (hr.trans ht) hi (Jvm.hb hB d) g
theorem Here.retV (H : Here k R Z EL n0 y B ret h0 ws h pc L [] ce sl sf) (ht : ret = none) (d : decode B pc = .ok (.return_, 1)) (hc : ce ≤ R.cells) (hs : sl ≤ R.slots) (hQ : Q none h) : Done k R Z EL n0 h0 ws Q :=
  H.fin (fun q => rfl) hc hs hQ fun p l e s m args below meth c T locs ce sl fs X hx hB hr g => X.returnOut hx (hr.trans ht) (Jvm.hb hB d) g
/-! ### the beginning, and a call's payment -/
theorem Met.of_walk {L0 : Array Slot} (pn : plainName y.cls = true) (hEL : EW Z a0 EL) (hO : Old Z n0 h) (hws : ∀ x ∈ ws, x < h.size ∧ n0 ≤ x) (ef : ∀ m, entryFrame m as' mx = mkF m 0 L0 []) (hL : L0.size = mx)
    (body : ∀ k : Ctx, Here k rm Z EL n0 y B ret h ws h 0 L0 [] 0 0 ws → Done k rm Z EL n0 h ws Q) : Met Z EL n0 y B mx ret rm as' h ws Q := by
  intro l wds
  refine MetFree.of_bodySF (plainFor_of_name pn) hisR ?_
  intro p e s m args below meth c s₁ Bd hml0 hP hK
  obtain ⟨rfl, hZ, hh, hC, hsf⟩ := hP
  have X0 : Stand p l e rm s m args below meth c s₁ [] 0 0 := Stand.of_body Bd
  have e0 : s₁.heap = h := by rw [← hh, Bd.state]; rfl
  have H : Here (p, l, e, s, m, args, below, meth, c, s₁.setTop (entryFrame m args mx)) rm Z EL n0 y B ret h ws h 0 L0 [] 0 0 ws :=
    ⟨s₁, s.vm, 0, [], X0, e0, (State.WarmedH.refl s).since 0, Nat.zero_le _, hZ, findClass_of_methodNamed Bd.named, by rw [hh]; exact CHr.refl hC, Fr.nil n0, ⟨hh, Keep.refl _ _, hO, fun x q => ⟨hsf x q, (hws x q).1, (hws x q).2, Or.inl q⟩⟩,
      ⟨Bd.exec, Bd.bytes, hL.trans hml0.symm, Bd.returns, (name_of_methodNamed Bd.named Bd.method).1, BodyLoose.notSynchronized Bd, a0, hEL⟩, fun t q => castTop (ef m) q⟩
  exact body _ H
theorem Paid.of_met {W : Nat} (hM : Met Z EL n0 z bytes mx rt rm as' h ws' Q) (wc : (Jvm.Cond.code z bytes mx rt).before a0 Z = true) (wz : (Jvm.Cond.initialized z.cls).before a0 Z = true) (hEL : EW Z a0 EL) (hf : rm.frames + 1 ≤ R.frames) (hl : W + (mx + 11) + rm.locals ≤ R.locals) :
    Paid k R Z EL n0 z W as' h ws' rm.cells rm.slots Q := by
  obtain ⟨p, l, e, s, m, args, below, meth, c, start⟩ := k
  intro vm0 hZ H hsf
  exact BackS.of_freeW (bytes := bytes) (maxL := mx) (ret := rt) (E := fun _ first o t L kk n => kk = rm.cells ∧ n = rm.slots ∧ (∃ v, o = .returned v ∧ Q v t.heap ∧ Keep h t.heap ws' ∧ Fr n0 L) ∧ CHr Z EL first.vm first.heap t.vm t.heap) (hM l []) hf hl
    (fun m meth c A a Y hp => have hU : Z.Warmed39 A.U.vm := wtrans (s := s.setVm vm0) hZ Y.warmed
      ⟨by show (Jvm.Cond.and _ .tt).before a A.U = true; rw [Cond.before_and, mv hU wc]; rfl, mv hU wc, mv hU wz, hp.2.2.1, hp.2.2.2⟩)
    (fun m meth c A a g mk Y hp => ⟨hp.1, wtrans (s := s.setVm vm0) hZ Y.warmed, hp.2.1, (CHv.at Y hZ hEL H).1, fun x q => (CHv.at Y hZ hEL H).safe (hsf x q).2 (hsf x q).1⟩) (fun _ _ _ _ _ _ _ _ _ => trivial)
    (fun _ _ _ _ ⟨v, L, h1, h2, h3, h4⟩ => ⟨L, _, _, h4, rfl, rfl, ⟨v, h1, h2⟩, h3⟩)
    (fun m meth c A a g mk v t L kk n Y hp _ _ ⟨e1, e2, ⟨v', e3, e4⟩, e5⟩ => by
      cases e3; subst e1 e2
      refine ⟨L, e4, rfl, rfl, rfl, (CHv.at Y hZ hEL H).trans ?_⟩
      rw [← hp.2.1]; exact e5)
/-- a callee that interns nothing, by the library's 'Back' -/
theorem Paid.of_back {W kc ks : Nat} {QB : Option Value → Heap → List Loc → Prop} (hEL : EW Z a0 EL)
    (hB : ∀ (p : Program) (l : Launch) (e : Env) (s : State) (args : Array Value) (below : List Frame), Z.Warmed39 s.vm → Back l R p e below s args z 3 W (fun A a => a = as' ∧ A.U.heap = h ∧ A.cells + kc ≤ R.cells ∧ A.slots + ks ≤ R.slots) (fun A _ v D => ∃ L, QB v D.U.heap L ∧ D.locs = A.locs ++ L ∧ D.cells = A.cells + kc ∧ D.slots = A.slots + ks))
    (hq : ∀ v h' L, QB v h' L → Q v h' ∧ Keep h h' ws' ∧ Fr n0 L) : Paid k R Z EL n0 z W as' h ws' kc ks Q := by
  obtain ⟨p, l, e, s, m, args, below, meth, c, start⟩ := k
  intro vm0 hZ H hsf
  intro m' meth' c' A g ig mk a X hg hsize hdg hW hn hp
  obtain ⟨v, D, X', ⟨L, q1, q2, q3, q4⟩, hsteps⟩ := hB p l e (s.setVm vm0) args below hZ m' meth' c' A g ig mk a X hg hsize hdg hW hn hp
  obtain ⟨r1, r2, r3⟩ := hq _ _ _ q1
  have hs : ∀ x ∈ ws', Safe Z EL vm0 h x := fun x q => (hsf x q).1
  have h1 : CHr Z EL vm0 h vm0 D.U.heap := CHr.keep r2 hs H
  have h2 : CHr Z EL vm0 D.U.heap D.U.vm D.U.heap := CHv.at X' hZ hEL h1.1
  exact ⟨v, D, X'.retabled X'.warmed.wide, X'.warmed.since _, by rw [hp.2.1]; exact r2.1, ⟨L, ⟨r1, r2, r3⟩, q2, q3, q4, h1.trans h2⟩, hsteps⟩
end Base
section Steps
variable {k : Ctx} {R : Room} {Z : State} {EL : List (String × Nat)} {n0 : Nat} {y : MethodName} {B : ByteArray} {ret : Option FieldType} {h0 h : Heap} {ws sf : List Addr} {pc : Nat} {L L' : Array Slot} {S : List Value} {ce sl : Nat} {a0 : Array Value}
theorem Here.iloadN {i : Fin 4} {v : Int32} (H : Here k R Z EL n0 y B ret h0 ws h pc L S ce sl sf) (pc' : Nat)  (d : decode B pc = .ok (.iload_n i, 1)) (hl : L[i.val]? = some (.val (.int v))) (hp : pc + 1 = pc' := by rfl) : Here k R Z EL n0 y B ret h0 ws h pc' L (.int v :: S) ce sl sf := by
  subst hp
  exact H.go rfl fun p e below m c T t A hx hB q => XS.iloadN A hx rfl (Jvm.hb hB d) hl q
theorem Here.iload {i : Nat} {v : Int32} (H : Here k R Z EL n0 y B ret h0 ws h pc L S ce sl sf) (pc' : Nat)  (d : decode B pc = .ok (.iload i, 2)) (hl : L[i]? = some (.val (.int v))) (hp : pc + 2 = pc' := by rfl) : Here k R Z EL n0 y B ret h0 ws h pc' L (.int v :: S) ce sl sf := by
  subst hp
  exact H.go rfl fun p e below m c T t A hx hB q => XS.iload A hx rfl (Jvm.hb hB d) hl q
theorem Here.aloadN {i : Fin 4} {v : Value} (H : Here k R Z EL n0 y B ret h0 ws h pc L S ce sl sf) (pc' : Nat)  (d : decode B pc = .ok (.aload_n i, 1)) (hl : L[i.val]? = some (.val v)) (hv : v.isRef = true := by rfl) (hp : pc + 1 = pc' := by rfl) : Here k R Z EL n0 y B ret h0 ws h pc' L (v :: S) ce sl sf := by
  subst hp
  exact H.go rfl fun p e below m c T t A hx hB q => XS.aloadN A hx rfl (Jvm.hb hB d) hl hv q
theorem Here.aload {i : Nat} {v : Value} (H : Here k R Z EL n0 y B ret h0 ws h pc L S ce sl sf) (pc' : Nat)  (d : decode B pc = .ok (.aload i, 2)) (hl : L[i]? = some (.val v)) (hv : v.isRef = true := by rfl) (hp : pc + 2 = pc' := by rfl) : Here k R Z EL n0 y B ret h0 ws h pc' L (v :: S) ce sl sf := by
  subst hp
  exact H.go rfl fun p e below m c T t A hx hB q => XS.aload A hx rfl (Jvm.hb hB d) hl hv q
theorem Here.lloadN {i : Fin 4} {v : Int64} (H : Here k R Z EL n0 y B ret h0 ws h pc L S ce sl sf) (pc' : Nat)  (d : decode B pc = .ok (.lload_n i, 1)) (hl : L[i.val]? = some (.val (.long v))) (hp : pc + 1 = pc' := by rfl) : Here k R Z EL n0 y B ret h0 ws h pc' L (.long v :: S) ce sl sf := by
  subst hp
  exact H.go rfl fun p e below m c T t A hx hB q => XT.lloadN A hx rfl (Jvm.hb hB d) hl q
theorem Here.lload {i : Nat} {v : Int64} (H : Here k R Z EL n0 y B ret h0 ws h pc L S ce sl sf) (pc' : Nat)  (d : decode B pc = .ok (.lload i, 2)) (hl : L[i]? = some (.val (.long v))) (hp : pc + 2 = pc' := by rfl) : Here k R Z EL n0 y B ret h0 ws h pc' L (.long v :: S) ce sl sf := by
  subst hp
  exact H.go rfl fun p e below m c T t A hx hB q => XT.lload A hx rfl (Jvm.hb hB d) hl q
theorem Here.iconst {i : Int} (H : Here k R Z EL n0 y B ret h0 ws h pc L S ce sl sf) (pc' : Nat) (v : Int32) (d : decode B pc = .ok (.iconst i, 1)) (hv : Int32.ofInt i = v := by rfl) (hp : pc + 1 = pc' := by rfl) : Here k R Z EL n0 y B ret h0 ws h pc' L (.int v :: S) ce sl sf := by
  subst hp
  exact H.go rfl fun p e below m c T t A hx hB q => XT.iconstV A hx rfl v (Jvm.hb hB d) hv q
theorem Here.bipush {i : Int} (H : Here k R Z EL n0 y B ret h0 ws h pc L S ce sl sf) (pc' : Nat) (v : Int32) (d : decode B pc = .ok (.bipush i, 2)) (hv : (Int8.ofInt i).toInt32 = v := by rfl) (hp : pc + 2 = pc' := by rfl) : Here k R Z EL n0 y B ret h0 ws h pc' L (.int v :: S) ce sl sf := by
  subst hp
  exact H.go rfl fun p e below m c T t A hx hB q => XT.bipushV A hx rfl v (Jvm.hb hB d) hv q
theorem Here.sipush {i : Int} (H : Here k R Z EL n0 y B ret h0 ws h pc L S ce sl sf) (pc' : Nat) (v : Int32) (d : decode B pc = .ok (.sipush i, 3)) (hv : (Int16.ofInt i).toInt32 = v := by rfl) (hp : pc + 3 = pc' := by rfl) : Here k R Z EL n0 y B ret h0 ws h pc' L (.int v :: S) ce sl sf := by
  subst hp
  exact H.go rfl fun p e below m c T t A hx hB q => XT.sipushV A hx rfl v (Jvm.hb hB d) hv q
theorem Here.lconst {i : Fin 2} (H : Here k R Z EL n0 y B ret h0 ws h pc L S ce sl sf) (pc' : Nat) (v : Int64) (d : decode B pc = .ok (.lconst i, 1)) (hv : Int64.ofNat i = v := by rfl) (hp : pc + 1 = pc' := by rfl) : Here k R Z EL n0 y B ret h0 ws h pc' L (.long v :: S) ce sl sf := by
  subst hp
  exact H.go rfl fun p e below m c T t A hx hB q => XT.lconstV A hx rfl v (Jvm.hb hB d) hv q
theorem Here.anull  (H : Here k R Z EL n0 y B ret h0 ws h pc L S ce sl sf) (pc' : Nat)  (d : decode B pc = .ok (.aconst_null, 1))  (hp : pc + 1 = pc' := by rfl) : Here k R Z EL n0 y B ret h0 ws h pc' L (.null :: S) ce sl sf := by
  subst hp
  exact H.go rfl fun p e below m c T t A hx hB q => XS.aconstNull A hx rfl (Jvm.hb hB d) q
theorem Here.iadd {x z : Int32} (H : Here k R Z EL n0 y B ret h0 ws h pc L (.int z :: .int x :: S) ce sl sf) (pc' : Nat)  (d : decode B pc = .ok (.iadd, 1))  (hp : pc + 1 = pc' := by rfl) : Here k R Z EL n0 y B ret h0 ws h pc' L (.int (x + z) :: S) ce sl sf := by
  subst hp
  exact H.go rfl fun p e below m c T t A hx hB q => XS.iadd A hx rfl (Jvm.hb hB d) rfl q
theorem Here.isub {x z : Int32} (H : Here k R Z EL n0 y B ret h0 ws h pc L (.int z :: .int x :: S) ce sl sf) (pc' : Nat)  (d : decode B pc = .ok (.isub, 1))  (hp : pc + 1 = pc' := by rfl) : Here k R Z EL n0 y B ret h0 ws h pc' L (.int (x - z) :: S) ce sl sf := by
  subst hp
  exact H.go rfl fun p e below m c T t A hx hB q => XS.isub A hx rfl (Jvm.hb hB d) rfl q
theorem Here.imul {x z : Int32} (H : Here k R Z EL n0 y B ret h0 ws h pc L (.int z :: .int x :: S) ce sl sf) (pc' : Nat)  (d : decode B pc = .ok (.imul, 1))  (hp : pc + 1 = pc' := by rfl) : Here k R Z EL n0 y B ret h0 ws h pc' L (.int (x * z) :: S) ce sl sf := by
  subst hp
  exact H.go rfl fun p e below m c T t A hx hB q => XS.imul A hx rfl (Jvm.hb hB d) rfl q
theorem Here.iand {x z : Int32} (H : Here k R Z EL n0 y B ret h0 ws h pc L (.int z :: .int x :: S) ce sl sf) (pc' : Nat)  (d : decode B pc = .ok (.iand, 1))  (hp : pc + 1 = pc' := by rfl) : Here k R Z EL n0 y B ret h0 ws h pc' L (.int (x &&& z) :: S) ce sl sf := by
  subst hp
  exact H.go rfl fun p e below m c T t A hx hB q => XS.iand A hx rfl (Jvm.hb hB d) rfl q
theorem Here.ior {x z : Int32} (H : Here k R Z EL n0 y B ret h0 ws h pc L (.int z :: .int x :: S) ce sl sf) (pc' : Nat)  (d : decode B pc = .ok (.ior, 1))  (hp : pc + 1 = pc' := by rfl) : Here k R Z EL n0 y B ret h0 ws h pc' L (.int (x ||| z) :: S) ce sl sf := by
  subst hp
  exact H.go rfl fun p e below m c T t A hx hB q => XT.ior A hx rfl (Jvm.hb hB d) rfl q
theorem Here.ixor {x z : Int32} (H : Here k R Z EL n0 y B ret h0 ws h pc L (.int z :: .int x :: S) ce sl sf) (pc' : Nat)  (d : decode B pc = .ok (.ixor, 1))  (hp : pc + 1 = pc' := by rfl) : Here k R Z EL n0 y B ret h0 ws h pc' L (.int (x ^^^ z) :: S) ce sl sf := by
  subst hp
  exact H.go rfl fun p e below m c T t A hx hB q => XT.ixor A hx rfl (Jvm.hb hB d) rfl q
theorem Here.ishl {x z : Int32} (H : Here k R Z EL n0 y B ret h0 ws h pc L (.int z :: .int x :: S) ce sl sf) (pc' : Nat)  (d : decode B pc = .ok (.ishl, 1))  (hp : pc + 1 = pc' := by rfl) : Here k R Z EL n0 y B ret h0 ws h pc' L (.int (x <<< (z &&& 31)) :: S) ce sl sf := by
  subst hp
  exact H.go rfl fun p e below m c T t A hx hB q => XT.ishl A hx rfl (Jvm.hb hB d) rfl q
theorem Here.ishr {x z : Int32} (H : Here k R Z EL n0 y B ret h0 ws h pc L (.int z :: .int x :: S) ce sl sf) (pc' : Nat)  (d : decode B pc = .ok (.ishr, 1))  (hp : pc + 1 = pc' := by rfl) : Here k R Z EL n0 y B ret h0 ws h pc' L (.int (x >>> (z &&& 31)) :: S) ce sl sf := by
  subst hp
  exact H.go rfl fun p e below m c T t A hx hB q => XT.ishr A hx rfl (Jvm.hb hB d) rfl q
theorem Here.iushr {x z : Int32} (H : Here k R Z EL n0 y B ret h0 ws h pc L (.int z :: .int x :: S) ce sl sf) (pc' : Nat)  (d : decode B pc = .ok (.iushr, 1))  (hp : pc + 1 = pc' := by rfl) : Here k R Z EL n0 y B ret h0 ws h pc' L (.int ((x.toUInt32 >>> (z &&& 31).toUInt32).toInt32) :: S) ce sl sf := by
  subst hp
  exact H.go rfl fun p e below m c T t A hx hB q => XT.iushr A hx rfl (Jvm.hb hB d) rfl q
theorem Here.idiv {x z : Int32} (H : Here k R Z EL n0 y B ret h0 ws h pc L (.int z :: .int x :: S) ce sl sf) (pc' : Nat)  (d : decode B pc = .ok (.idiv, 1)) (hz : z ≠ 0) (hp : pc + 1 = pc' := by rfl) : Here k R Z EL n0 y B ret h0 ws h pc' L (.int (x / z) :: S) ce sl sf := by
  subst hp
  exact H.go rfl fun p e below m c T t A hx hB q => XS.idiv A hx rfl (Jvm.hb hB d) rfl hz q
theorem Here.irem {x z : Int32} (H : Here k R Z EL n0 y B ret h0 ws h pc L (.int z :: .int x :: S) ce sl sf) (pc' : Nat) (d : decode B pc = .ok (.irem, 1)) (hz : z ≠ 0) (hp : pc + 1 = pc' := by rfl) : Here k R Z EL n0 y B ret h0 ws h pc' L (.int (x % z) :: S) ce sl sf := by
  subst hp
  have e1 : x - x / z * z = x % z := irem_eq_mod x z
  exact H.go rfl fun p e below m c T t A hx hB q => XS.irem A hx rfl (Jvm.hb hB d) rfl hz (by rw [e1]; exact q)
theorem Here.ineg {x : Int32} (H : Here k R Z EL n0 y B ret h0 ws h pc L (.int x :: S) ce sl sf) (pc' : Nat)  (d : decode B pc = .ok (.ineg, 1))  (hp : pc + 1 = pc' := by rfl) : Here k R Z EL n0 y B ret h0 ws h pc' L (.int (-x) :: S) ce sl sf := by
  subst hp
  exact H.go rfl fun p e below m c T t A hx hB q => XS.ineg A hx rfl (Jvm.hb hB d) rfl q
theorem Here.i2c {x : Int32} (H : Here k R Z EL n0 y B ret h0 ws h pc L (.int x :: S) ce sl sf) (pc' : Nat)  (d : decode B pc = .ok (.i2c, 1))  (hp : pc + 1 = pc' := by rfl) : Here k R Z EL n0 y B ret h0 ws h pc' L (.int x.toUInt32.toUInt16.toUInt32.toInt32 :: S) ce sl sf := by
  subst hp
  exact H.go rfl fun p e below m c T t A hx hB q => XT.i2c A hx rfl (Jvm.hb hB d) rfl q
theorem Here.i2b {x : Int32} (H : Here k R Z EL n0 y B ret h0 ws h pc L (.int x :: S) ce sl sf) (pc' : Nat)  (d : decode B pc = .ok (.i2b, 1))  (hp : pc + 1 = pc' := by rfl) : Here k R Z EL n0 y B ret h0 ws h pc' L (.int x.toInt8.toInt32 :: S) ce sl sf := by
  subst hp
  exact H.go rfl fun p e below m c T t A hx hB q => XT.i2b A hx rfl (Jvm.hb hB d) rfl q
theorem Here.i2l {x : Int32} (H : Here k R Z EL n0 y B ret h0 ws h pc L (.int x :: S) ce sl sf) (pc' : Nat)  (d : decode B pc = .ok (.i2l, 1))  (hp : pc + 1 = pc' := by rfl) : Here k R Z EL n0 y B ret h0 ws h pc' L (.long x.toInt64 :: S) ce sl sf := by
  subst hp
  exact H.go rfl fun p e below m c T t A hx hB q => XT.i2l A hx rfl (Jvm.hb hB d) rfl q
theorem Here.l2i {x : Int64} (H : Here k R Z EL n0 y B ret h0 ws h pc L (.long x :: S) ce sl sf) (pc' : Nat)  (d : decode B pc = .ok (.l2i, 1))  (hp : pc + 1 = pc' := by rfl) : Here k R Z EL n0 y B ret h0 ws h pc' L (.int x.toInt32 :: S) ce sl sf := by
  subst hp
  exact H.go rfl fun p e below m c T t A hx hB q => XT.l2i A hx rfl (Jvm.hb hB d) rfl q
theorem Here.ladd {x z : Int64} (H : Here k R Z EL n0 y B ret h0 ws h pc L (.long z :: .long x :: S) ce sl sf) (pc' : Nat)  (d : decode B pc = .ok (.ladd, 1))  (hp : pc + 1 = pc' := by rfl) : Here k R Z EL n0 y B ret h0 ws h pc' L (.long (x + z) :: S) ce sl sf := by
  subst hp
  exact H.go rfl fun p e below m c T t A hx hB q => XT.ladd A hx rfl (Jvm.hb hB d) rfl q
theorem Here.lsub {x z : Int64} (H : Here k R Z EL n0 y B ret h0 ws h pc L (.long z :: .long x :: S) ce sl sf) (pc' : Nat)  (d : decode B pc = .ok (.lsub, 1))  (hp : pc + 1 = pc' := by rfl) : Here k R Z EL n0 y B ret h0 ws h pc' L (.long (x - z) :: S) ce sl sf := by
  subst hp
  exact H.go rfl fun p e below m c T t A hx hB q => XT.lsub A hx rfl (Jvm.hb hB d) rfl q
theorem Here.lmul {x z : Int64} (H : Here k R Z EL n0 y B ret h0 ws h pc L (.long z :: .long x :: S) ce sl sf) (pc' : Nat)  (d : decode B pc = .ok (.lmul, 1))  (hp : pc + 1 = pc' := by rfl) : Here k R Z EL n0 y B ret h0 ws h pc' L (.long (x * z) :: S) ce sl sf := by
  subst hp
  exact H.go rfl fun p e below m c T t A hx hB q => XT.lmul A hx rfl (Jvm.hb hB d) rfl q
theorem Here.land {x z : Int64} (H : Here k R Z EL n0 y B ret h0 ws h pc L (.long z :: .long x :: S) ce sl sf) (pc' : Nat)  (d : decode B pc = .ok (.land, 1))  (hp : pc + 1 = pc' := by rfl) : Here k R Z EL n0 y B ret h0 ws h pc' L (.long (x &&& z) :: S) ce sl sf := by
  subst hp
  exact H.go rfl fun p e below m c T t A hx hB q => XT.land A hx rfl (Jvm.hb hB d) rfl q
theorem Here.lor {x z : Int64} (H : Here k R Z EL n0 y B ret h0 ws h pc L (.long z :: .long x :: S) ce sl sf) (pc' : Nat)  (d : decode B pc = .ok (.lor, 1))  (hp : pc + 1 = pc' := by rfl) : Here k R Z EL n0 y B ret h0 ws h pc' L (.long (x ||| z) :: S) ce sl sf := by
  subst hp
  exact H.go rfl fun p e below m c T t A hx hB q => XT.lor A hx rfl (Jvm.hb hB d) rfl q
theorem Here.lushr {x : Int64} {z : Int32} (H : Here k R Z EL n0 y B ret h0 ws h pc L (.int z :: .long x :: S) ce sl sf) (pc' : Nat)  (d : decode B pc = .ok (.lushr, 1))  (hp : pc + 1 = pc' := by rfl) : Here k R Z EL n0 y B ret h0 ws h pc' L (.long (XT.ushrL x z) :: S) ce sl sf := by
  subst hp
  exact H.go rfl fun p e below m c T t A hx hB q => XT.lushr A hx rfl (Jvm.hb hB d) rfl q
theorem Here.ldiv {x z : Int64} (H : Here k R Z EL n0 y B ret h0 ws h pc L (.long z :: .long x :: S) ce sl sf) (pc' : Nat)  (d : decode B pc = .ok (.ldiv, 1)) (hz : z ≠ 0) (hp : pc + 1 = pc' := by rfl) : Here k R Z EL n0 y B ret h0 ws h pc' L (.long (x / z) :: S) ce sl sf := by
  subst hp
  exact H.go rfl fun p e below m c T t A hx hB q => XT.ldiv A hx rfl (Jvm.hb hB d) rfl hz q
theorem Here.lneg {x : Int64} (H : Here k R Z EL n0 y B ret h0 ws h pc L (.long x :: S) ce sl sf) (pc' : Nat)  (d : decode B pc = .ok (.lneg, 1))  (hp : pc + 1 = pc' := by rfl) : Here k R Z EL n0 y B ret h0 ws h pc' L (.long (-x) :: S) ce sl sf := by
  subst hp
  exact H.go rfl fun p e below m c T t A hx hB q => XT.lneg A hx rfl (Jvm.hb hB d) rfl q
theorem Here.lcmp {x z : Int64} (H : Here k R Z EL n0 y B ret h0 ws h pc L (.long z :: .long x :: S) ce sl sf) (pc' : Nat)  (d : decode B pc = .ok (.lcmp, 1))  (hp : pc + 1 = pc' := by rfl) : Here k R Z EL n0 y B ret h0 ws h pc' L (.int (XT.cmpL x z) :: S) ce sl sf := by
  subst hp
  exact H.go rfl fun p e below m c T t A hx hB q => XT.lcmp A hx rfl (Jvm.hb hB d) rfl q
theorem Here.dup {v : Value} (H : Here k R Z EL n0 y B ret h0 ws h pc L (v :: S) ce sl sf) (pc' : Nat)  (d : decode B pc = .ok (.dup, 1)) (hc : v.category = 1 := by rfl) (hp : pc + 1 = pc' := by rfl) : Here k R Z EL n0 y B ret h0 ws h pc' L (v :: v :: S) ce sl sf := by
  subst hp
  exact H.go rfl fun p e below m c T t A hx hB q => XS.dup A hx rfl (Jvm.hb hB d) rfl hc q
theorem Here.pop {v : Value} (H : Here k R Z EL n0 y B ret h0 ws h pc L (v :: S) ce sl sf) (pc' : Nat)  (d : decode B pc = .ok (.pop, 1)) (hc : v.category = 1 := by rfl) (hp : pc + 1 = pc' := by rfl) : Here k R Z EL n0 y B ret h0 ws h pc' L S ce sl sf := by
  subst hp
  exact H.go rfl fun p e below m c T t A hx hB q => XT.pop A hx rfl (Jvm.hb hB d) rfl hc q
theorem Here.istoreN {i : Fin 4} {x : Int32} (H : Here k R Z EL n0 y B ret h0 ws h pc L (.int x :: S) ce sl sf) (pc' : Nat)  (d : decode B pc = .ok (.istore_n i, 1)) (hl : storeLocals L i.val (.int x) = some L') (hz : L'.size = L.size := by rfl) (hp : pc + 1 = pc' := by rfl) : Here k R Z EL n0 y B ret h0 ws h pc' L' S ce sl sf := by
  subst hp
  exact H.go hz fun p e below m c T t A hx hB q => XS.istoreN A hx rfl (Jvm.hb hB d) rfl hl q
theorem Here.istore {i : Nat} {x : Int32} (H : Here k R Z EL n0 y B ret h0 ws h pc L (.int x :: S) ce sl sf) (pc' : Nat)  (d : decode B pc = .ok (.istore i, 2)) (hl : storeLocals L i (.int x) = some L') (hz : L'.size = L.size := by rfl) (hp : pc + 2 = pc' := by rfl) : Here k R Z EL n0 y B ret h0 ws h pc' L' S ce sl sf := by
  subst hp
  exact H.go hz fun p e below m c T t A hx hB q => XS.istore A hx rfl (Jvm.hb hB d) rfl hl q
theorem Here.astoreN {i : Fin 4} {x : Value} (H : Here k R Z EL n0 y B ret h0 ws h pc L (x :: S) ce sl sf) (pc' : Nat)  (d : decode B pc = .ok (.astore_n i, 1)) (hl : storeLocals L i.val x = some L') (hv : x.isRef = true := by rfl) (hz : L'.size = L.size := by rfl) (hp : pc + 1 = pc' := by rfl) : Here k R Z EL n0 y B ret h0 ws h pc' L' S ce sl sf := by
  subst hp
  exact H.go hz fun p e below m c T t A hx hB q => XS.astoreN A hx rfl (Jvm.hb hB d) rfl hv hl q
theorem Here.astore {i : Nat} {x : Value} (H : Here k R Z EL n0 y B ret h0 ws h pc L (x :: S) ce sl sf) (pc' : Nat)  (d : decode B pc = .ok (.astore i, 2)) (hl : storeLocals L i x = some L') (hv : x.isRef = true := by rfl) (hz : L'.size = L.size := by rfl) (hp : pc + 2 = pc' := by rfl) : Here k R Z EL n0 y B ret h0 ws h pc' L' S ce sl sf := by
  subst hp
  exact H.go hz fun p e below m c T t A hx hB q => XS.astore A hx rfl (Jvm.hb hB d) rfl hv hl q
theorem Here.lstoreN {i : Fin 4} {x : Int64} (H : Here k R Z EL n0 y B ret h0 ws h pc L (.long x :: S) ce sl sf) (pc' : Nat)  (d : decode B pc = .ok (.lstore_n i, 1)) (hl : storeLocals L i.val (.long x) = some L') (hz : L'.size = L.size := by rfl) (hp : pc + 1 = pc' := by rfl) : Here k R Z EL n0 y B ret h0 ws h pc' L' S ce sl sf := by
  subst hp
  exact H.go hz fun p e below m c T t A hx hB q => XT.lstoreN A hx rfl (Jvm.hb hB d) rfl hl q
theorem Here.lstore {i : Nat} {x : Int64} (H : Here k R Z EL n0 y B ret h0 ws h pc L (.long x :: S) ce sl sf) (pc' : Nat)  (d : decode B pc = .ok (.lstore i, 2)) (hl : storeLocals L i (.long x) = some L') (hz : L'.size = L.size := by rfl) (hp : pc + 2 = pc' := by rfl) : Here k R Z EL n0 y B ret h0 ws h pc' L' S ce sl sf := by
  subst hp
  exact H.go hz fun p e below m c T t A hx hB q => XT.lstore A hx rfl (Jvm.hb hB d) rfl hl q
theorem Here.iinc {i : Nat} {cst : Int} {x : Int32} (H : Here k R Z EL n0 y B ret h0 ws h pc L S ce sl sf) (pc' : Nat) (v : Int32) (d : decode B pc = .ok (.iinc i cst, 3)) (hl : L[i]? = some (.val (.int x))) (hl' : storeLocals L i (.int (x + v)) = some L') (hv : Int32.ofInt cst = v := by rfl) (hz : L'.size = L.size := by rfl) (hp : pc + 3 = pc' := by rfl) : Here k R Z EL n0 y B ret h0 ws h pc' L' S ce sl sf := by
  subst hp
  exact H.go hz fun p e below m c T t A hx hB q => XT.iincV A hx rfl v (Jvm.hb hB d) hv hl hl' q
theorem Here.goto  (H : Here k R Z EL n0 y B ret h0 ws h pc L S ce sl sf) (pc' : Nat)  {o : Int} (d : decode B pc = .ok (.goto o, 3))  (ho : 0 ≤ (pc : Int) + o := by decide) (hp : ((pc : Int) + o).toNat = pc' := by rfl) : Here k R Z EL n0 y B ret h0 ws h pc' L S ce sl sf :=
  H.go rfl fun p e below m c T t A hx hB q => XS.goto A hx rfl rfl (Jvm.hb hB d) ho hp q
theorem Here.ifYes {cd : ClassFile.Cond} {x : Int32} (H : Here k R Z EL n0 y B ret h0 ws h pc L (.int x :: S) ce sl sf) (pc' : Nat)  {o : Int} (d : decode B pc = .ok (.ifCond cd o, 3)) (hc : ifCond.holds cd x = true) (ho : 0 ≤ (pc : Int) + o := by decide) (hp : ((pc : Int) + o).toNat = pc' := by rfl) : Here k R Z EL n0 y B ret h0 ws h pc' L S ce sl sf :=
  H.go rfl fun p e below m c T t A hx hB q => XS.ifYes A hx rfl rfl (Jvm.hb hB d) rfl hc ho hp q
theorem Here.ifNo {cd : ClassFile.Cond} {o : Int} {x : Int32} (H : Here k R Z EL n0 y B ret h0 ws h pc L (.int x :: S) ce sl sf) (pc' : Nat)  (d : decode B pc = .ok (.ifCond cd o, 3)) (hc : ifCond.holds cd x = false) (hp : pc + 3 = pc' := by rfl) : Here k R Z EL n0 y B ret h0 ws h pc' L S ce sl sf := by
  subst hp
  exact H.go rfl fun p e below m c T t A hx hB q => XS.ifNo A hx rfl (Jvm.hb hB d) rfl hc q
theorem Here.icmpYes {cd : ClassFile.Cond} {x z : Int32} (H : Here k R Z EL n0 y B ret h0 ws h pc L (.int z :: .int x :: S) ce sl sf) (pc' : Nat)  {o : Int} (d : decode B pc = .ok (.if_icmp cd o, 3)) (hc : if_icmp.holds cd x z = true) (ho : 0 ≤ (pc : Int) + o := by decide) (hp : ((pc : Int) + o).toNat = pc' := by rfl) : Here k R Z EL n0 y B ret h0 ws h pc' L S ce sl sf :=
  H.go rfl fun p e below m c T t A hx hB q => XS.icmpYes A hx rfl rfl (Jvm.hb hB d) rfl hc ho hp q
theorem Here.icmpNo {cd : ClassFile.Cond} {o : Int} {x z : Int32} (H : Here k R Z EL n0 y B ret h0 ws h pc L (.int z :: .int x :: S) ce sl sf) (pc' : Nat)  (d : decode B pc = .ok (.if_icmp cd o, 3)) (hc : if_icmp.holds cd x z = false) (hp : pc + 3 = pc' := by rfl) : Here k R Z EL n0 y B ret h0 ws h pc' L S ce sl sf := by
  subst hp
  exact H.go rfl fun p e below m c T t A hx hB q => XS.icmpNo A hx rfl (Jvm.hb hB d) rfl hc q
theorem Here.nullYes  (H : Here k R Z EL n0 y B ret h0 ws h pc L (.null :: S) ce sl sf) (pc' : Nat)  {o : Int} (d : decode B pc = .ok (.ifnull o, 3))  (ho : 0 ≤ (pc : Int) + o := by decide) (hp : ((pc : Int) + o).toNat = pc' := by rfl) : Here k R Z EL n0 y B ret h0 ws h pc' L S ce sl sf :=
  H.go rfl fun p e below m c T t A hx hB q => XS.ifnullYes A hx rfl rfl (Jvm.hb hB d) rfl ho hp q
theorem Here.nullNo {o : Int} {b : Addr} (H : Here k R Z EL n0 y B ret h0 ws h pc L (.ref b :: S) ce sl sf) (pc' : Nat)  (d : decode B pc = .ok (.ifnull o, 3))  (hp : pc + 3 = pc' := by rfl) : Here k R Z EL n0 y B ret h0 ws h pc' L S ce sl sf := by
  subst hp
  exact H.go rfl fun p e below m c T t A hx hB q => XS.ifnullNo A hx rfl (Jvm.hb hB d) rfl q
theorem Here.nonnullYes {b : Addr} (H : Here k R Z EL n0 y B ret h0 ws h pc L (.ref b :: S) ce sl sf) (pc' : Nat)  {o : Int} (d : decode B pc = .ok (.ifnonnull o, 3))  (ho : 0 ≤ (pc : Int) + o := by decide) (hp : ((pc : Int) + o).toNat = pc' := by rfl) : Here k R Z EL n0 y B ret h0 ws h pc' L S ce sl sf :=
  H.go rfl fun p e below m c T t A hx hB q => XT.ifnonnullYes A hx rfl rfl (Jvm.hb hB d) rfl ho hp q
theorem Here.nonnullNo {o : Int} (H : Here k R Z EL n0 y B ret h0 ws h pc L (.null :: S) ce sl sf) (pc' : Nat)  (d : decode B pc = .ok (.ifnonnull o, 3))  (hp : pc + 3 = pc' := by rfl) : Here k R Z EL n0 y B ret h0 ws h pc' L S ce sl sf := by
  subst hp
  exact H.go rfl fun p e below m c T t A hx hB q => XT.ifnonnullNo A hx rfl (Jvm.hb hB d) rfl q
theorem Here.acmpYes {cd : ClassFile.ACond} {u v : Value} (H : Here k R Z EL n0 y B ret h0 ws h pc L (v :: u :: S) ce sl sf) (pc' : Nat)  {o : Int} (d : decode B pc = .ok (.if_acmp cd o, 3)) (hc : XT.acmp cd u v = true) (hu : u.isRef = true := by rfl) (hv : v.isRef = true := by rfl) (ho : 0 ≤ (pc : Int) + o := by decide) (hp : ((pc : Int) + o).toNat = pc' := by rfl) : Here k R Z EL n0 y B ret h0 ws h pc' L S ce sl sf :=
  H.go rfl fun p e below m c T t A hx hB q => XT.acmpYes A hx rfl rfl (Jvm.hb hB d) rfl hu hv hc ho hp q
theorem Here.acmpNo {cd : ClassFile.ACond} {o : Int} {u v : Value} (H : Here k R Z EL n0 y B ret h0 ws h pc L (v :: u :: S) ce sl sf) (pc' : Nat)  (d : decode B pc = .ok (.if_acmp cd o, 3)) (hc : XT.acmp cd u v = false) (hu : u.isRef = true := by rfl) (hv : v.isRef = true := by rfl) (hp : pc + 3 = pc' := by rfl) : Here k R Z EL n0 y B ret h0 ws h pc' L S ce sl sf := by
  subst hp
  exact H.go rfl fun p e below m c T t A hx hB q => XT.acmpNo A hx rfl (Jvm.hb hB d) rfl hu hv hc q
end Steps
section HeapSteps
variable {k : Ctx} {R : Room} {Z : State} {EL : List (String × Nat)} {n0 : Nat} {y : MethodName} {B : ByteArray} {ret : Option FieldType} {h0 h : Heap} {ws sf : List Addr} {pc : Nat} {L : Array Slot} {S : List Value} {ce sl : Nat} {a0 : Array Value}
theorem Here.getF (H : Here k R Z EL n0 y B ret h0 ws h pc L (.ref a :: S) ce sl sf) (pc' : Nat) {index : Nat} {O n d : String} {v : Value} (w : (Jvm.Cond.fieldLink y.cls index O n d).before a0 Z = true) (F : Fld Z h a O n d v) (dd : decode B pc = .ok (.getfield index, 3)) (hp : pc + 3 = pc' := by rfl) : Here k R Z EL n0 y B ret h0 ws h pc' L (v :: S) ce sl sf := by
  subst hp
  exact H.goT rfl fun p l e s m args below meth c T locs ce sl X e1 hZ hown hx hB hl hs => RoadKit.getF X hx hZ hown (host := "") (Or.inl w) Via.refl e1 F (g := mkF m pc L (.ref a :: S)) rfl rfl (Jvm.hb hB dd)
theorem Here.getS (H : Here k R Z EL n0 y B ret h0 ws h pc L S ce sl sf) (pc' : Nat) {index : Nat} {O n d : String} {v : Value} (w : (Jvm.Cond.fieldLink y.cls index O n d).before a0 Z = true) (F : Sta Z h O n d v) (dd : decode B pc = .ok (.getstatic index, 3)) (hp : pc + 3 = pc' := by rfl) : Here k R Z EL n0 y B ret h0 ws h pc' L (v :: S) ce sl sf := by
  subst hp
  exact H.goT rfl fun p l e s m args below meth c T locs ce sl X e1 hZ hown hx hB hl hs => RoadKit.getS X hx hZ (host := "") hown w Via.refl e1 F (g := mkF m pc L S) rfl (Jvm.hb hB dd)
theorem Here.castY (H : Here k R Z EL n0 y B ret h0 ws h pc L (.ref a :: S) ce sl sf) (pc' : Nat) {index : Nat} {K : String} (w : (Jvm.Cond.classLink y.cls index K).before a0 Z = true) (F : Ins Z h a K true) (dd : decode B pc = .ok (.checkcast index, 3)) (hp : pc + 3 = pc' := by rfl) : Here k R Z EL n0 y B ret h0 ws h pc' L (.ref a :: S) ce sl sf := by
  subst hp
  exact H.goT rfl fun p l e s m args below meth c T locs ce sl X e1 hZ hown hx hB hl hs => RoadKit.castY X hx hZ hown w e1 F (g := mkF m pc L (.ref a :: S)) rfl rfl (Jvm.hb hB dd)
theorem Here.instY (H : Here k R Z EL n0 y B ret h0 ws h pc L (.ref a :: S) ce sl sf) (pc' : Nat) {index : Nat} {K : String} (w : (Jvm.Cond.classLink y.cls index K).before a0 Z = true) (F : Ins Z h a K true) (dd : decode B pc = .ok (.instanceof index, 3)) (hp : pc + 3 = pc' := by rfl) : Here k R Z EL n0 y B ret h0 ws h pc' L (.int 1 :: S) ce sl sf := by
  subst hp
  exact H.goT rfl fun p l e s m args below meth c T locs ce sl X e1 hZ hown hx hB hl hs => RoadKit.instY X hx hZ hown w e1 F (g := mkF m pc L (.ref a :: S)) rfl rfl (Jvm.hb hB dd)
theorem Here.instN (H : Here k R Z EL n0 y B ret h0 ws h pc L (.ref a :: S) ce sl sf) (pc' : Nat) {index : Nat} {K C : String} (w : (Jvm.Cond.classLink y.cls index K).before a0 Z = true) (F : Ins Z h0 a K false) (E : Exa Z h0 a C) (dd : decode B pc = .ok (.instanceof index, 3)) (hp : pc + 3 = pc' := by rfl) : Here k R Z EL n0 y B ret h0 ws h pc' L (.int 0 :: S) ce sl sf := by
  subst hp
  exact H.goT rfl fun p l e s m args below meth c T locs ce sl X e1 hZ hown hx hB hl hs => by subst hs; exact RoadKit.instN X hx hZ hown w e1 F E (g := mkF m pc L (.ref a :: S)) rfl rfl (Jvm.hb hB dd)
theorem Here.ldcI (H : Here k R Z EL n0 y B ret h0 ws h pc L S ce sl sf) (pc' : Nat) {index : Nat} {v : Int32} (w : (Jvm.Cond.constant y.cls index v).before a0 Z = true) (dd : decode B pc = .ok (.ldc index, 2)) (hp : pc + 2 = pc' := by rfl) : Here k R Z EL n0 y B ret h0 ws h pc' L (.int v :: S) ce sl sf := by
  subst hp
  exact H.goT rfl fun p l e s m args below meth c T locs ce sl X e1 hZ hown hx hB hl hs => ⟨T, X, e1, fun t q => X.ldcI hx hown (mvT hZ w) (g := mkF m pc L S) rfl (Jvm.hb hB dd) q⟩
theorem Here.ldc2J (H : Here k R Z EL n0 y B ret h0 ws h pc L S ce sl sf) (pc' : Nat) {index : Nat} {v : Int64} (w : (Jvm.Cond.constantLong y.cls index v).before a0 Z = true) (dd : decode B pc = .ok (.ldc2_w index, 3)) (hp : pc + 3 = pc' := by rfl) : Here k R Z EL n0 y B ret h0 ws h pc' L (.long v :: S) ce sl sf := by
  subst hp
  exact H.goT rfl fun p l e s m args below meth c T locs ce sl X e1 hZ hown hx hB hl hs => ⟨T, X, e1, fun t q => X.ldc2J hx hown (mvT hZ w) (g := mkF m pc L S) rfl (Jvm.hb hB dd) q⟩
theorem Here.alen (H : Here k R Z EL n0 y B ret h0 ws h pc L (.ref a :: S) ce sl sf) (pc' : Nat) {kc : ClassId} {ty : FieldType} {z : Int32} {vs : List Value} {dv : Value} (V : Arv Z h a kc ty z vs dv) (dd : decode B pc = .ok (.arraylength, 1)) (hp : pc + 1 = pc' := by rfl) : Here k R Z EL n0 y B ret h0 ws h pc' L (.int z :: S) ce sl sf := by
  subst hp
  obtain ⟨cl, A, -, hsz, hz, -⟩ := V
  exact H.goT rfl fun p l e s m args below meth c T locs ce sl X e1 hZ hown hx hB hl hs => ⟨T, X, e1, fun t q => X.arraylength hx (by rw [e1]; exact A.1) (State.isArrayOf_alike hZ.alike A.2.1) (g := mkF m pc L (.ref a :: S)) rfl rfl (Jvm.hb hB dd) t (by rw [len_of hsz hz]; exact q)⟩
theorem Here.alenA (H : Here k R Z EL n0 y B ret h0 ws h pc L (.ref a :: S) ce sl sf) (pc' : Nat) {cl : Cell} {ty : FieldType} {z : Int32} (A : Arr Z h a cl ty) (hsz : cl.slots.size = z.toNatClampNeg) (hz : ¬ z < 0) (dd : decode B pc = .ok (.arraylength, 1)) (hp : pc + 1 = pc' := by rfl) : Here k R Z EL n0 y B ret h0 ws h pc' L (.int z :: S) ce sl sf := by
  subst hp
  exact H.goT rfl fun p l e s m args below meth c T locs ce sl X e1 hZ hown hx hB hl hs => ⟨T, X, e1, fun t q => X.arraylength hx (by rw [e1]; exact A.1) (State.isArrayOf_alike hZ.alike A.2.1) (g := mkF m pc L (.ref a :: S)) rfl rfl (Jvm.hb hB dd) t (by rw [len_of hsz hz]; exact q)⟩
theorem Here.caload (H : Here k R Z EL n0 y B ret h0 ws h pc L (.int j :: .ref a :: S) ce sl sf) (pc' : Nat) {kc : ClassId} {z : Int32} {vs : List Value} {dv v : Value} (V : Arv Z h a kc .char z vs dv) (hj : ¬ j < 0 ∧ j < z) (hv : vs.getD j.toNatClampNeg dv = v) (dd : decode B pc = .ok (.caload, 1)) (hp : pc + 1 = pc' := by rfl) : Here k R Z EL n0 y B ret h0 ws h pc' L (v :: S) ce sl sf := by
  subst hp
  obtain ⟨cl, A, -, hsz, hz, hh, -⟩ := V
  exact H.goT rfl fun p l e s m args below meth c T locs ce sl X e1 hZ hown hx hB hl hs => ⟨T, X, e1, fun t q => X.caload hx (by rw [e1]; exact A.1) (State.isArrayOf_alike hZ.alike A.2.1) A.2.2 (inb_of hsz hj) (hh.at (inb_of hsz hj) hv) (g := mkF m pc L (.int j :: .ref a :: S)) rfl rfl (Jvm.hb hB dd) t q⟩
theorem Here.baload (H : Here k R Z EL n0 y B ret h0 ws h pc L (.int j :: .ref a :: S) ce sl sf) (pc' : Nat) {kc : ClassId} {z : Int32} {vs : List Value} {dv v : Value} (V : Arv Z h a kc .byte z vs dv) (hj : ¬ j < 0 ∧ j < z) (hv : vs.getD j.toNatClampNeg dv = v) (dd : decode B pc = .ok (.baload, 1)) (hp : pc + 1 = pc' := by rfl) : Here k R Z EL n0 y B ret h0 ws h pc' L (v :: S) ce sl sf := by
  subst hp
  obtain ⟨cl, A, -, hsz, hz, hh, -⟩ := V
  exact H.goT rfl fun p l e s m args below meth c T locs ce sl X e1 hZ hown hx hB hl hs => ⟨T, X, e1, fun t q => X.baloadBytes hx (by rw [e1]; exact A.1) (State.isArrayOf_alike hZ.alike A.2.1) A.2.2 (inb_of hsz hj) (hh.at (inb_of hsz hj) hv) (g := mkF m pc L (.int j :: .ref a :: S)) rfl rfl (Jvm.hb hB dd) t q⟩
theorem Here.aaload (H : Here k R Z EL n0 y B ret h0 ws h pc L (.int j :: .ref a :: S) ce sl sf) (pc' : Nat) {kc : ClassId} {ty : FieldType} {z : Int32} {vs : List Value} {dv v : Value} (V : Arv Z h a kc ty z vs dv) (hty : ty.isReference = true) (hj : ¬ j < 0 ∧ j < z) (hv : vs.getD j.toNatClampNeg dv = v) (dd : decode B pc = .ok (.aaload, 1)) (hp : pc + 1 = pc' := by rfl) : Here k R Z EL n0 y B ret h0 ws h pc' L (v :: S) ce sl sf := by
  subst hp
  obtain ⟨cl, A, -, hsz, hz, hh, -⟩ := V
  exact H.goT rfl fun p l e s m args below meth c T locs ce sl X e1 hZ hown hx hB hl hs => ⟨T, X, e1, fun t q => X.aaload hx (by rw [e1]; exact A.1) (State.isArrayOf_alike hZ.alike A.2.1) hty A.2.2 (inb_of hsz hj) (hh.at (inb_of hsz hj) hv) (g := mkF m pc L (.int j :: .ref a :: S)) rfl rfl (Jvm.hb hB dd) t q⟩
theorem Here.aaloadA (H : Here k R Z EL n0 y B ret h0 ws h pc L (.int j :: .ref a :: S) ce sl sf) (pc' : Nat) {cl : Cell} {ty : FieldType} {v : Value} (A : Arr Z h a cl ty) (hty : ty.isReference = true) (hin : ¬ (j < 0 ∨ cl.slots.size ≤ j.toNatClampNeg)) (hv : cl.slots[j.toNatClampNeg]? = some v) (dd : decode B pc = .ok (.aaload, 1)) (hp : pc + 1 = pc' := by rfl) : Here k R Z EL n0 y B ret h0 ws h pc' L (v :: S) ce sl sf := by
  subst hp
  exact H.goT rfl fun p l e s m args below meth c T locs ce sl X e1 hZ hown hx hB hl hs => ⟨T, X, e1, fun t q => X.aaload hx (by rw [e1]; exact A.1) (State.isArrayOf_alike hZ.alike A.2.1) hty A.2.2 hin hv (g := mkF m pc L (.int j :: .ref a :: S)) rfl rfl (Jvm.hb hB dd) t q⟩
theorem Here.initO (H : Here k R Z EL n0 y B ret h0 ws h pc L (.ref a :: S) ce sl sf) (pc' : Nat) {index : Nat} (w1 : (Jvm.Cond.methodLink y.cls index Lib.objectInit).before a0 Z = true) (w2 : (Jvm.Cond.instanceMethod Lib.objectInit).before a0 Z = true) (w3 : (Jvm.Cond.code Lib.objectInit ⟨#[0xb1]⟩ 1 none).before a0 Z = true) (dd : decode B pc = .ok (.invokespecial index, 3)) (hf : 1 ≤ R.frames) {W : Nat} (hW : (S.map fun v => v.category).sum ≤ W) (hl : W + 12 ≤ R.locals) (hp : pc + 3 = pc' := by rfl) : Here k R Z EL n0 y B ret h0 ws h pc' L S ce sl sf := by
  subst hp
  exact H.goT rfl fun p l e s m args below meth c T locs ce sl X e1 hZ hown hx hB hl' hs => RoadKit.initO X hx hZ hown w1 w2 w3 e1 (g := mkF m pc L (.ref a :: S)) rfl hl' rfl (Jvm.hb hB dd) hf (W := W) (by show 2 * 0 + (S.map fun v => v.category).sum ≤ W; omega) hl
theorem Here.newO (H : Here k R Z EL n0 y B ret h0 ws h pc L S ce sl sf) (pc' : Nat) {index n : Nat} {C : String} (w : (Jvm.Cond.classLink y.cls index C).before a0 Z = true) (wi : (Jvm.Cond.instantiable C n).before a0 Z = true) (wz : (Jvm.Cond.initialized C).before a0 Z = true) (dd : decode B pc = .ok (.new index, 3)) (hc : ce + 1 ≤ R.cells) (hl : sl + n ≤ R.slots) (hp : pc + 3 = pc' := by rfl) :
    ∃ (b : Addr) (h' : Heap), b = h.size ∧ Ext h h' ∧ Exa Z h' b C ∧ (∀ {O nm d : String} {ty : FieldType}, Laid Z a0 C O nm d → parseFieldDescriptor d = some ty → Fld Z h' b O nm d (defaultValue ty)) ∧ Here k R Z EL n0 y B ret h0 ws h' pc' L (.ref b :: S) (ce + 1) (sl + n) (b :: sf) := by
  subst hp
  obtain ⟨p, l, e, s, m, args, below, meth, c, start⟩ := k
  obtain ⟨T, vm0, k0, locs, X, e1, hS, hk, hZ, hown, hC, hN, hF, ⟨hx, hB, hr⟩, st⟩ := H
  obtain ⟨T', h', X', e2, E, A, D, -, st'⟩ := RoadKit.newO X hx (s := s.setVm vm0) hZ hown w wi wz e1 (g := mkF m pc L S) rfl (Jvm.hb hB dd) hc hl
  obtain ⟨u1, u2, u3⟩ := updN hC hk hF E A.lt
  exact ⟨h.size, h', rfl, E, A, D, T', vm0, k0, locs, X', e2, hS, u2, hZ, hown, u1, hN, u3, ⟨hx, hB, hr⟩, fun t q => st t (st' t q)⟩
theorem Here.newP (H : Here k R Z EL n0 y B ret h0 ws h pc L (.int n :: S) ce sl sf) (pc' : Nat) {aty : ArrayType} {ty : FieldType} (hty : newarray.typeOf aty = ty) (w : (Jvm.Cond.arrayClass ty).before a0 Z = true) (dd : decode B pc = .ok (.newarray aty, 2)) (hn : ¬ n < 0) {cap : Nat} (hcap : n.toNatClampNeg ≤ cap) (hb : cap * 8 ≤ 536870912) (hc : ce + 1 ≤ R.cells) (hl : sl + cap ≤ R.slots) (hp : pc + 2 = pc' := by rfl) :
    ∃ (b : Addr) (h' : Heap) (kc : ClassId), b = h.size ∧ Ext h h' ∧ Arv Z h' b kc ty n (List.replicate cap (defaultValue ty)) (defaultValue ty) ∧ Here k R Z EL n0 y B ret h0 ws h' pc' L (.ref b :: S) (ce + 1) (sl + cap) (b :: sf) := by
  subst hp hty
  obtain ⟨p, l, e, s, m, args, below, meth, c, start⟩ := k
  obtain ⟨T, vm0, k0, locs, X, e1, hS, hk, hZ, hown, hC, hN, hF, ⟨hx, hB, hr⟩, st⟩ := H
  obtain ⟨T', h', kc, X', e2, E, A, st'⟩ := RoadKit.newP X hx (s := s.setVm vm0) hZ w e1 (g := mkF m pc L (.int n :: S)) rfl (Jvm.hb hB dd) rfl hn hcap hb hc hl
  have V := (Arv.new A hn).pad (pad_rep [] (defaultValue (newarray.typeOf aty)) cap)
  obtain ⟨u1, u2, u3⟩ := updN hC hk hF E A.lt
  exact ⟨h.size, h', kc, rfl, E, V, T', vm0, k0, locs, X', e2, hS, u2, hZ, hown, u1, hN, u3, ⟨hx, hB, hr⟩, fun t q => st t (st' t q)⟩
theorem Here.putF (H : Here k R Z EL n0 y B ret h0 ws h pc L (v :: .ref a :: S) ce sl sf) (pc' : Nat) {index kk : Nat} {O n d C : String} {ty : FieldType} {old : Value} (w : (Jvm.Cond.fieldLink y.cls index O n d).before a0 Z = true) (F : Fld Z h a O n d old) (E : Exa Z h a C) (Lw : (Jvm.Cond.lays C O n d).before a0 Z = true ∨ ((Jvm.Cond.laysFinal C O n d).before a0 Z = true ∧ y.cls = O ∧ y.name = "<init>")) (wi : (Jvm.Cond.instantiable C kk).before a0 Z = true)
    (hty : parseFieldDescriptor d = some ty) (hn : narrow ty v = v) (hf : fits ty v = true) (dd : decode B pc = .ok (.putfield index, 3)) (ha : a ∈ sf) (hp : pc + 3 = pc' := by rfl) :
    ∃ h' : Heap, Wr h h' a (RoadKit.slotOf Z O n d) v ∧ Keep h h' [a] ∧ Exa Z h' a C ∧ Fld Z h' a O n d v ∧ Here k R Z EL n0 y B ret h0 ws h' pc' L S ce sl sf := by
  subst hp
  obtain ⟨p, l, e, s, m, args, below, meth, c, start⟩ := k
  obtain ⟨T, vm0, k0, locs, X, e1, hS, hk, hZ, hown, hC, hN, hF, ⟨hx, hB, hsz, hr, hnm, hrest⟩, st⟩ := H
  obtain ⟨T', h', X', e2, W', st'⟩ := RoadKit.putF X hx (s := s.setVm vm0) hZ hown (host := "") (Or.inl w) Via.refl e1 F E (Lw.imp id fun q => ⟨q.1, q.2.1, hnm.trans q.2.2⟩) wi hty hn hf (g := mkF m pc L (v :: .ref a :: S)) rfl rfl (Jvm.hb hB dd)
  obtain ⟨u1, u2, u3⟩ := upd hC hk hF (Keep.of_wr W') (allS ha all0)
  exact ⟨h', W', Keep.of_wr W', E.wr W', F.same W', T', vm0, k0, _, X', e2, hS, u2, hZ, hown, u1, Fr.snoc X' hN (hF.2.2.2 a ha).2.2.1, u3, ⟨hx, hB, hsz, hr, hnm, hrest⟩, fun t q => st t (st' t q)⟩
theorem Here.stC (H : Here k R Z EL n0 y B ret h0 ws h pc L (.int x :: .int j :: .ref a :: S) ce sl sf) (pc' : Nat) {kc : ClassId} {z : Int32} {vs : List Value} {dv : Value} (V : Arv Z h a kc .char z vs dv) (i : Nat) (hj : ¬ j < 0 ∧ j < z) (hji : j.toNatClampNeg = i) (hi : i < vs.length) (hx' : nar .char x = x) (dd : decode B pc = .ok (.castore, 1)) (ha : a ∈ sf) (hp : pc + 1 = pc' := by rfl) :
    ∃ h' : Heap, Keep h h' [a] ∧ Arv Z h' a kc .char z (vs.set i (.int x)) dv ∧ Here k R Z EL n0 y B ret h0 ws h' pc' L S ce sl sf := by
  subst hp
  obtain ⟨p, l, e, s, m, args, below, meth, c, start⟩ := k
  obtain ⟨T, vm0, k0, locs, X, e1, hS, hk, hZ, hown, hC, hN, hF, ⟨hx, hB, hr⟩, st⟩ := H
  obtain ⟨cl, A, q1, q2, q3, q4, q5⟩ := V
  obtain ⟨T', h', X', e2, W', st'⟩ := RoadKit.stC X hx (s := s.setVm vm0) hZ e1 A (j := j) (inb_of q2 hj) (g := mkF m pc L (.int x :: .int j :: .ref a :: S)) rfl rfl (Jvm.hb hB dd)
  have V' := Arv.set A q1 q2 q3 q4 q5 (fits_nar_char x) W' i hji hi
  rw [hx'] at V'
  obtain ⟨u1, u2, u3⟩ := upd hC hk hF (Keep.of_wr W') (allS ha all0)
  exact ⟨h', Keep.of_wr W', V', T', vm0, k0, _, X', e2, hS, u2, hZ, hown, u1, Fr.snoc X' hN (hF.2.2.2 a ha).2.2.1, u3, ⟨hx, hB, hr⟩, fun t q => st t (st' t q)⟩
theorem Here.stB (H : Here k R Z EL n0 y B ret h0 ws h pc L (.int x :: .int j :: .ref a :: S) ce sl sf) (pc' : Nat) {kc : ClassId} {z : Int32} {vs : List Value} {dv : Value} (V : Arv Z h a kc .byte z vs dv) (i : Nat) (hj : ¬ j < 0 ∧ j < z) (hji : j.toNatClampNeg = i) (hi : i < vs.length) (dd : decode B pc = .ok (.bastore, 1)) (ha : a ∈ sf) (hp : pc + 1 = pc' := by rfl) :
    ∃ h' : Heap, Keep h h' [a] ∧ Arv Z h' a kc .byte z (vs.set i (.int x.toInt8.toInt32)) dv ∧ Here k R Z EL n0 y B ret h0 ws h' pc' L S ce sl sf := by
  subst hp
  obtain ⟨p, l, e, s, m, args, below, meth, c, start⟩ := k
  obtain ⟨T, vm0, k0, locs, X, e1, hS, hk, hZ, hown, hC, hN, hF, ⟨hx, hB, hr⟩, st⟩ := H
  obtain ⟨cl, A, q1, q2, q3, q4, q5⟩ := V
  obtain ⟨T', h', X', e2, W', st'⟩ := RoadKit.stB X hx (s := s.setVm vm0) hZ e1 A (j := j) (inb_of q2 hj) (g := mkF m pc L (.int x :: .int j :: .ref a :: S)) rfl rfl (Jvm.hb hB dd)
  have V' := Arv.set A q1 q2 q3 q4 q5 (fits_nar_byte x) W' i hji hi
  obtain ⟨u1, u2, u3⟩ := upd hC hk hF (Keep.of_wr W') (allS ha all0)
  exact ⟨h', Keep.of_wr W', V', T', vm0, k0, _, X', e2, hS, u2, hZ, hown, u1, Fr.snoc X' hN (hF.2.2.2 a ha).2.2.1, u3, ⟨hx, hB, hr⟩, fun t q => st t (st' t q)⟩
theorem Here.cloneA (H : Here k R Z EL n0 y B ret h0 ws h pc L (.ref a :: S) ce sl sf) (pc' : Nat) {index : Nat} {ad : String} (w1 : (Jvm.Cond.methodLink y.cls index ⟨ad, "clone", "()Ljava/lang/Object;"⟩).before a0 Z = true) (w2 : (Jvm.Cond.sameMethod ad "java/lang/Object" "clone" "()Ljava/lang/Object;").before a0 Z = true) (w3 : (Jvm.Cond.native ⟨"java/lang/Object", "clone", "()Ljava/lang/Object;"⟩).before a0 Z = true)
    (w4 : (Jvm.Cond.instanceMethod ⟨"java/lang/Object", "clone", "()Ljava/lang/Object;"⟩).before a0 Z = true) (w5 : (Jvm.Cond.selects ad ⟨ad, "clone", "()Ljava/lang/Object;"⟩ ⟨"java/lang/Object", "clone", "()Ljava/lang/Object;"⟩).before a0 Z = true) (w6 : (Jvm.Cond.castable ad "java/lang/Cloneable").before a0 Z = true)
    {cl : Cell} {ty : FieldType} (A : Arr Z h a cl ty) (E : Exa Z h a ad) (F : FitC Z cl) (dd : decode B pc = .ok (.invokevirtual index, 3)) (hf : 1 ≤ R.frames) {W cap : Nat} (hW : (S.map fun v => v.category).sum ≤ W) (hl : W + 14 ≤ R.locals) (hcap : cl.slots.size ≤ cap) (hc : ce + 1 ≤ R.cells) (hs : sl + cap ≤ R.slots) (hp : pc + 3 = pc' := by rfl) :
    ∃ (b : Addr) (h' : Heap), b = h.size ∧ Ext h h' ∧ Arr Z h' b (cloneOf cl) ty ∧ Exa Z h' b ad ∧ Here k R Z EL n0 y B ret h0 ws h' pc' L (.ref b :: S) (ce + 1) (sl + cap) (b :: sf) := by
  subst hp
  obtain ⟨p, l, e, s, m, args, below, meth, c, start⟩ := k
  obtain ⟨T, vm0, k0, locs, X, e1, hS, hk, hZ, hown, hC, hN, hF, ⟨hx, hB, hsz, hr⟩, st⟩ := H
  obtain ⟨T', h', X', e2, E', A', D', st'⟩ := RoadKit.cloneA X hx (s := s.setVm vm0) hZ hown w1 w2 w3 w4 w5 w6 e1 A E F (g := mkF m pc L (.ref a :: S)) rfl hsz rfl (Jvm.hb hB dd) hf (W := W) (by show 2 * 0 + (S.map fun v => v.category).sum ≤ W; omega) hl hcap hc hs
  obtain ⟨u1, u2, u3⟩ := updN hC hk hF E' A'.lt
  exact ⟨h.size, h', rfl, E', A', D', T', vm0, k0, locs, X', e2, hS, u2, hZ, hown, u1, hN, u3, ⟨hx, hB, hsz, hr⟩, fun t q => st t (st' t q)⟩
/-- ldc of a String constant that is only handed on -/
theorem Here.ldcO (H : Here k R Z EL n0 y B ret h0 ws h pc L S ce sl sf) (pc' : Nat) {index : Nat} {text : String} (w : (Jvm.Cond.stringLink y.cls index text).before a0 Z = true) (wS : ∀ a ∈ Bundle.stringAtoms, a.before a0 Z = true) (hEL : EW Z a0 EL) (dd : decode B pc = .ok (.ldc index, 2)) {n : Nat} (hn : 4 * text.toList.length ≤ n) (hbig : n ≤ 536870912) (hc : ce + 2 ≤ R.cells) (hl : sl + (n + 4) ≤ R.slots) (hp : pc + 2 = pc' := by rfl) :
    ∃ (a : Addr) (h' : Heap), Ext h h' ∧ Here k R Z EL n0 y B ret h0 ws h' pc' L (.ref a :: S) (ce + 2) (sl + (n + 4)) sf := by
  subst hp
  obtain ⟨p, l, e, s, m, args, below, meth, c, start⟩ := k
  obtain ⟨T, vm0, k0, locs, X, e1, hS, hk, hZ, hown, hC, hN, hF, ⟨hx, hB, hr⟩, st⟩ := H
  obtain ⟨a, T', h', k1, X', e2, E, hS', hk', hZ', hown', hCr, -, st'⟩ := ldcOH X hx hZ hown w wS e1 hS hk hEL hC.1 (g := mkF m pc L S) rfl (Jvm.hb hB dd) hn hbig hc hl
  obtain ⟨u1, u3⟩ := updC hC hF (extKeep E) all0 hCr
  exact ⟨a, h', E, T', T'.vm, k1, locs, X', e2, hS', hk', hZ', hown', u1, hN, u3, ⟨hx, hB, hr⟩, fun t q => st t (st' t q)⟩
/-- ldc of a String constant that is read -/
theorem Here.ldcR (H : Here k R Z EL n0 y B ret h0 ws h pc L S ce sl sf) (pc' : Nat) {index : Nat} {text : String} (w : (Jvm.Cond.stringLink y.cls index text).before a0 Z = true) (wS : ∀ a ∈ Bundle.stringAtoms, a.before a0 Z = true) (hEL : EW Z a0 EL) (hmem : (y.cls, index) ∈ EL) {vs : List Value} {z : Int32} (ht : (∀ c ∈ text.toList, c.toNat < 256) ∧ text.toList.map (fun c => Value.int (Jvm.Lit.byteI c.toNat.toUInt16)) = vs) (hz : ¬ z < 0) (hlz : z.toNatClampNeg = vs.length) (dd : decode B pc = .ok (.ldc index, 2)) {n : Nat} (hn : 4 * text.toList.length ≤ n) (hbig : n ≤ 536870912) (hc : ce + 2 ≤ R.cells) (hl : sl + (n + 4) ≤ R.slots) (hp : pc + 2 = pc' := by rfl) :
    ∃ (a : Addr) (h' : Heap) (b : Addr) (kc : ClassId), Ext h h' ∧ Exa Z h' a "java/lang/String" ∧ Fld Z h' a "java/lang/String" "coder" "B" (.int 0) ∧ Fld Z h' a "java/lang/String" "value" "[B" (.ref b) ∧ Arv Z h' b kc .byte z vs (.int 0) ∧ (∀ x ∈ sf, x ≠ a ∧ x ≠ b) ∧ Here k R Z EL n0 y B ret h0 ws h' pc' L (.ref a :: S) (ce + 2) (sl + (n + 4)) sf := by
  subst hp
  obtain ⟨p, l, e, s, m, args, below, meth, c, start⟩ := k
  obtain ⟨T, vm0, k0, locs, X, e1, hS, hk, hZ, hown, hC, hN, hF, ⟨hx, hB, hr⟩, st⟩ := H
  obtain ⟨a, T', h', k1, b, kc, X', e2, E, hS', hk', hZ', hown', x1, x2, x3, x4, -, -, hCr, -, hsafe, st'⟩ := ldcCH X hx hZ hown w wS e1 hS hk hEL hmem hC.1 ht hz hlz (g := mkF m pc L S) rfl (Jvm.hb hB dd) hn hbig hc hl
  obtain ⟨u1, u3⟩ := updC hC hF (extKeep E) all0 hCr
  exact ⟨a, h', b, kc, E, x1, x2, x3, x4, fun x q => hsafe x (u3.2.2.2 x q).1, T', T'.vm, k1, locs, X', e2, hS', hk', hZ', hown', u1, hN, u3, ⟨hx, hB, hr⟩, fun t q => st t (st' t q)⟩
end HeapSteps
section Calls
variable {k : Ctx} {R : Room} {Z : State} {EL : List (String × Nat)} {n0 : Nat} {y z : MethodName} {B bytes : ByteArray} {ret rt : Option FieldType} {h0 h : Heap} {ws ws' sf : List Addr} {pc index mx W kc ks : Nat} {L : Array Slot} {S argsL rest : List Value} {ce sl : Nat} {a0 : Array Value} {Q : Option Value → Heap → Prop}
theorem Here.callS (H : Here k R Z EL n0 y B ret h0 ws h pc L S ce sl sf) (pc' : Nat) (w1 : (Jvm.Cond.methodLink y.cls index z).before a0 Z = true) (w2 : (Jvm.Cond.static z).before a0 Z = true) (w3 : (Jvm.Cond.initialized z.cls).before a0 Z = true) (w4 : (Jvm.Cond.code z bytes mx rt).before a0 Z = true) (hy : z.cls ≠ "java/lang/invoke/MethodHandle" ∧ z.cls ≠ "java/lang/invoke/VarHandle")
    (P : Paid k R Z EL n0 z W argsL.toArray h ws' kc ks Q) (hlen : ∀ sig, parseMethodDescriptor z.desc = some sig → argsL.length = sig.parameters.length) (hS : S = argsL.reverse ++ rest) (hW : (rest.map fun v => v.category).sum ≤ W) (dd : decode B pc = .ok (.invokestatic index, 3)) (hc : ce + kc ≤ R.cells) (hl : sl + ks ≤ R.slots) (hws : ∀ x ∈ ws', x ∈ sf) (hp : pc + 3 = pc' := by rfl) :
    ∃ (v : Option Value) (h' : Heap), Q v h' ∧ Keep h h' ws' ∧ Here k R Z EL n0 y B ret h0 ws h' pc' L (v.toList ++ rest) (ce + kc) (sl + ks) sf := by
  subst hp hS
  obtain ⟨p, l, e, s, m, args, below, meth, c, start⟩ := k
  obtain ⟨T, vm0, k0, locs, X, e1, hS, hk, hZ, hown, hC, hN, hF, ⟨hx, hB, hsz, hr⟩, st⟩ := H
  obtain ⟨v, vm1, ⟨U, lo, c1, s1⟩, -, X', hS', hg, ⟨Lx, ⟨hQ, hK, hFr⟩, l1, c1e, s1e, hCr⟩, st'⟩ := callSS X hx (own := y.cls) hown (mvT (s := s.setVm vm0) hZ w1) (mvT (s := s.setVm vm0) hZ w2) (mvT (s := s.setVm vm0) hZ w3) (mvT (s := s.setVm vm0) hZ w4) hy (P vm0 hZ hC.1 fun x q => ⟨(hF.2.2.2 x (hws x q)).1, (hF.2.2.2 x (hws x q)).2.1⟩)
    (g := mkF m pc L (argsL.reverse ++ rest)) rfl hsz hlen rfl (by show 2 * 0 + (rest.map fun v => v.category).sum ≤ W; omega) (Jvm.hb hB dd) (fun _ _ => ⟨rfl, e1, hc, hl⟩)
  dsimp only [Pt.U, Pt.locs, Pt.cells, Pt.slots] at X' hS' hg hQ hK l1 c1e s1e hCr st'
  subst l1 c1e s1e
  obtain ⟨u1, u3⟩ := updC hC hF hK hws hCr
  exact ⟨v, U.heap, hQ, hK, U, U.vm, U.heap.size, _, X', rfl, hS.trans hS' (Nat.le_trans hk hK.1), Nat.le_refl _, State.Warmed39.trans (t := s.setVm vm0) hZ hS'.1, (hS'.1.alike.findClass _ _).trans hown, u1, Fr.app hN hFr, u3, ⟨hx, hB, hsz, hr⟩, fun t q => st t (st'.trans q)⟩
theorem Here.callI (H : Here k R Z EL n0 y B ret h0 ws h pc L S ce sl sf) (pc' : Nat) (hy1 : z.name = "<init>") (w1 : (Jvm.Cond.methodLink y.cls index z).before a0 Z = true) (w2 : (Jvm.Cond.instanceMethod z).before a0 Z = true) (w4 : (Jvm.Cond.code z bytes mx none).before a0 Z = true) (hy : z.cls ≠ "java/lang/invoke/MethodHandle" ∧ z.cls ≠ "java/lang/invoke/VarHandle") {a : Addr}
    (P : Paid k R Z EL n0 z W (.ref a :: argsL).toArray h ws' kc ks Q) (hlen : ∀ sig, parseMethodDescriptor z.desc = some sig → argsL.length = sig.parameters.length) (hS : S = argsL.reverse ++ .ref a :: rest) (hW : (rest.map fun v => v.category).sum ≤ W) (dd : decode B pc = .ok (.invokespecial index, 3)) (hc : ce + kc ≤ R.cells) (hl : sl + ks ≤ R.slots) (hws : ∀ x ∈ ws', x ∈ sf) (hp : pc + 3 = pc' := by rfl) :
    ∃ (v : Option Value) (h' : Heap), Q v h' ∧ Keep h h' ws' ∧ Here k R Z EL n0 y B ret h0 ws h' pc' L (v.toList ++ rest) (ce + kc) (sl + ks) sf := by
  subst hp hS
  obtain ⟨p, l, e, s, m, args, below, meth, c, start⟩ := k
  obtain ⟨T, vm0, k0, locs, X, e1, hS, hk, hZ, hown, hC, hN, hF, ⟨hx, hB, hsz, hr⟩, st⟩ := H
  obtain ⟨v, vm1, ⟨U, lo, c1, s1⟩, -, X', hS', hg, ⟨Lx, ⟨hQ, hK, hFr⟩, l1, c1e, s1e, hCr⟩, st'⟩ := X.specialBackS hx (own := y.cls) hy1 hown (mvT (s := s.setVm vm0) hZ w1) (mvT (s := s.setVm vm0) hZ w2) (mvT (s := s.setVm vm0) hZ w4) hy (P vm0 hZ hC.1 fun x q => ⟨(hF.2.2.2 x (hws x q)).1, (hF.2.2.2 x (hws x q)).2.1⟩)
    (g := mkF m pc L (argsL.reverse ++ .ref a :: rest)) rfl hsz (Steps.refl _) (a := a) hlen rfl (by show 2 * 0 + (rest.map fun v => v.category).sum ≤ W; omega) (Jvm.hb hB dd) (fun _ _ => ⟨rfl, e1, hc, hl⟩)
  dsimp only [Pt.U, Pt.locs, Pt.cells, Pt.slots] at X' hS' hg hQ hK l1 c1e s1e hCr st'
  subst l1 c1e s1e
  obtain ⟨u1, u3⟩ := updC hC hF hK hws hCr
  exact ⟨v, U.heap, hQ, hK, U, U.vm, U.heap.size, _, X', rfl, hS.trans hS' (Nat.le_trans hk hK.1), Nat.le_refl _, State.Warmed39.trans (t := s.setVm vm0) hZ hS'.1, (hS'.1.alike.findClass _ _).trans hown, u1, Fr.app hN hFr, u3, ⟨hx, hB, hsz, hr⟩, fun t q => st t (st'.trans q)⟩
theorem Here.callV (H : Here k R Z EL n0 y B ret h0 ws h pc L S ce sl sf) (pc' : Nat) {C : String} {z1 : MethodName} (w1 : (Jvm.Cond.methodLink y.cls index z1).before a0 Z = true) (w2 : (Jvm.Cond.declares z1).before a0 Z = true) (w3 : (Jvm.Cond.selects C z1 z).before a0 Z = true) (w4 : (Jvm.Cond.instanceMethod z).before a0 Z = true) (hy : z1.cls ≠ "java/lang/invoke/MethodHandle" ∧ z1.cls ≠ "java/lang/invoke/VarHandle") {a : Addr} (E : Exa Z h a C)
    (P : Paid k R Z EL n0 z W (.ref a :: argsL).toArray h ws' kc ks Q) (hlen : ∀ sig, parseMethodDescriptor z1.desc = some sig → argsL.length = sig.parameters.length) (hS : S = argsL.reverse ++ .ref a :: rest) (hW : (rest.map fun v => v.category).sum ≤ W) (dd : decode B pc = .ok (.invokevirtual index, 3)) (hc : ce + kc ≤ R.cells) (hl : sl + ks ≤ R.slots) (hws : ∀ x ∈ ws', x ∈ sf) (hp : pc + 3 = pc' := by rfl) (hz1 : z1 = z := by rfl) :
    ∃ (v : Option Value) (h' : Heap), Q v h' ∧ Keep h h' ws' ∧ Here k R Z EL n0 y B ret h0 ws h' pc' L (v.toList ++ rest) (ce + kc) (sl + ks) sf := by
  subst hz1
  subst hp hS
  obtain ⟨p, l, e, s, m, args, below, meth, c, start⟩ := k
  obtain ⟨T, vm0, k0, locs, X, e1, hS, hk, hZ, hown, hC, hN, hF, ⟨hx, hB, hsz, hr⟩, st⟩ := H
  obtain ⟨cB, kB, i1, i2, i3⟩ := isOf (s := s.setVm vm0) hZ e1 E
  obtain ⟨v, vm1, ⟨U, lo, c1, s1⟩, -, X', hS', hg, ⟨Lx, ⟨hQ, hK, hFr⟩, l1, c1e, s1e, hCr⟩, st'⟩ := X.virtualBackS hx (own := y.cls) hown (mvT (s := s.setVm vm0) hZ w1) (mvT (s := s.setVm vm0) hZ w2) (notFace_of_selects (args := args) (mvT (s := s.setVm vm0) hZ w3)) (mvT (s := s.setVm vm0) hZ w3) (mvT (s := s.setVm vm0) hZ w4) hy (P vm0 hZ hC.1 fun x q => ⟨(hF.2.2.2 x (hws x q)).1, (hF.2.2.2 x (hws x q)).2.1⟩) i1 i3
    (g := mkF m pc L (argsL.reverse ++ .ref a :: rest)) rfl hsz (Steps.refl _) hlen rfl (by show 2 * 0 + (rest.map fun v => v.category).sum ≤ W; omega) (Jvm.hb hB dd) (fun _ _ => ⟨rfl, e1, hc, hl⟩)
  dsimp only [Pt.U, Pt.locs, Pt.cells, Pt.slots] at X' hS' hg hQ hK l1 c1e s1e hCr st'
  subst l1 c1e s1e
  obtain ⟨u1, u3⟩ := updC hC hF hK hws hCr
  exact ⟨v, U.heap, hQ, hK, U, U.vm, U.heap.size, _, X', rfl, hS.trans hS' (Nat.le_trans hk hK.1), Nat.le_refl _, State.Warmed39.trans (t := s.setVm vm0) hZ hS'.1, (hS'.1.alike.findClass _ _).trans hown, u1, Fr.app hN hFr, u3, ⟨hx, hB, hsz, hr⟩, fun t q => st t (st'.trans q)⟩
end Calls
section NotIns
variable {k : Ctx} {R : Room} {Z : State} {EL : List (String × Nat)} {n0 : Nat} {y : MethodName} {B : ByteArray} {ret : Option FieldType} {h0 h : Heap} {ws sf : List Addr} {pc : Nat} {L : Array Slot} {S : List Value} {ce sl : Nat} {a0 : Array Value} {C K O Sp : String} {n : Nat}
theorem ns_root (w : (Jvm.Cond.noSuperclass O).before a0 Z = true) (wi : (Jvm.Cond.instantiable K n).before a0 Z = true) (hn : O ≠ K) : NS Z O K := by
  obtain ⟨c, k, h1, h2, h3, -, -⟩ := Cond.noSuperclass_spec w
  obtain ⟨t, kt, g1, -⟩ := Cond.instantiable_spec wi
  have ne := ids_ne h1 g1 hn
  refine ⟨c, t, h1, g1, fun fuel => ?_⟩
  cases fuel with
  | zero => rfl
  | succ f => simp [Vm.isSubclassAux, ne, h2, h3]
def NoIns (Z : State) (C K : String) : Prop := ∃ c t, Z.vm.findClass C = some c ∧ Z.vm.findClass K = some t ∧ Z.vm.assignable c t = false
theorem ns_no (w : (Jvm.Cond.superclass C Sp).before a0 Z = true) (wi : (Jvm.Cond.instantiable K n).before a0 Z = true) (nn : NS Z C K) (hn : C ≠ K) : NoIns Z C K := by
  obtain ⟨c, t, h0, g0, n3⟩ := nn
  obtain ⟨p, k, kp, h1, h2, h3, h4, h5, -, h7⟩ := Cond.superclass_spec h0 w
  obtain ⟨t', k', g1, g2, g5, g7, -⟩ := Cond.instantiable_spec wi
  cases g0.symm.trans g1
  have g8 : k'.isInterface = false := by cases hq : k'.isInterface <;> simp [hq] at g7 ⊢
  have ne := ids_ne h0 g0 hn
  refine ⟨c, t, h0, g0, ?_⟩
  show Z.vm.assignableAux (255 + 1) c t = false
  simp [Vm.assignableAux, ne, h2, g2, h5, g5, g8, Vm.isSubclass, n3]
theorem Here.instNo (H : Here k R Z EL n0 y B ret h0 ws h pc L (.ref a :: S) ce sl sf) (pc' : Nat) {index : Nat} (w : (Jvm.Cond.classLink y.cls index K).before a0 Z = true) (E : Exa Z h a C) (F : NoIns Z C K) (dd : decode B pc = .ok (.instanceof index, 3)) (hp : pc + 3 = pc' := by rfl) : Here k R Z EL n0 y B ret h0 ws h pc' L (.int 0 :: S) ce sl sf := by
  subst hp
  exact H.goT rfl fun p l e s m args below meth c T locs ce sl X e1 hZ hown hx hB hl hs => RoadKit.instNo X hx hZ hown w e1 E F (g := mkF m pc L (.ref a :: S)) rfl rfl (Jvm.hb hB dd)
theorem Here.instNull (H : Here k R Z EL n0 y B ret h0 ws h pc L (.null :: S) ce sl sf) (pc' : Nat) {index : Nat} (dd : decode B pc = .ok (.instanceof index, 3)) (hp : pc + 3 = pc' := by rfl) : Here k R Z EL n0 y B ret h0 ws h pc' L (.int 0 :: S) ce sl sf := by
  subst hp
  exact H.goT rfl fun p l e s m args below meth c T locs ce sl X e1 hZ hown hx hB hl hs => ⟨T, X, e1, X.instanceofNull hx (g := mkF m pc L (.null :: S)) rfl rfl (Jvm.hb hB dd)⟩
end NotIns
section More
variable {k : Ctx} {R : Room} {Z : State} {EL : List (String × Nat)} {n0 : Nat} {z : MethodName} {h h' : Heap} {ws' ws : List Addr} {W kc ks kc' ks' : Nat} {as' : Array Value} {Q Q' : Option Value → Heap → Prop}
theorem Paid.more (P : Paid k R Z EL n0 z W as' h ws' kc ks Q) (hc : kc ≤ kc') (hs : ks ≤ ks') : Paid k R Z EL n0 z W as' h ws' kc' ks' Q := by
  obtain ⟨p, l, e, s, m, args, below, meth, c, start⟩ := k
  intro vm0 hZ H hsf m meth c A g ig mk a X hg hsize hdg hW hn hp
  obtain ⟨v, D, X', hS, hgr, ⟨L, q1, q2, q3, q4, q5⟩, st⟩ := P vm0 hZ H hsf m meth c A g ig mk a X hg hsize hdg hW hn ⟨hp.1, hp.2.1, by have := hp.2.2.1; omega, by have := hp.2.2.2; omega⟩
  exact ⟨v, ⟨D.U, D.locs, A.cells + kc', A.slots + ks'⟩, X'.more (by show D.cells ≤ A.cells + kc'; rw [q3]; omega) (by show D.slots ≤ A.slots + ks'; rw [q4]; omega), hS, hgr, ⟨L, q1, q2, rfl, rfl, q5⟩, st⟩
theorem Paid.mono (P : Paid k R Z EL n0 z W as' h ws' kc ks Q) (hq : ∀ v h', Q v h' → Q' v h') : Paid k R Z EL n0 z W as' h ws' kc ks Q' := by
  obtain ⟨p, l, e, s, m, args, below, meth, c, start⟩ := k
  intro vm0 hZ H hsf m meth c A g ig mk a X hg hsize hdg hW hn hp
  obtain ⟨v, D, X', hS, hgr, ⟨L, q1, q2⟩, st⟩ := P vm0 hZ H hsf m meth c A g ig mk a X hg hsize hdg hW hn hp
  exact ⟨v, D, X', hS, hgr, ⟨L, ⟨hq _ _ q1.1, q1.2⟩, q2⟩, st⟩
theorem keepExt (K : Keep h h' []) : Ext h h' := ⟨K.1, fun a c q => K.2.1 a c q nin0⟩
theorem Ext.refl' (h : Heap) : Ext h h := ⟨Nat.le_refl _, fun _ _ q => q⟩
theorem Ext.trans' {h1 : Heap} (E : Ext h h1) (F : Ext h1 h') : Ext h h' := ⟨Nat.le_trans E.1 F.1, fun a c q => F.2 a c (E.2 a c q)⟩
/-- what stood in hA stands still: only later cells were written -/
theorem Ext.keep' {hA : Heap} (E : Ext hA h) (K : Keep h h' ws) (hw : ∀ x ∈ ws, hA.size ≤ x) : Ext hA h' := ⟨Nat.le_trans E.1 K.1, fun a c q => K.2.1 a c (E.2 a c q) fun hm => absurd (Array.getElem?_eq_some_iff.mp q).1 (Nat.not_lt.mpr (hw a hm))⟩
theorem staOld {C n d : String} {v : Value} (F : Sta Z Z.heap C n d v) (O : Old Z n0 h) : Sta Z h C n d v := F.ext O.2
theorem nar_char {x : Int32} (h0 : ¬ x < 0) (h1 : ¬ 65535 < x) : nar .char x = x := by
  obtain ⟨q1, q2, q3⟩ := c_i2c x
  have e : nar .char x = x.toUInt32.toUInt16.toUInt32.toInt32 := rfl
  rw [e]
  rw [Int32.lt_iff_toInt_lt] at h0 h1
  have e0 : (0 : Int32).toInt = 0 := rfl
  have e1 : (65535 : Int32).toInt = 65535 := rfl
  exact Int32.toInt_inj.mp (by omega)
end More
end Jvm.OwnKit
/- laws to paste: Road.backV, Road.eqW, Road.empW, Road.lenW, Road.chN, Road.codOf (cut by pick.py; bodies as the Statement names them) -/
namespace Jvm.Pilot.@@N@@
namespace StrChars
open Jvm Sem ClassFile Op Lib Jvm.Stand Jvm.Free.XT Jvm.Free.ALB Jvm.Free.JM Jvm.Free
open Jvm.Lib.Cold (StaticIs)
/-- a char array whose places are chars -/
def Ch (a : Addr) (A : Cell) (U : State) : Prop := Arr .char a A U ∧ Typed .char A
theorem Ch.mv {a : Addr} {A : Cell} {U U' : State} (h : Ch a A U) (hal : U.vm.Alike U'.vm) (hh : U'.heap = U.heap) : Ch a A U' := ⟨h.1.mv hal hh, h.2⟩
theorem Ch.keep {a : Addr} {A : Cell} {U U' : State} (h : Ch a A U) (hal : U.vm.Alike U'.vm) (hk : U'.heap[a]? = some A) : Ch a A U' := ⟨h.1.keep hal hk, h.2⟩
/-- what place i of a char[]'s cell holds -/
def cv (A : Cell) (i : Nat) : Int32 := match A.slots[i]? with | some (.int x) => x | _ => 0
theorem Ch.get {a : Addr} {A : Cell} {U : State} (h : Ch a A U) {i : Nat} (hi : i < A.slots.size) : A.slots[i]? = some (.int (cv A i)) := by
  have e := Array.getElem?_eq_getElem hi
  have f := h.2 i _ e
  unfold cv; rw [e]
  generalize A.slots[i] = v at f
  cases v <;> simp [fits] at f ⊢
/-- the byte that i2b leaves of a char -/
def lo8 (x : Int32) : Int32 := x.toInt8.toInt32
theorem fits_lo8 (y : Int32) : fits .byte (.int (lo8 y)) = true := by
  have h1 := y.toInt8.le_toInt
  have h2 := y.toInt8.toInt_lt
  simp only [lo8, fits, Bool.and_eq_true, decide_eq_true_eq, Int32.le_iff_toInt_le, Int8.toInt_toInt32, show (-128 : Int32).toInt = -128 from by decide, show (127 : Int32).toInt = 127 from by decide]
  omega
/-- A' is A but that each place j of lo .. hi - 1 holds f j -/
def Laid (A A' : Cell) (lo hi : Nat) (f : Nat → Value) : Prop := A'.cls = A.cls ∧ A'.vm = A.vm ∧ A'.slots.size = A.slots.size ∧ ∀ i, A'.slots[i]? = if lo ≤ i ∧ i < hi then some (f i) else A.slots[i]?
theorem Laid.zero (A : Cell) (lo : Nat) (f : Nat → Value) : Laid A A lo (lo + 0) f := ⟨rfl, rfl, rfl, fun i => by rw [if_neg (by omega)]⟩
theorem Laid.step {A Ak : Cell} {lo k : Nat} {f : Nat → Value} {v : Value} (h : Laid A Ak lo k f) (hlo : lo ≤ k) (hk : k < Ak.slots.size) (hv : v = f k) : Laid A (Ak.setSlot k v) lo (k + 1) f := by
  refine ⟨h.1, h.2.1, by simpa [Cell.setSlot] using h.2.2.1, fun i => ?_⟩
  by_cases e : k = i
  · subst e; rw [Cell.slots_setSlot_self v hk, if_pos (by omega), hv]
  · rw [Cell.slots_setSlot_ne v e, h.2.2.2 i]
    by_cases q : lo ≤ i ∧ i < k
    · rw [if_pos q, if_pos (by omega)]
    · rw [if_neg q, if_neg (by omega)]
def U16 : String := "java/lang/StringUTF16"
namespace Cmp5
def yN : MethodName := ⟨"java/lang/StringUTF16", "compress", "([CI[BII)I"⟩
abbrev yB : ByteArray := jdk_52_method_21_code
theorem d0 : decode yB 0 = .ok (.iconst 0, 1) := by decide +kernel
theorem d1 : decode yB 1 = .ok (.istore 5, 2) := by decide +kernel
theorem d3 : decode yB 3 = .ok (.iload 5, 2) := by decide +kernel
theorem d5 : decode yB 5 = .ok (.iload 4, 2) := by decide +kernel
theorem d7 : decode yB 7 = .ok (.if_icmp (.ge) 37, 3) := by decide +kernel
theorem d10 : decode yB 10 = .ok (.aload_n 0, 1) := by decide +kernel
theorem d11 : decode yB 11 = .ok (.iload_n 1, 1) := by decide +kernel
theorem d12 : decode yB 12 = .ok (.caload, 1) := by decide +kernel
theorem d13 : decode yB 13 = .ok (.istore 6, 2) := by decide +kernel
theorem d15 : decode yB 15 = .ok (.iload 6, 2) := by decide +kernel
theorem d17 : decode yB 17 = .ok (.sipush 255, 3) := by decide +kernel
theorem d20 : decode yB 20 = .ok (.if_icmp (.le) 6, 3) := by decide +kernel
theorem d26 : decode yB 26 = .ok (.aload_n 2, 1) := by decide +kernel
theorem d27 : decode yB 27 = .ok (.iload_n 3, 1) := by decide +kernel
theorem d28 : decode yB 28 = .ok (.iload 6, 2) := by decide +kernel
theorem d30 : decode yB 30 = .ok (.i2b, 1) := by decide +kernel
theorem d31 : decode yB 31 = .ok (.bastore, 1) := by decide +kernel
theorem d32 : decode yB 32 = .ok (.iinc 1 1, 3) := by decide +kernel
theorem d35 : decode yB 35 = .ok (.iinc 3 1, 3) := by decide +kernel
theorem d38 : decode yB 38 = .ok (.iinc 5 1, 3) := by decide +kernel
theorem d41 : decode yB 41 = .ok (.goto (-38), 3) := by decide +kernel
theorem d44 : decode yB 44 = .ok (.iload 4, 2) := by decide +kernel
theorem d46 : decode yB 46 = .ok (.ireturn, 1) := by decide +kernel
def site : List Cond := []
def tab : Cond := tabOf yN yB 7 (some .int) site
def P (b : Addr) (A : Cell) (d : Addr) (B : Cell) (o q len : Nat) (args : Array Value) (s : State) : Prop := args = #[.ref b, .int (Int32.ofNat o), .ref d, .int (Int32.ofNat q), .int (Int32.ofNat len)] ∧ Ch b A s ∧ Arr .byte d B s ∧ b ≠ d ∧ o + len ≤ A.slots.size ∧ q + len ≤ B.slots.size ∧ ∀ i, i < len → ¬ 255 < cv A (o + i)
def E (b : Addr) (A : Cell) (d : Addr) (B : Cell) (o q len : Nat) (r : Option Value) (s u : State) : Prop := r = some (.int (Int32.ofNat len)) ∧ ∃ B', Put d B' s u ∧ Laid B B' q (q + len) (fun j => Value.int (lo8 (cv A (o + (j - q)))))
/-- no char of the range above 255: len; the places written hold each char's low byte -/
theorem law (l : Launch) (b : Addr) (A : Cell) (d : Addr) (B : Cell) (o q len : Nat) : Law l yN 5 5 0 0 yB 7 (some .int) site (P b A d B o q len) (E b A d B o q len) (copyLocs d q len) 0 0 := by
  refine Law.of_walk (plainFor_of_name (by decide +kernel)) (by decide +kernel) (by decide +kernel) (by decide) (fun _ _ h => by rw [h.1]; rfl) (fun _ U U' hal hh h => ⟨h.1, h.2.1.mv hal hh, h.2.2.1.mv hal hh, h.2.2.2⟩) (fun r U U' V V' h1 hal h2 h => ⟨h.1, h.2.elim fun B' q => ⟨B', q.1.mv h1 h2, q.2⟩⟩) ?_
  intro p e s m args below meth c s₁ X0 hexec hbytes hml hret hlk hnm hown hh0 W hP
  obtain ⟨rfl, hA, hB, hne, l1, l2, hp⟩ := hP
  have c1 : Steps p.tables e below (s₁.setTop (entryFrame m #[.ref b, .int (Int32.ofNat o), .ref d, .int (Int32.ofNat q), .int (Int32.ofNat len)] 7)) (s₁.setTop (mkF m 0 #[.val (.ref b), .val (.int (Int32.ofNat o)), .val (.ref d), .val (.int (Int32.ofNat q)), .val (.int (Int32.ofNat len)), .unset, .unset] [])) := entry rfl
  have hA0 := hA.1.mv X0.warmed.alike hh0
  have hB0 := hB.mv X0.warmed.alike hh0
  have a31 := hA.1.2.2.2
  have c2 : Steps p.tables e below (s₁.setTop (entryFrame m #[.ref b, .int (Int32.ofNat o), .ref d, .int (Int32.ofNat q), .int (Int32.ofNat len)] 7)) (s₁.setTop (mkF m 3 #[.val (.ref b), .val (.int (Int32.ofNat o)), .val (.ref d), .val (.int (Int32.ofNat q)), .val (.int (Int32.ofNat len)), .val (.int 0), .unset] [])) := c1.trans (by
    refine iconstV X0.here hexec rfl 0 (hb hbytes d0) (by decide) ?_
    refine XS.istore X0.here hexec rfl (hb hbytes d1) rfl rfl ?_
    exact Steps.refl _)
  have loop : ∀ (r i : Nat), i + r = len → ∀ (z : Slot), (z = .unset ∨ ∃ w, z = .val w ∧ w.category = 1) → ∀ (Tl : State) (Bk : Cell), Stand p l e { frames := 0, locals := 0, cells := 0, slots := 0 } s m #[.ref b, .int (Int32.ofNat o), .ref d, .int (Int32.ofNat q), .int (Int32.ofNat len)] below meth c Tl ([] ++ copyLocs d q i) 0 0 → Put d Bk s₁ Tl → Laid B Bk q (q + i) (fun j => Value.int (lo8 (cv A (o + (j - q))))) →
      Steps p.tables e below (s₁.setTop (entryFrame m #[.ref b, .int (Int32.ofNat o), .ref d, .int (Int32.ofNat q), .int (Int32.ofNat len)] 7)) (Tl.setTop (mkF m 3 #[.val (.ref b), .val (.int (Int32.ofNat (o + i))), .val (.ref d), .val (.int (Int32.ofNat (q + i))), .val (.int (Int32.ofNat len)), .val (.int (Int32.ofNat i)), z] [])) → ∃ (T' : State) (B' : Cell) (z' : Slot), Stand p l e { frames := 0, locals := 0, cells := 0, slots := 0 } s m #[.ref b, .int (Int32.ofNat o), .ref d, .int (Int32.ofNat q), .int (Int32.ofNat len)] below meth c T' ([] ++ copyLocs d q len) 0 0 ∧ Put d B' s₁ T' ∧ Laid B B' q (q + len) (fun j => Value.int (lo8 (cv A (o + (j - q))))) ∧
      Steps p.tables e below (s₁.setTop (entryFrame m #[.ref b, .int (Int32.ofNat o), .ref d, .int (Int32.ofNat q), .int (Int32.ofNat len)] 7)) (T'.setTop (mkF m 3 #[.val (.ref b), .val (.int (Int32.ofNat (o + len))), .val (.ref d), .val (.int (Int32.ofNat (q + len))), .val (.int (Int32.ofNat len)), .val (.int (Int32.ofNat len)), z'] [])) := by
    intro r
    induction r with
    | zero =>
      intro i hi z hz Tl Bk Xl pl fl cl
      have hil : i = len := by omega
      rw [hil] at Xl fl cl
      exact ⟨Tl, Bk, z, Xl, pl, fl, cl⟩
    | succ r ih =>
      intro i hi z hz Tl Bk Xl pl fl cl
      have all := X0.warmed.alike.symm.trans Xl.warmed.alike
      have hAl := hA0.keep all (pl.other hne hA0.1)
      have hBk := hB0.like all pl.1 fl.1 fl.2.1 fl.2.2.1
      have hlt : q + i < Bk.slots.size := by rw [fl.2.2.1]; omega
      have c3 : Steps p.tables e below (s₁.setTop (entryFrame m #[.ref b, .int (Int32.ofNat o), .ref d, .int (Int32.ofNat q), .int (Int32.ofNat len)] 7)) (Tl.setTop (mkF m 12 #[.val (.ref b), .val (.int (Int32.ofNat (o + i))), .val (.ref d), .val (.int (Int32.ofNat (q + i))), .val (.int (Int32.ofNat len)), .val (.int (Int32.ofNat i)), z] [.int (Int32.ofNat (o + i)), .ref b])) := cl.trans (by
        refine XS.iload Xl.here hexec rfl (hb hbytes d3) rfl ?_
        refine XS.iload Xl.here hexec rfl (hb hbytes d5) rfl ?_
        refine XS.icmpNo Xl.here hexec rfl (hb hbytes d7) rfl (ii_ge_f (lt32 (by omega) (by omega))) ?_
        refine XS.aloadN Xl.here hexec rfl (hb hbytes d10) rfl rfl ?_
        refine XS.iloadN Xl.here hexec rfl (hb hbytes d11) rfl ?_
        exact Steps.refl _)
      have c4 : Steps p.tables e below (s₁.setTop (entryFrame m #[.ref b, .int (Int32.ofNat o), .ref d, .int (Int32.ofNat q), .int (Int32.ofNat len)] 7)) (Tl.setTop (mkF m 13 #[.val (.ref b), .val (.int (Int32.ofNat (o + i))), .val (.ref d), .val (.int (Int32.ofNat (q + i))), .val (.int (Int32.ofNat len)), .val (.int (Int32.ofNat i)), z] [.int (cv A (o + i))])) := c3.trans (by
        refine Xl.aget hexec hAl rfl (hA.get (i := o + i) (by omega)) rfl rfl (hb hbytes d12) ?_
        exact Steps.refl _)
      have c5 : Steps p.tables e below (s₁.setTop (entryFrame m #[.ref b, .int (Int32.ofNat o), .ref d, .int (Int32.ofNat q), .int (Int32.ofNat len)] 7)) (Tl.setTop (mkF m 15 #[.val (.ref b), .val (.int (Int32.ofNat (o + i))), .val (.ref d), .val (.int (Int32.ofNat (q + i))), .val (.int (Int32.ofNat len)), .val (.int (Int32.ofNat i)), .val (.int (cv A (o + i)))] [])) := c4.trans (by
        refine XS.istoreS Xl.here hexec rfl (hb hbytes d13) rfl rfl hz ?_
        exact Steps.refl _)
      have c6 : Steps p.tables e below (s₁.setTop (entryFrame m #[.ref b, .int (Int32.ofNat o), .ref d, .int (Int32.ofNat q), .int (Int32.ofNat len)] 7)) (Tl.setTop (mkF m 31 #[.val (.ref b), .val (.int (Int32.ofNat (o + i))), .val (.ref d), .val (.int (Int32.ofNat (q + i))), .val (.int (Int32.ofNat len)), .val (.int (Int32.ofNat i)), .val (.int (cv A (o + i)))] [.int (lo8 (cv A (o + i))), .int (Int32.ofNat (q + i)), .ref d])) := c5.trans (by
        refine XS.iload Xl.here hexec rfl (hb hbytes d15) rfl ?_
        refine sipushV Xl.here hexec rfl 255 (hb hbytes d17) (by decide) ?_
        refine XS.icmpYes Xl.here hexec rfl (pc0 := 20) rfl (hb hbytes d20) rfl (ii_le_t (hp i (by omega))) (by decide) rfl ?_
        refine XS.aloadN Xl.here hexec rfl (hb hbytes d26) rfl rfl ?_
        refine XS.iloadN Xl.here hexec rfl (hb hbytes d27) rfl ?_
        refine XS.iload Xl.here hexec rfl (hb hbytes d28) rfl ?_
        refine i2b Xl.here hexec rfl (hb hbytes d30) rfl ?_
        exact Steps.refl _)
      obtain ⟨T7, X7, p7, st7⟩ := Xl.aput hexec hBk rfl hlt rfl (fits_lo8 (cv A (o + i))) (g := (mkF m 31 #[.val (.ref b), .val (.int (Int32.ofNat (o + i))), .val (.ref d), .val (.int (Int32.ofNat (q + i))), .val (.int (Int32.ofNat len)), .val (.int (Int32.ofNat i)), .val (.int (cv A (o + i)))] [.int (lo8 (cv A (o + i))), .int (Int32.ofNat (q + i)), .ref d])) rfl (rest := []) rfl (hb hbytes d31)
      have c8 : Steps p.tables e below (s₁.setTop (entryFrame m #[.ref b, .int (Int32.ofNat o), .ref d, .int (Int32.ofNat q), .int (Int32.ofNat len)] 7)) (T7.setTop (mkF m 32 #[.val (.ref b), .val (.int (Int32.ofNat (o + i))), .val (.ref d), .val (.int (Int32.ofNat (q + i))), .val (.int (Int32.ofNat len)), .val (.int (Int32.ofNat i)), .val (.int (cv A (o + i)))] [])) := c6.trans (st7 _ (Steps.refl _))
      have c9 : Steps p.tables e below (s₁.setTop (entryFrame m #[.ref b, .int (Int32.ofNat o), .ref d, .int (Int32.ofNat q), .int (Int32.ofNat len)] 7)) (T7.setTop (mkF m 3 #[.val (.ref b), .val (.int (Int32.ofNat (o + i) + 1)), .val (.ref d), .val (.int (Int32.ofNat (q + i) + 1)), .val (.int (Int32.ofNat len)), .val (.int (Int32.ofNat i + 1)), .val (.int (cv A (o + i)))] [])) := c8.trans (by
        refine iincV X7.here hexec rfl 1 (hb hbytes d32) (by decide) rfl rfl ?_
        refine iincV X7.here hexec rfl 1 (hb hbytes d35) (by decide) rfl rfl ?_
        refine iincV X7.here hexec rfl 1 (hb hbytes d38) (by decide) rfl rfl ?_
        refine XS.goto X7.here hexec rfl (pc0 := 41) rfl (hb hbytes d41) (by decide) rfl ?_
        exact Steps.refl _)
      have c10 : Steps p.tables e below (s₁.setTop (entryFrame m #[.ref b, .int (Int32.ofNat o), .ref d, .int (Int32.ofNat q), .int (Int32.ofNat len)] 7)) (T7.setTop (mkF m 3 #[.val (.ref b), .val (.int (Int32.ofNat (o + (i + 1)))), .val (.ref d), .val (.int (Int32.ofNat (q + (i + 1)))), .val (.int (Int32.ofNat len)), .val (.int (Int32.ofNat (i + 1))), .val (.int (cv A (o + i)))] [])) := by
        have := c9
        rw [succ32, succ32, succ32] at this
        exact this
      exact ih (i + 1) (by omega) _ (Or.inr ⟨_, rfl, rfl⟩) T7 _ (by rw [copyLocs_step, ← List.append_assoc]; exact X7) (pl.trans p7) (fl.step (by omega) hlt (by simp)) c10
  obtain ⟨T9, B9, z9, X9, p9, f9, g9⟩ := loop len 0 (by omega) .unset (Or.inl rfl) s₁ B (by simpa [copyLocs] using X0) ⟨hB0.1, fun _ _ => rfl, rfl⟩ (Laid.zero _ _ _) c2
  have c11 : Steps p.tables e below (s₁.setTop (entryFrame m #[.ref b, .int (Int32.ofNat o), .ref d, .int (Int32.ofNat q), .int (Int32.ofNat len)] 7)) (T9.setTop (mkF m 46 #[.val (.ref b), .val (.int (Int32.ofNat (o + len))), .val (.ref d), .val (.int (Int32.ofNat (q + len))), .val (.int (Int32.ofNat len)), .val (.int (Int32.ofNat len)), z9] [.int (Int32.ofNat len)])) := g9.trans (by
    refine XS.iload X9.here hexec rfl (hb hbytes d3) rfl ?_
    refine XS.iload X9.here hexec rfl (hb hbytes d5) rfl ?_
    refine XS.icmpYes X9.here hexec rfl (pc0 := 7) rfl (hb hbytes d7) rfl (ii_ge_t (nlt32 (by omega) (Nat.le_refl _))) (by decide) rfl ?_
    refine XS.iload X9.here hexec rfl (hb hbytes d44) rfl ?_
    exact Steps.refl _)
  exact ⟨T9, some (.int (Int32.ofNat len)), _, _, _, X9, by simp, rfl, rfl, (fun h => by cases h), ⟨rfl, B9, p9.from hh0, f9⟩, fun fs hl => c11.trans (X9.ireturnOut hexec hret rfl (Or.inl rfl) (hb hbytes d46) hl)⟩
end Cmp5
namespace Cmp3
def yN : MethodName := ⟨"java/lang/StringUTF16", "compress", "([CII)[B"⟩
abbrev yB : ByteArray := jdk_52_method_16_code
theorem d0 : decode yB 0 = .ok (.iload_n 2, 1) := by decide +kernel
theorem d1 : decode yB 1 = .ok (.newarray .byte, 2) := by decide +kernel
theorem d3 : decode yB 3 = .ok (.astore_n 3, 1) := by decide +kernel
theorem d4 : decode yB 4 = .ok (.aload_n 0, 1) := by decide +kernel
theorem d5 : decode yB 5 = .ok (.iload_n 1, 1) := by decide +kernel
theorem d6 : decode yB 6 = .ok (.aload_n 3, 1) := by decide +kernel
theorem d7 : decode yB 7 = .ok (.iconst 0, 1) := by decide +kernel
theorem d8 : decode yB 8 = .ok (.iload_n 2, 1) := by decide +kernel
theorem d9 : decode yB 9 = .ok (.invokestatic 115, 3) := by decide +kernel
theorem d12 : decode yB 12 = .ok (.istore 4, 2) := by decide +kernel
theorem d14 : decode yB 14 = .ok (.iload 4, 2) := by decide +kernel
theorem d16 : decode yB 16 = .ok (.iload_n 2, 1) := by decide +kernel
theorem d17 : decode yB 17 = .ok (.if_icmp (.eq) 40, 3) := by decide +kernel
theorem d57 : decode yB 57 = .ok (.aload_n 3, 1) := by decide +kernel
theorem d58 : decode yB 58 = .ok (.areturn, 1) := by decide +kernel
def site : List Cond := [.arrayClass .byte, Cmp5.tab] ++ staticW U16 115 Cmp5.yN
def tab : Cond := tabOf yN yB 6 (some (.array .byte)) site
def P (b : Addr) (A : Cell) (o len : Nat) (args : Array Value) (s : State) : Prop := args = #[.ref b, .int (Int32.ofNat o), .int (Int32.ofNat len)] ∧ Ch b A s ∧ o + len ≤ A.slots.size ∧ len ≤ 536870912 ∧ ∀ i, i < len → ¬ 255 < cv A (o + i)
def E (b : Addr) (A : Cell) (o len : Nat) (r : Option Value) (s u : State) : Prop := NewArr .byte "[B" len (fun j => .int (lo8 (cv A (o + j)))) r s u ∧ u.heap.size = s.heap.size + 1
/-- no char of the range above 255: a new byte[] of their low bytes -/
theorem law (l : Launch) (b : Addr) (A : Cell) (o len : Nat) : Law l yN 3 3 1 18 yB 6 (some (.array .byte)) site (P b A o len) (E b A o len) [] 1 len := by
  refine Law.of_walk (plainFor_of_name (by decide +kernel)) (by decide +kernel) (by decide +kernel) (by decide) (fun _ _ h => by rw [h.1]; rfl) (fun _ U U' hal hh h => ⟨h.1, h.2.1.mv hal hh, h.2.2⟩) (fun r U U' V V' h1 hal h2 h => ⟨NewArr.mv r U U' V V' h1 hal h2 h.1, by rw [h1, h2]; exact h.2⟩) ?_
  intro p e s m args below meth c s₁ X0 hexec hbytes hml hret hlk hnm hown hh0 W hP
  obtain ⟨rfl, hA, l1, l2, hp⟩ := hP
  have a31 := hA.1.2.2.2
  have c1 : Steps p.tables e below (s₁.setTop (entryFrame m #[.ref b, .int (Int32.ofNat o), .int (Int32.ofNat len)] 6)) (s₁.setTop (mkF m 0 #[.val (.ref b), .val (.int (Int32.ofNat o)), .val (.int (Int32.ofNat len)), .unset, .unset, .unset] [])) := entry rfl
  have c2 : Steps p.tables e below (s₁.setTop (entryFrame m #[.ref b, .int (Int32.ofNat o), .int (Int32.ofNat len)] 6)) (s₁.setTop (mkF m 1 #[.val (.ref b), .val (.int (Int32.ofNat o)), .val (.int (Int32.ofNat len)), .unset, .unset, .unset] [.int (Int32.ofNat len)])) := c1.trans (by
    refine XS.iloadN X0.here hexec rfl (hb hbytes d0) rfl ?_
    exact Steps.refl _)
  obtain ⟨T3, B3, X3, ba3, bs3, bv3, bh3, bf3, st3⟩ := X0.anew hexec (atype := .byte) (wk W (.arrayClass .byte)) rfl (by show len * 1 ≤ _; omega) (by omega) (g := (mkF m 1 #[.val (.ref b), .val (.int (Int32.ofNat o)), .val (.int (Int32.ofNat len)), .unset, .unset, .unset] [.int (Int32.ofNat len)])) rfl (hb hbytes d1) (rest := []) rfl (Nat.le_refl _) (by show 0 + len ≤ len; omega)
  rw [hh0] at ba3 st3
  have kp3 : XT.Kept s T3 := (XT.Kept.of_eq hh0).push bh3
  have hA3 := hA.keep X3.warmed.alike (kp3 _ _ hA.1.1)
  have hne : b ≠ s.heap.size := hA.1.ne
  have c4 : Steps p.tables e below (s₁.setTop (entryFrame m #[.ref b, .int (Int32.ofNat o), .int (Int32.ofNat len)] 6)) (T3.setTop (mkF m 3 #[.val (.ref b), .val (.int (Int32.ofNat o)), .val (.int (Int32.ofNat len)), .unset, .unset, .unset] [.ref s.heap.size])) := c2.trans (st3 _ (Steps.refl _))
  have c5 : Steps p.tables e below (s₁.setTop (entryFrame m #[.ref b, .int (Int32.ofNat o), .int (Int32.ofNat len)] 6)) (T3.setTop (mkF m 9 #[.val (.ref b), .val (.int (Int32.ofNat o)), .val (.int (Int32.ofNat len)), .val (.ref s.heap.size), .unset, .unset] [.int (Int32.ofNat len), .int 0, .ref s.heap.size, .int (Int32.ofNat o), .ref b])) := c4.trans (by
    refine XS.astoreN X3.here hexec rfl (hb hbytes d3) rfl rfl rfl ?_
    refine XS.aloadN X3.here hexec rfl (hb hbytes d4) rfl rfl ?_
    refine XS.iloadN X3.here hexec rfl (hb hbytes d5) rfl ?_
    refine XS.aloadN X3.here hexec rfl (hb hbytes d6) rfl rfl ?_
    refine iconstV X3.here hexec rfl 0 (hb hbytes d7) (by decide) ?_
    refine XS.iloadN X3.here hexec rfl (hb hbytes d8) rfl ?_
    exact Steps.refl _)
  obtain ⟨v6, T6, X6, E6, g6⟩ := X3.callS hexec (Cmp5.law l b A s.heap.size B3 o 0 len) hown (wks W (staticW U16 115 Cmp5.yN)) (wk W Cmp5.tab) (W := 0) (Nat.le_of_ble_eq_true rfl) (Nat.le_of_ble_eq_true rfl) (Nat.le_refl _) (by show 0 + len + 0 ≤ len; omega) (g := (mkF m 9 #[.val (.ref b), .val (.int (Int32.ofNat o)), .val (.int (Int32.ofNat len)), .val (.ref s.heap.size), .unset, .unset] [.int (Int32.ofNat len), .int (Int32.ofNat 0), .ref s.heap.size, .int (Int32.ofNat o), .ref b])) rfl (by rw [hml]; rfl) c5 (argsL := [.ref b, .int (Int32.ofNat o), .ref s.heap.size, .int (Int32.ofNat 0), .int (Int32.ofNat len)]) (rest := []) rfl rfl (by show 2 * 0 + 0 ≤ _; decide) (hb hbytes d9) (⟨rfl, hA3, ba3, hne, l1, by rw [bs3]; simp, hp⟩)
  obtain ⟨rfl, B6, p6, f6⟩ := E6
  have c7 : Steps p.tables e below (s₁.setTop (entryFrame m #[.ref b, .int (Int32.ofNat o), .int (Int32.ofNat len)] 6)) (T6.setTop (mkF m 12 #[.val (.ref b), .val (.int (Int32.ofNat o)), .val (.int (Int32.ofNat len)), .val (.ref s.heap.size), .unset, .unset] [.int (Int32.ofNat len)])) := g6
  have c8 : Steps p.tables e below (s₁.setTop (entryFrame m #[.ref b, .int (Int32.ofNat o), .int (Int32.ofNat len)] 6)) (T6.setTop (mkF m 58 #[.val (.ref b), .val (.int (Int32.ofNat o)), .val (.int (Int32.ofNat len)), .val (.ref s.heap.size), .val (.int (Int32.ofNat len)), .unset] [.ref s.heap.size])) := c7.trans (by
    refine XS.istore X6.here hexec rfl (hb hbytes d12) rfl rfl ?_
    refine XS.iload X6.here hexec rfl (hb hbytes d14) rfl ?_
    refine XS.iloadN X6.here hexec rfl (hb hbytes d16) rfl ?_
    refine XS.icmpYes X6.here hexec rfl (pc0 := 17) rfl (hb hbytes d17) rfl (ii_eq_t rfl) (by decide) rfl ?_
    refine XS.aloadN X6.here hexec rfl (hb hbytes d57) rfl rfl ?_
    exact Steps.refl _)
  have X8 := X6.wide (L' := []) (cells' := 1) (slots' := len) (fun x hx hlt => by
    simp only [List.nil_append, copyLocs, List.mem_map, List.mem_range] at hx
    obtain ⟨i, -, rfl⟩ := hx
    exact absurd hlt (Nat.lt_irrefl _)) (Nat.le_refl _) (by omega)
  exact ⟨T6, some (.ref s.heap.size), _, _, _, X8, rfl, rfl, rfl, (fun h => by cases h), ⟨⟨rfl, B6, ba3.like (X3.warmed.alike.symm.trans X6.warmed.alike) p6.1 f6.1 f6.2.1 f6.2.2.1, f6.2.1.trans bv3, by rw [X6.warmed.alike.findClass, f6.1]; exact bf3, by rw [f6.2.2.1, bs3]; simp, fun j hj => by rw [f6.2.2.2 j, if_pos (by omega)]; rfl, kp3.put p6 (Nat.le_refl _)⟩, by rw [p6.2.2, bh3, hh0]; simp⟩, fun fs hl => c8.trans (X8.areturnOut hexec rfl hret rfl (hb hbytes d58) hl)⟩
end Cmp3
namespace CodL
def yN : MethodName := ⟨"java/lang/StringUTF16", "coderFromArrayLen", "([BI)B"⟩
abbrev yB : ByteArray := jdk_52_method_15_code
theorem d0 : decode yB 0 = .ok (.iload_n 1, 1) := by decide +kernel
theorem d1 : decode yB 1 = .ok (.aload_n 0, 1) := by decide +kernel
theorem d2 : decode yB 2 = .ok (.arraylength, 1) := by decide +kernel
theorem d3 : decode yB 3 = .ok (.isub, 1) := by decide +kernel
theorem d4 : decode yB 4 = .ok (.bipush 31, 2) := by decide +kernel
theorem d6 : decode yB 6 = .ok (.iushr, 1) := by decide +kernel
theorem d7 : decode yB 7 = .ok (.i2b, 1) := by decide +kernel
theorem d8 : decode yB 8 = .ok (.ireturn, 1) := by decide +kernel
def site : List Cond := []
def tab : Cond := tabOf yN yB 2 (some .byte) site
def P (d : Addr) (B : Cell) (args : Array Value) (s : State) : Prop := args = #[.ref d, .int (Int32.ofNat B.slots.size)] ∧ Arr .byte d B s
def E (r : Option Value) (s u : State) : Prop := XT.PureE (some (.int 0)) r s u
/-- an array as long as the number of chars: LATIN1 -/
theorem law (l : Launch) (d : Addr) (B : Cell) : Law l yN 2 2 0 0 yB 2 (some .byte) site (P d B) E [] 0 0 := by
  refine Law.of_walk (plainFor_of_name (by decide +kernel)) (by decide +kernel) (by decide +kernel) (by decide) (fun _ _ h => by rw [h.1]; rfl) (fun _ U U' hal hh h => ⟨h.1, h.2.mv hal hh⟩) (fun r U U' V V' h1 hal h2 h => XT.PureE.mv r U U' V V' h1 hal h2 h) ?_
  intro p e s m args below meth c s₁ X0 hexec hbytes hml hret hlk hnm hown hh0 W hP
  obtain ⟨rfl, hB⟩ := hP
  have hB0 := hB.mv X0.warmed.alike hh0
  have c1 : Steps p.tables e below (s₁.setTop (entryFrame m #[.ref d, .int (Int32.ofNat B.slots.size)] 2)) (s₁.setTop (mkF m 0 #[.val (.ref d), .val (.int (Int32.ofNat B.slots.size))] [])) := entry rfl
  have c2 : Steps p.tables e below (s₁.setTop (entryFrame m #[.ref d, .int (Int32.ofNat B.slots.size)] 2)) (s₁.setTop (mkF m 2 #[.val (.ref d), .val (.int (Int32.ofNat B.slots.size))] [.ref d, .int (Int32.ofNat B.slots.size)])) := c1.trans (by
    refine XS.iloadN X0.here hexec rfl (hb hbytes d0) rfl ?_
    refine XS.aloadN X0.here hexec rfl (hb hbytes d1) rfl rfl ?_
    exact Steps.refl _)
  have c3 : Steps p.tables e below (s₁.setTop (entryFrame m #[.ref d, .int (Int32.ofNat B.slots.size)] 2)) (s₁.setTop (mkF m 8 #[.val (.ref d), .val (.int (Int32.ofNat B.slots.size))] [.int (lo8 (ushr (Int32.ofNat B.slots.size - Int32.ofNat B.slots.size) 31))])) := c2.trans (by
    refine X0.alen hexec hB0 rfl rfl (hb hbytes d2) ?_
    refine XS.isub X0.here hexec rfl (hb hbytes d3) rfl ?_
    refine bipushV X0.here hexec rfl 31 (hb hbytes d4) (by decide) ?_
    refine iushr X0.here hexec rfl (hb hbytes d6) rfl ?_
    refine i2b X0.here hexec rfl (hb hbytes d7) rfl ?_
    exact Steps.refl _)
  have e0 : lo8 (ushr (Int32.ofNat B.slots.size - Int32.ofNat B.slots.size) 31) = 0 := by rw [Int32.sub_self]; decide
  rw [e0] at c3
  exact ⟨s₁, some (.int 0), _, _, _, X0, rfl, rfl, rfl, (fun h => by cases h), ⟨rfl, hh0⟩, fun fs hl => c3.trans (X0.ireturnOut hexec hret rfl (Or.inr (Or.inr (Or.inl rfl))) (hb hbytes d8) hl)⟩
end CodL
/-- the String at a is Latin-1 over a new byte[] (the heap's one new cell): the low bytes of the len chars of A from o on; every cell but a is kept -/
def Got (a : Addr) (D : Cell) (fV fC : Field) (A : Cell) (o len : Nat) (r : Option Value) (s u : State) : Prop := r = none ∧ ∃ D' V : Cell, Blank "java/lang/String" a D' u ∧ Same D D' [fV.slot, fC.slot] ∧ D'.slots[fV.slot]? = some (.ref s.heap.size) ∧ D'.slots[fC.slot]? = some (.int 0) ∧ Arr .byte s.heap.size V u ∧ V.vm = .none ∧ u.vm.findClass "[B" = some V.cls ∧ V.slots.size = len ∧ (∀ j, j < len → V.slots[j]? = some (.int (lo8 (cv A (o + j))))) ∧ (∀ (y : Addr) (c : Cell), y ≠ a → s.heap[y]? = some c → u.heap[y]? = some c) ∧ u.heap.size = s.heap.size + 1
theorem Got.mv {a : Addr} {D A : Cell} {fV fC : Field} {o len : Nat} : ∀ r (U U' V V' : State), U'.heap = U.heap → V.vm.Alike V'.vm → V'.heap = V.heap → Got a D fV fC A o len r U V → Got a D fV fC A o len r U' V' :=
  fun r U U' V V' h1 hal h2 ⟨e0, D', X, a1, a2, a3, a4, a5, a6, a7, a8, a9, a10, a11⟩ => ⟨e0, D', X, a1.mv hal h2, a2, by rw [h1]; exact a3, a4, by rw [h1]; exact a5.mv hal h2, a6, by rw [hal.findClass]; exact a7, a8, a9, by rw [h1, h2]; exact a10, by rw [h1, h2]; exact a11⟩
namespace New4
def yN : MethodName := ⟨"java/lang/String", "<init>", "([CIILjava/lang/Void;)V"⟩
abbrev yB : ByteArray := jdk_42_method_149_code
theorem d0 : decode yB 0 = .ok (.aload_n 0, 1) := by decide +kernel
theorem d1 : decode yB 1 = .ok (.invokespecial 1, 3) := by decide +kernel
theorem d4 : decode yB 4 = .ok (.iload_n 3, 1) := by decide +kernel
theorem d5 : decode yB 5 = .ok (.ifCond (.ne) 22, 3) := by decide +kernel
theorem d27 : decode yB 27 = .ok (.getstatic 38, 3) := by decide +kernel
theorem d30 : decode yB 30 = .ok (.ifCond (.eq) 28, 3) := by decide +kernel
theorem d33 : decode yB 33 = .ok (.aload_n 1, 1) := by decide +kernel
theorem d34 : decode yB 34 = .ok (.iload_n 2, 1) := by decide +kernel
theorem d35 : decode yB 35 = .ok (.iload_n 3, 1) := by decide +kernel
theorem d36 : decode yB 36 = .ok (.invokestatic 177, 3) := by decide +kernel
theorem d39 : decode yB 39 = .ok (.astore 5, 2) := by decide +kernel
theorem d41 : decode yB 41 = .ok (.aload_n 0, 1) := by decide +kernel
theorem d42 : decode yB 42 = .ok (.aload 5, 2) := by decide +kernel
theorem d44 : decode yB 44 = .ok (.iload_n 3, 1) := by decide +kernel
theorem d45 : decode yB 45 = .ok (.invokestatic 47, 3) := by decide +kernel
theorem d48 : decode yB 48 = .ok (.putfield 15, 3) := by decide +kernel
theorem d51 : decode yB 51 = .ok (.aload_n 0, 1) := by decide +kernel
theorem d52 : decode yB 52 = .ok (.aload 5, 2) := by decide +kernel
theorem d54 : decode yB 54 = .ok (.putfield 9, 3) := by decide +kernel
theorem d57 : decode yB 57 = .ok (.return_, 1) := by decide +kernel
def site : List Cond := [.fieldLink "java/lang/String" 38 "java/lang/String" "COMPACT_STRINGS" "Z", Cmp3.tab, CodL.tab, .laysFinal "java/lang/String" "java/lang/String" "value" "[B", .fieldLink "java/lang/String" 9 "java/lang/String" "value" "[B", .laysFinal "java/lang/String" "java/lang/String" "coder" "B", .fieldLink "java/lang/String" 15 "java/lang/String" "coder" "B"] ++ objW "java/lang/String" 1 ++ staticW "java/lang/String" 177 Cmp3.yN ++ staticW "java/lang/String" 47 CodL.yN
def tab : Cond := tabOf yN yB 6 none site
def P (a : Addr) (D : Cell) (fV fC : Field) (b : Addr) (A : Cell) (z : Int32) (o len : Nat) (args : Array Value) (s : State) : Prop := args = #[.ref a, .ref b, .int (Int32.ofNat o), .int (Int32.ofNat len), .null] ∧ Blank "java/lang/String" a D s ∧ Found "java/lang/String" "value" "[B" fV s ∧ Found "java/lang/String" "coder" "B" fC s ∧ Ch b A s ∧ StaticIs s "java/lang/String" "COMPACT_STRINGS" "Z" (.int z) ∧ ¬ z = 0 ∧ 0 < len ∧ o + len ≤ A.slots.size ∧ len ≤ 536870912 ∧ ∀ i, i < len → ¬ 255 < cv A (o + i)
def E (a : Addr) (D : Cell) (fV fC : Field) (A : Cell) (o len : Nat) (r : Option Value) (s u : State) : Prop := Got a D fV fC A o len r s u
/-- len > 0, no char of the range above 255: a Latin-1 String of their low bytes -/
theorem law (l : Launch) (a : Addr) (D : Cell) (fV fC : Field) (b : Addr) (A : Cell) (z : Int32) (o len : Nat) : Law l yN 5 4 2 35 yB 6 none site (P a D fV fC b A z o len) (E a D fV fC A o len) [⟨a, fC.slot⟩, ⟨a, fV.slot⟩] 1 len := by
  refine Law.of_walk (plainFor_of_name (by decide +kernel)) (by decide +kernel) (by decide +kernel) (by decide) (fun _ _ h => by rw [h.1]; rfl) (fun _ U U' hal hh h => ⟨h.1, h.2.1.mv hal hh, h.2.2.1.al hal, h.2.2.2.1.al hal, h.2.2.2.2.1.mv hal hh, h.2.2.2.2.2.1.there hal hh, h.2.2.2.2.2.2⟩) (fun r U U' V V' h1 hal h2 h => Got.mv r U U' V V' h1 hal h2 h) ?_
  intro p e s m args below meth c s₁ X0 hexec hbytes hml hret hlk hnm hown hh0 W hP
  obtain ⟨rfl, hB, f1, f2, hA, s1, hz, l0, l1, l2, hp⟩ := hP
  have a31 := hA.1.2.2.2
  have c1 : Steps p.tables e below (s₁.setTop (entryFrame m #[.ref a, .ref b, .int (Int32.ofNat o), .int (Int32.ofNat len), .null] 6)) (s₁.setTop (mkF m 0 #[.val (.ref a), .val (.ref b), .val (.int (Int32.ofNat o)), .val (.int (Int32.ofNat len)), .val .null, .unset] [])) := entry rfl
  have c2 : Steps p.tables e below (s₁.setTop (entryFrame m #[.ref a, .ref b, .int (Int32.ofNat o), .int (Int32.ofNat len), .null] 6)) (s₁.setTop (mkF m 1 #[.val (.ref a), .val (.ref b), .val (.int (Int32.ofNat o)), .val (.int (Int32.ofNat len)), .val .null, .unset] [.ref a])) := c1.trans (by
    refine XS.aloadN X0.here hexec rfl (hb hbytes d0) rfl rfl ?_
    exact Steps.refl _)
  obtain ⟨T3, X3, q3, st3⟩ := X0.oinit hexec hown (wks W (objW "java/lang/String" 1)) (g := (mkF m 1 #[.val (.ref a), .val (.ref b), .val (.int (Int32.ofNat o)), .val (.int (Int32.ofNat len)), .val .null, .unset] [.ref a])) rfl (by rw [hml]; rfl) (rest := []) rfl (hb hbytes d1) (W := 0) (by show 2 * 0 + 0 ≤ _; decide) (Nat.le_of_ble_eq_true rfl) (Nat.le_of_ble_eq_true rfl)
  have hh3 := q3.trans hh0
  have c4 : Steps p.tables e below (s₁.setTop (entryFrame m #[.ref a, .ref b, .int (Int32.ofNat o), .int (Int32.ofNat len), .null] 6)) (T3.setTop (mkF m 27 #[.val (.ref a), .val (.ref b), .val (.int (Int32.ofNat o)), .val (.int (Int32.ofNat len)), .val .null, .unset] [])) := (c2.trans (st3 _ (Steps.refl _))).trans (by
    refine XS.iloadN X3.here hexec rfl (hb hbytes d4) rfl ?_
    refine XS.ifYes X3.here hexec rfl (pc0 := 5) rfl (hb hbytes d5) rfl (i0_ne_t (nz32 (by omega) l0)) (by decide) rfl ?_
    exact Steps.refl _)
  obtain ⟨T5, X5, q5, st5⟩ := X3.sget hexec hown (wk W (.fieldLink "java/lang/String" 38 "java/lang/String" "COMPACT_STRINGS" "Z")) s1 (fun _ _ h => by rw [hh3]; exact h) (g := (mkF m 27 #[.val (.ref a), .val (.ref b), .val (.int (Int32.ofNat o)), .val (.int (Int32.ofNat len)), .val .null, .unset] [])) rfl (hb hbytes d27)
  have hh5 := q5.trans hh3
  have c6 : Steps p.tables e below (s₁.setTop (entryFrame m #[.ref a, .ref b, .int (Int32.ofNat o), .int (Int32.ofNat len), .null] 6)) (T5.setTop (mkF m 30 #[.val (.ref a), .val (.ref b), .val (.int (Int32.ofNat o)), .val (.int (Int32.ofNat len)), .val .null, .unset] [.int z])) := c4.trans (st5 _ (Steps.refl _))
  have c7 : Steps p.tables e below (s₁.setTop (entryFrame m #[.ref a, .ref b, .int (Int32.ofNat o), .int (Int32.ofNat len), .null] 6)) (T5.setTop (mkF m 36 #[.val (.ref a), .val (.ref b), .val (.int (Int32.ofNat o)), .val (.int (Int32.ofNat len)), .val .null, .unset] [.int (Int32.ofNat len), .int (Int32.ofNat o), .ref b])) := c6.trans (by
    refine XS.ifNo X5.here hexec rfl (hb hbytes d30) rfl (i0_eq_f hz) ?_
    refine XS.aloadN X5.here hexec rfl (hb hbytes d33) rfl rfl ?_
    refine XS.iloadN X5.here hexec rfl (hb hbytes d34) rfl ?_
    refine XS.iloadN X5.here hexec rfl (hb hbytes d35) rfl ?_
    exact Steps.refl _)
  obtain ⟨v8, T8, X8, E8, g8⟩ := X5.callS hexec (Cmp3.law l b A o len) hown (wks W (staticW "java/lang/String" 177 Cmp3.yN)) (wk W Cmp3.tab) (W := 0) (Nat.le_of_ble_eq_true rfl) (Nat.le_of_ble_eq_true rfl) (Nat.le_refl _) (by show 0 + len ≤ len; omega) (g := (mkF m 36 #[.val (.ref a), .val (.ref b), .val (.int (Int32.ofNat o)), .val (.int (Int32.ofNat len)), .val .null, .unset] [.int (Int32.ofNat len), .int (Int32.ofNat o), .ref b])) rfl (by rw [hml]; rfl) c7 (argsL := [.ref b, .int (Int32.ofNat o), .int (Int32.ofNat len)]) (rest := []) rfl rfl (by show 2 * 0 + 0 ≤ _; decide) (hb hbytes d36) (⟨rfl, hA.mv X5.warmed.alike hh5, l1, l2, hp⟩)
  obtain ⟨e8, z8⟩ := E8
  obtain ⟨rfl, N, n1, n2, n3, n4, n5, n6⟩ := NewArr.mv _ T5 s _ _ hh5.symm (Vm.Alike.refl _) rfl e8
  rw [hh5] at z8
  have hB1 := hB.keep X8.warmed.alike (n6 _ _ hB.1)
  have hne : s.heap.size ≠ a := (Nat.ne_of_lt (Array.getElem?_eq_some_iff.mp hB.1).1).symm
  have c9 : Steps p.tables e below (s₁.setTop (entryFrame m #[.ref a, .ref b, .int (Int32.ofNat o), .int (Int32.ofNat len), .null] 6)) (T8.setTop (mkF m 39 #[.val (.ref a), .val (.ref b), .val (.int (Int32.ofNat o)), .val (.int (Int32.ofNat len)), .val .null, .unset] [.ref s.heap.size])) := g8
  have c10 : Steps p.tables e below (s₁.setTop (entryFrame m #[.ref a, .ref b, .int (Int32.ofNat o), .int (Int32.ofNat len), .null] 6)) (T8.setTop (mkF m 45 #[.val (.ref a), .val (.ref b), .val (.int (Int32.ofNat o)), .val (.int (Int32.ofNat len)), .val .null, .val (.ref s.heap.size)] [.int (Int32.ofNat N.slots.size), .ref s.heap.size, .ref a])) := by
    have hc : Steps p.tables e below (s₁.setTop (entryFrame m #[.ref a, .ref b, .int (Int32.ofNat o), .int (Int32.ofNat len), .null] 6)) (T8.setTop (mkF m 45 #[.val (.ref a), .val (.ref b), .val (.int (Int32.ofNat o)), .val (.int (Int32.ofNat len)), .val .null, .val (.ref s.heap.size)] [.int (Int32.ofNat len), .ref s.heap.size, .ref a])) := c9.trans (by
      refine XS.astore X8.here hexec rfl (hb hbytes d39) rfl rfl rfl ?_
      refine XS.aloadN X8.here hexec rfl (hb hbytes d41) rfl rfl ?_
      refine XS.aload X8.here hexec rfl (hb hbytes d42) rfl rfl ?_
      refine XS.iloadN X8.here hexec rfl (hb hbytes d44) rfl ?_
      exact Steps.refl _)
    rw [n4]; exact hc
  obtain ⟨v11, T11, X11, E11, g11⟩ := X8.callS hexec (CodL.law l s.heap.size N) hown (wks W (staticW "java/lang/String" 47 CodL.yN)) (wk W CodL.tab) (W := 1) (Nat.le_of_ble_eq_true rfl) (Nat.le_of_ble_eq_true rfl) (Nat.le_refl _) (by show 0 + len + 0 ≤ len; omega) (g := (mkF m 45 #[.val (.ref a), .val (.ref b), .val (.int (Int32.ofNat o)), .val (.int (Int32.ofNat len)), .val .null, .val (.ref s.heap.size)] [.int (Int32.ofNat N.slots.size), .ref s.heap.size, .ref a])) rfl (by rw [hml]; rfl) c10 (argsL := [.ref s.heap.size, .int (Int32.ofNat N.slots.size)]) (rest := [.ref a]) rfl rfl (by show 2 * 0 + (1 + 0) ≤ _; decide) (hb hbytes d45) (⟨rfl, n1⟩)
  obtain ⟨rfl, q11⟩ := E11
  have hB11 := hB1.mv (X8.warmed.alike.symm.trans X11.warmed.alike) q11
  have c12 : Steps p.tables e below (s₁.setTop (entryFrame m #[.ref a, .ref b, .int (Int32.ofNat o), .int (Int32.ofNat len), .null] 6)) (T11.setTop (mkF m 48 #[.val (.ref a), .val (.ref b), .val (.int (Int32.ofNat o)), .val (.int (Int32.ofNat len)), .val .null, .val (.ref s.heap.size)] [.int 0, .ref a])) := g11
  obtain ⟨T13, X13, p13, bl13, sl13, st13⟩ := X11.finit hexec hown (wk W (.fieldLink "java/lang/String" 15 "java/lang/String" "coder" "B")) (Or.inr ⟨_, (wk W (.laysFinal "java/lang/String" "java/lang/String" "coder" "B"))⟩) (Or.inl ⟨rfl, hnm⟩) f2 (Or.inl rfl) hB11 (t := .byte) (by decide +kernel) rfl (g := (mkF m 48 #[.val (.ref a), .val (.ref b), .val (.int (Int32.ofNat o)), .val (.int (Int32.ofNat len)), .val .null, .val (.ref s.heap.size)] [.int 0, .ref a])) rfl (rest := []) rfl (hb hbytes d48)
  have c14 : Steps p.tables e below (s₁.setTop (entryFrame m #[.ref a, .ref b, .int (Int32.ofNat o), .int (Int32.ofNat len), .null] 6)) (T13.setTop (mkF m 54 #[.val (.ref a), .val (.ref b), .val (.int (Int32.ofNat o)), .val (.int (Int32.ofNat len)), .val .null, .val (.ref s.heap.size)] [.ref s.heap.size, .ref a])) := (c12.trans (st13 _ (Steps.refl _))).trans (by
    refine XS.aloadN X13.here hexec rfl (hb hbytes d51) rfl rfl ?_
    refine XS.aload X13.here hexec rfl (hb hbytes d52) rfl rfl ?_
    exact Steps.refl _)
  obtain ⟨T15, X15, p15, bl15, sl15, st15⟩ := X13.finit hexec hown (wk W (.fieldLink "java/lang/String" 9 "java/lang/String" "value" "[B")) (Or.inr ⟨_, (wk W (.laysFinal "java/lang/String" "java/lang/String" "value" "[B"))⟩) (Or.inl ⟨rfl, hnm⟩) f1 (Or.inl rfl) bl13 (t := (.array .byte)) (by decide +kernel) rfl (g := (mkF m 54 #[.val (.ref a), .val (.ref b), .val (.int (Int32.ofNat o)), .val (.int (Int32.ofNat len)), .val .null, .val (.ref s.heap.size)] [.ref s.heap.size, .ref a])) rfl (rest := []) rfl (hb hbytes d54)
  have c16 : Steps p.tables e below (s₁.setTop (entryFrame m #[.ref a, .ref b, .int (Int32.ofNat o), .int (Int32.ofNat len), .null] 6)) (T15.setTop (mkF m 57 #[.val (.ref a), .val (.ref b), .val (.int (Int32.ofNat o)), .val (.int (Int32.ofNat len)), .val .null, .val (.ref s.heap.size)] [])) := c14.trans (st15 _ (Steps.refl _))
  have ap := apart (Or.inr ⟨_, (wk W (.laysFinal "java/lang/String" "java/lang/String" "value" "[B"))⟩) (Or.inr ⟨_, (wk W (.laysFinal "java/lang/String" "java/lang/String" "coder" "B"))⟩) f1 f2 (t₁ := .array .byte) (t₂ := .byte) (by decide +kernel) (by decide +kernel) (by decide)
  have al := X8.warmed.alike.symm.trans X15.warmed.alike
  have n7 : T11.heap[s.heap.size]? = some N := by rw [q11]; exact n1.1
  exact ⟨T15, none, _, _, _, X15, by simp, rfl, by omega, (fun _ => rfl), ⟨rfl, _, N, bl15, ((Same.refl D _).set _ (by simp)).set _ (by simp), sl15, (Cell.slots_setSlot_ne _ ap).trans sl13, n1.keep al (p15.other hne (p13.other hne n7)), n2, by rw [al.findClass]; exact n3, n4, n5, fun y c h1 h2 => p15.other h1 (p13.other h1 (by rw [q11]; exact n6 y c h2)), by rw [p15.2.2, p13.2.2, q11]; exact z8⟩, fun fs hl => c16.trans (X15.returnOut hexec hret (hb hbytes d57) hl)⟩
end New4
namespace New1
def yN : MethodName := ⟨"java/lang/String", "<init>", "([C)V"⟩
abbrev yB : ByteArray := jdk_42_method_3_code
theorem d0 : decode yB 0 = .ok (.aload_n 0, 1) := by decide +kernel
theorem d1 : decode yB 1 = .ok (.aload_n 1, 1) := by decide +kernel
theorem d2 : decode yB 2 = .ok (.iconst 0, 1) := by decide +kernel
theorem d3 : decode yB 3 = .ok (.aload_n 1, 1) := by decide +kernel
theorem d4 : decode yB 4 = .ok (.arraylength, 1) := by decide +kernel
theorem d5 : decode yB 5 = .ok (.aconst_null, 1) := by decide +kernel
theorem d6 : decode yB 6 = .ok (.invokespecial 27, 3) := by decide +kernel
theorem d9 : decode yB 9 = .ok (.return_, 1) := by decide +kernel
def site : List Cond := [New4.tab] ++ initW "java/lang/String" 27 New4.yN
def tab : Cond := tabOf yN yB 2 none site
def P (a : Addr) (D : Cell) (fV fC : Field) (b : Addr) (A : Cell) (z : Int32) (args : Array Value) (s : State) : Prop := args = #[.ref a, .ref b] ∧ Blank "java/lang/String" a D s ∧ Found "java/lang/String" "value" "[B" fV s ∧ Found "java/lang/String" "coder" "B" fC s ∧ Ch b A s ∧ StaticIs s "java/lang/String" "COMPACT_STRINGS" "Z" (.int z) ∧ ¬ z = 0 ∧ 0 < A.slots.size ∧ A.slots.size ≤ 536870912 ∧ ∀ i, i < A.slots.size → ¬ 255 < cv A i
def E (a : Addr) (D : Cell) (fV fC : Field) (A : Cell) (r : Option Value) (s u : State) : Prop := Got a D fV fC A 0 A.slots.size r s u
/-- new String(chars), not empty, no char above 255: a Latin-1 String of their low bytes -/
theorem law (l : Launch) (a : Addr) (D : Cell) (fV fC : Field) (b : Addr) (A : Cell) (z : Int32) : Law l yN 2 1 3 52 yB 2 none site (P a D fV fC b A z) (E a D fV fC A) [⟨a, fC.slot⟩, ⟨a, fV.slot⟩] 1 A.slots.size := by
  refine Law.of_walk (plainFor_of_name (by decide +kernel)) (by decide +kernel) (by decide +kernel) (by decide) (fun _ _ h => by rw [h.1]; rfl) (fun _ U U' hal hh h => ⟨h.1, h.2.1.mv hal hh, h.2.2.1.al hal, h.2.2.2.1.al hal, h.2.2.2.2.1.mv hal hh, h.2.2.2.2.2.1.there hal hh, h.2.2.2.2.2.2⟩) (fun r U U' V V' h1 hal h2 h => Got.mv r U U' V V' h1 hal h2 h) ?_
  intro p e s m args below meth c s₁ X0 hexec hbytes hml hret hlk hnm hown hh0 W hP
  obtain ⟨rfl, hB, f1, f2, hA, s1, hz, l0, l2, hp⟩ := hP
  have c1 : Steps p.tables e below (s₁.setTop (entryFrame m #[.ref a, .ref b] 2)) (s₁.setTop (mkF m 0 #[.val (.ref a), .val (.ref b)] [])) := entry rfl
  have c2 : Steps p.tables e below (s₁.setTop (entryFrame m #[.ref a, .ref b] 2)) (s₁.setTop (mkF m 6 #[.val (.ref a), .val (.ref b)] [.null, .int (Int32.ofNat A.slots.size), .int 0, .ref b, .ref a])) := c1.trans (by
    refine XS.aloadN X0.here hexec rfl (hb hbytes d0) rfl rfl ?_
    refine XS.aloadN X0.here hexec rfl (hb hbytes d1) rfl rfl ?_
    refine iconstV X0.here hexec rfl 0 (hb hbytes d2) (by decide) ?_
    refine XS.aloadN X0.here hexec rfl (hb hbytes d3) rfl rfl ?_
    refine X0.alen hexec (hA.1.mv X0.warmed.alike hh0) rfl rfl (hb hbytes d4) ?_
    refine XS.aconstNull X0.here hexec rfl (hb hbytes d5) ?_
    exact Steps.refl _)
  obtain ⟨v3, T3, X3, E3, g3⟩ := X0.callN hexec (New4.law l a D fV fC b A z 0 A.slots.size) rfl hown (wks W (initW "java/lang/String" 27 New4.yN)) (W New4.tab (by simp only [site, List.mem_cons, List.mem_append, true_or, or_true])) (W := 0) (Nat.le_of_ble_eq_true rfl) (Nat.le_of_ble_eq_true rfl) (Nat.le_refl _) (by show 0 + A.slots.size ≤ A.slots.size; omega) (g := (mkF m 6 #[.val (.ref a), .val (.ref b)] [.null, .int (Int32.ofNat A.slots.size), .int (Int32.ofNat 0), .ref b, .ref a])) rfl (by rw [hml]; rfl) c2 (argsL := [.ref b, .int (Int32.ofNat 0), .int (Int32.ofNat A.slots.size), .null]) (rest := []) rfl rfl (by show 2 * 0 + 0 ≤ _; decide) (hb hbytes d6) (⟨rfl, hB.mv X0.warmed.alike hh0, f1.al X0.warmed.alike, f2.al X0.warmed.alike, hA.mv X0.warmed.alike hh0, s1.there X0.warmed.alike hh0, hz, l0, by omega, l2, fun i hi => by rw [Nat.zero_add]; exact hp i hi⟩)
  have e0 := Got.mv _ s₁ s _ _ hh0.symm (Vm.Alike.refl _) rfl E3
  obtain rfl := e0.1
  have c4 : Steps p.tables e below (s₁.setTop (entryFrame m #[.ref a, .ref b] 2)) (T3.setTop (mkF m 9 #[.val (.ref a), .val (.ref b)] [])) := g3
  exact ⟨T3, none, _, _, _, X3, by simp, rfl, by omega, (fun _ => rfl), e0, fun fs hl => c4.trans (X3.returnOut hexec hret (hb hbytes d9) hl)⟩
theorem pays {l : Launch} {R : Room} {p : Program} {e : Env} {below : List Frame} {s : State} {sargs : Array Value} {len W : Nat} (a : Addr) (D : Cell) (fV fC : Field) (b : Addr) (A : Cell) (z : Int32) (htab : tab.before sargs s = true) (hfr : 4 ≤ R.frames) (hlo : W + 65 ≤ R.locals) :
    Back l R p e below s sargs yN len W (fun A₁ a₁ => A₁.cells + 1 ≤ R.cells ∧ A₁.slots + A.slots.size ≤ R.slots ∧ P a D fV fC b A z a₁ A₁.U) (fun A₁ _ v₁ B₁ => E a D fV fC A v₁ A₁.U B₁.U ∧ B₁.locs = A₁.locs ++ [⟨a, fC.slot⟩, ⟨a, fV.slot⟩] ∧ B₁.cells = A₁.cells + 1 ∧ B₁.slots = A₁.slots + A.slots.size) :=
  (law l a D fV fC b A z).pays htab hfr (by omega)
end New1
/-- the byte, read back as charAt reads it, is the char -/
theorem lo8_mask {x : Int32} (h0 : ¬ x < 0) (h1 : ¬ 255 < x) : lo8 x &&& 255 = x := by
  have t : ∀ k : Fin 256, lo8 (Int32.ofNat k.val) &&& 255 = Int32.ofNat k.val := by decide +kernel
  rw [Int32.lt_iff_toInt_lt] at h0 h1
  have e0 : (0 : Int32).toInt = 0 := rfl
  have e1 : (255 : Int32).toInt = 255 := rfl
  obtain ⟨k, hk⟩ : ∃ k : Nat, x.toInt = k := ⟨x.toInt.toNat, by omega⟩
  have hx : x = Int32.ofNat k := Int32.toInt_inj.mp (by rw [hk, Int32.toInt_ofNat_small (by omega)])
  rw [hx]
  exact t ⟨k, by omega⟩
end StrChars
namespace StrChars.Road
open Jvm Sem ClassFile Op Lib Jvm.Stand Jvm.Free Jvm.Free.XT
open Jvm.Lib.Cold (StaticIs)
abbrev ST : String := "java/lang/String"
/-- every table word that New1's law asks, flat -/
abbrev words : List Jvm.Cond := [.code New1.yN New1.yB 2 none, .initialized ST, .methodLink ST 27 New4.yN, .instanceMethod New4.yN,
  .code New4.yN New4.yB 6 none, .fieldLink ST 38 ST "COMPACT_STRINGS" "Z", .laysFinal ST ST "value" "[B", .fieldLink ST 9 ST "value" "[B", .laysFinal ST ST "coder" "B", .fieldLink ST 15 ST "coder" "B",
  .methodLink ST 1 Lib.objectInit, .instanceMethod Lib.objectInit, .code Lib.objectInit ⟨#[0xb1]⟩ 1 none, .methodLink ST 177 Cmp3.yN, .static Cmp3.yN, .methodLink ST 47 CodL.yN, .static CodL.yN,
  .code Cmp3.yN Cmp3.yB 6 (some (.array .byte)), .initialized U16, .arrayClass .byte, .methodLink U16 115 Cmp5.yN, .static Cmp5.yN, .code Cmp5.yN Cmp5.yB 7 (some .int), .code CodL.yN CodL.yB 2 (some .byte)]
theorem tab_of {a : Array Value} {s : State} (h : ∀ w ∈ words, w.before a s = true) : New1.tab.before a s = true := by
  have h5 : Cmp5.tab.before a s = true := unparts (wk h (.code Cmp5.yN Cmp5.yB 7 (some .int))) (wks h (.initialized Cmp5.yN.cls :: Cmp5.site))
  have hc : CodL.tab.before a s = true := unparts (wk h (.code CodL.yN CodL.yB 2 (some .byte))) (wks h (.initialized CodL.yN.cls :: CodL.site))
  have q5 : ∀ w ∈ Cmp5.tab :: words, w.before a s = true := fun w hw => (List.mem_cons.mp hw).elim (fun e => e ▸ h5) (h w)
  have h3 : Cmp3.tab.before a s = true := unparts (wk q5 (.code Cmp3.yN Cmp3.yB 6 (some (.array .byte)))) (wks q5 (.initialized Cmp3.yN.cls :: Cmp3.site))
  have q3 : ∀ w ∈ Cmp3.tab :: CodL.tab :: words, w.before a s = true := fun w hw => (List.mem_cons.mp hw).elim (fun e => e ▸ h3) fun hw => (List.mem_cons.mp hw).elim (fun e => e ▸ hc) (h w)
  have h4 : New4.tab.before a s = true := unparts (wk q3 (.code New4.yN New4.yB 6 none)) (wks q3 (.initialized New4.yN.cls :: New4.site))
  have q4 : ∀ w ∈ New4.tab :: words, w.before a s = true := fun w hw => (List.mem_cons.mp hw).elim (fun e => e ▸ h4) (h w)
  exact unparts (wk q4 (.code New1.yN New1.yB 2 none)) (wks q4 (.initialized New1.yN.cls :: New1.site))
/-- the words ride from the start Z to the walk's own state -/
theorem moved {Z s : State} {a0 args : Array Value} (hZ : Z.Warmed39 s.vm) (hw : ∀ d ∈ words, d.before a0 Z = true) : ∀ d ∈ words, d.before args s = true := fun d hd => by
  have q := hw d hd
  have t : ∀ d ∈ words, d = .arrayClass .byte ∨ (d.onTables && d.keepsFace) = true := by decide +kernel
  rcases t d hd with rfl | t
  · exact RoadKit.mvA hZ q
  · exact RoadKit.mv hZ q t
/-- WHAT COMES BACK, over the tables of the start Z: h the heap at the call, h' behind it -/
def Q (Z : State) (x : Addr) (A : Cell) (h : Heap) (v : Option Value) (h' : Heap) (L : List Loc) : Prop := v = none ∧ (∀ y ∈ L, y.base = x) ∧ RoadKit.Keep h h' [x] ∧ h'.size = h.size + 1 ∧ RoadKit.Exa Z h' x ST ∧ RoadKit.Fld Z h' x ST "value" "[B" (.ref h.size) ∧ RoadKit.Fld Z h' x ST "coder" "B" (.int 0) ∧
  (∃ V : Cell, RoadKit.Arr Z h' h.size V .byte ∧ V.vm = .none ∧ Z.vm.findClass "[B" = some V.cls ∧ V.slots.size = A.slots.size ∧ ∀ j, j < A.slots.size → V.slots[j]? = some (.int (lo8 (cv A j)))) ∧
  ∀ (O n d : String) (w : Value), RoadKit.Fld Z h x O n d w → RoadKit.slotOf Z O n d ≠ RoadKit.slotOf Z ST "value" "[B" → RoadKit.slotOf Z O n d ≠ RoadKit.slotOf Z ST "coder" "B" → RoadKit.Fld Z h' x O n d w
/-- **new String(chars) AT A CALL, IN THE ROAD'S FORM**: for specialBack behind newO: x the fresh String, b the char[] with the cell A -/
theorem back {p : Program} {l : Launch} {e : Env} {R : Room} {s : State} {args : Array Value} {below : List Frame} {len W : Nat} {Z : State} {a0 : Array Value} {h : Heap} (hZ : Z.Warmed39 s.vm) (hw : ∀ d ∈ words, d.before a0 Z = true) {kI : Nat} (wi : (Jvm.Cond.instantiable ST kI).before a0 Z = true)
    {x b : Addr} {A : Cell} {z : Int32} {v0 c0 : Value} (E : RoadKit.Exa Z h x ST) (V : RoadKit.Fld Z h x ST "value" "[B" v0) (C : RoadKit.Fld Z h x ST "coder" "B" c0) (K : RoadKit.Arr Z h b A .char) (hty : Typed .char A) (S : RoadKit.Sta Z h ST "COMPACT_STRINGS" "Z" (.int z)) (hz : ¬ z = 0)
    (l0 : 0 < A.slots.size) (l2 : A.slots.size ≤ 536870912) (hp : ∀ i, i < A.slots.size → ¬ 255 < cv A i) (hfr : 4 ≤ R.frames) (hlo : W + 65 ≤ R.locals) :
    Back l R p e below s args New1.yN len W (fun P a => a = #[.ref x, .ref b] ∧ P.U.heap = h ∧ P.cells + 1 ≤ R.cells ∧ P.slots + A.slots.size ≤ R.slots)
      (fun P _ v B => ∃ L, Q Z x A h v B.U.heap L ∧ B.locs = P.locs ++ L ∧ B.cells = P.cells + 1 ∧ B.slots = P.slots + A.slots.size) := by
  intro m meth c P g ig mk a X hg hsize hdg hW hn hp'
  obtain ⟨rfl, rfl, r1, r2⟩ := hp'
  have al : Z.vm.Alike P.U.vm := hZ.alike.trans X.warmed.alike
  obtain ⟨D, cfV, kV, iV, fV, hD, gV, stV, knV, obV, asV, slV⟩ := id V
  obtain ⟨D', cfC, kC, iC, fC, hD', gC, stC, -, -, asC, slC⟩ := id C
  cases hD.symm.trans hD'
  obtain ⟨D2, kD, e1, e2, e3, e4, e5⟩ := id E
  cases hD.symm.trans e1
  obtain ⟨c2, k2, i1, i2, i3, -⟩ := Cond.instantiable_spec wi
  cases e2.symm.trans i1
  cases e3.symm.trans i2
  obtain ⟨kU, u1, u2⟩ := al.2.2 _ _ e3
  have hB : Blank ST x D P.U := ⟨hD, ⟨knV, fun q hq => by rw [hq] at obV; cases obV⟩, by rw [al.findClass]; exact e2, kU, u1, by rw [u2]; exact i3, by rw [u2]; exact e5 i3⟩
  have F1 : Found ST "value" "[B" fV P.U := ⟨SBG.found_only al ⟨cfV, kV, iV, gV⟩, stV⟩
  have F2 : Found ST "coder" "B" fC P.U := ⟨SBG.found_only al ⟨cfC, kC, iC, gC⟩, stC⟩
  have hA : Ch b A P.U := ⟨⟨K.1, State.isArrayOf_alike al K.2.1, K.2.2, by omega⟩, hty⟩
  have hS : StaticIs P.U ST "COMPACT_STRINGS" "Z" (.int z) := by
    obtain ⟨cfS, iS, kS, fS, st, cS, t1, t2, t3, t4, t5, t6, t7⟩ := S
    exact StaticIs.there (s := { Z with heap := P.U.heap }) ⟨cfS, iS, kS, fS, st, cS, t1, t2, t3, t4, t5, (fun q => by rw [q] at t6; cases t6), t7⟩ al rfl
  obtain ⟨v, B, X', ⟨⟨hv, E', V', q1, q2, q3, q4, q5, q6, q7, q8, q9, q10, q11⟩, hl, hc, hs⟩, st⟩ := New1.pays x D fV fC b A z (tab_of (moved hZ hw)) hfr hlo m meth c P g ig mk _ X hg hsize hdg hW hn ⟨r1, r2, rfl, hB, F1, F2, hA, hS, hz, l0, l2, hp⟩
  have al' : Z.vm.Alike B.U.vm := hZ.alike.trans X'.warmed.alike
  have hsz : E'.slots.size = D.slots.size := by
    obtain ⟨-, -, -, kB, w1, w2, w3⟩ := q1
    obtain ⟨kB', y1, y2⟩ := al'.2.2 _ _ e3
    rw [q2.2.1] at w1
    cases w1.symm.trans y1
    rw [w3, e5 i3, y2]
  refine ⟨v, B, X', ⟨_, ⟨hv, ?_, ⟨by omega, fun y cy hy hn' => q10 y cy (by simpa using hn') hy, fun y cy hy => ?_⟩, q11, ⟨E', _, q1.1, by rw [q2.2.1]; exact e2, by rw [q2.2.1]; exact e3, by rw [q2.1]; exact obV, fun _ => by rw [hsz]; exact e5 i3⟩,
    ⟨E', cfV, kV, iV, fV, q1.1, gV, stV, by rw [q2.1]; exact knV, by rw [q2.1]; exact obV, by rw [q2.2.1]; exact asV, q3⟩, ⟨E', cfC, kC, iC, fC, q1.1, gC, stC, by rw [q2.1]; exact knV, by rw [q2.1]; exact obV, by rw [q2.2.1]; exact asC, q4⟩,
    ⟨V', ⟨q5.1, State.isArrayOf_alike al'.symm q5.2.1, q5.2.2.1⟩, q6, by rw [← al'.findClass]; exact q7, q8, fun j hj => by have := q9 j hj; rwa [Nat.zero_add] at this⟩, fun O n d w F n1 n2 => ?_⟩, hl, hc, hs⟩, st⟩
  · intro y hy
    simp only [List.mem_cons, List.not_mem_nil, or_false] at hy
    rcases hy with rfl | rfl <;> rfl
  · by_cases q : y = x
    · subst q
      cases hD.symm.trans hy
      exact ⟨E', q1.1, q2.2.1, q2.1, hsz⟩
    · exact ⟨cy, q10 y cy q hy, rfl, rfl, rfl⟩
  · obtain ⟨D3, cf, k, i, f, g1, g2, g3, g4, g5, g6, g7⟩ := F
    cases hD.symm.trans g1
    simp only [RoadKit.slotOf, g2, gV, gC, Option.map_some, Option.getD_some] at n1 n2
    exact ⟨E', cf, k, i, f, q1.1, g2, g3, by rw [q2.1]; exact g4, by rw [q2.1]; exact g5, by rw [q2.2.1]; exact g6, by rw [q2.2.2 f.slot (by simp [n1, n2])]; exact g7⟩
end StrChars.Road
namespace StrChars.Road
open Jvm Sem ClassFile Op Lib Jvm.Stand Jvm.Free Jvm.Free.XT
/-- WHAT COMES BACK, the byte[] as a list of values -/
def QA (Z : State) (x : Addr) (zn : Int32) (cs : List Int32) (h : Heap) (v : Option Value) (h' : Heap) (L : List Loc) : Prop := v = none ∧ (∀ y ∈ L, y.base = x) ∧ RoadKit.Keep h h' [x] ∧ h'.size = h.size + 1 ∧ RoadKit.Exa Z h' x ST ∧ RoadKit.Fld Z h' x ST "value" "[B" (.ref h.size) ∧ RoadKit.Fld Z h' x ST "coder" "B" (.int 0) ∧
  (∃ kb, Z.vm.findClass "[B" = some kb ∧ RoadKit.Arv Z h' h.size kb .byte zn (cs.map fun c => .int (lo8 c)) (.int 0)) ∧
  ∀ (O n d : String) (w : Value), RoadKit.Fld Z h x O n d w → RoadKit.slotOf Z O n d ≠ RoadKit.slotOf Z ST "value" "[B" → RoadKit.slotOf Z O n d ≠ RoadKit.slotOf Z ST "coder" "B" → RoadKit.Fld Z h' x O n d w
/-- **new String(chars) AT A CALL, THE ARRAYS AS LISTS**: the char[] at b holds cs, not empty, no char above 255 -/
theorem backArv {p : Program} {l : Launch} {e : Env} {R : Room} {s : State} {args : Array Value} {below : List Frame} {len W : Nat} {Z : State} {a0 : Array Value} {h : Heap} (hZ : Z.Warmed39 s.vm) (hw : ∀ d ∈ words, d.before a0 Z = true) {kI : Nat} (wi : (Jvm.Cond.instantiable ST kI).before a0 Z = true)
    {x b : Addr} {k : ClassId} {zn z : Int32} {cs : List Int32} {dv v0 c0 : Value} (E : RoadKit.Exa Z h x ST) (V : RoadKit.Fld Z h x ST "value" "[B" v0) (C : RoadKit.Fld Z h x ST "coder" "B" c0) (K : RoadKit.Arv Z h b k .char zn (cs.map Value.int) dv) (S : RoadKit.Sta Z h ST "COMPACT_STRINGS" "Z" (.int z)) (hz : ¬ z = 0)
    (hlen : zn.toNatClampNeg = cs.length) (h0 : 0 < cs.length) (hbig : cs.length ≤ 536870912) (hall : ∀ c ∈ cs, ¬ 255 < c) (hfr : 4 ≤ R.frames) (hlo : W + 65 ≤ R.locals) :
    Back l R p e below s args New1.yN len W (fun P a => a = #[.ref x, .ref b] ∧ P.U.heap = h ∧ P.cells + 1 ≤ R.cells ∧ P.slots + cs.length ≤ R.slots)
      (fun P _ v B => ∃ L, QA Z x zn cs h v B.U.heap L ∧ B.locs = P.locs ++ L ∧ B.cells = P.cells + 1 ∧ B.slots = P.slots + cs.length) := by
  obtain ⟨A, K1, K2, K3, K4, K5, K6⟩ := K
  have e : A.slots.size = cs.length := K3.trans hlen
  have hat : ∀ (i : Nat) (hi : i < cs.length), A.slots[i]? = some (.int cs[i]) := fun i hi => by rw [K5 i (by omega)]; simp [List.getD_eq_getElem?_getD, hi]
  have hcv : ∀ (i : Nat) (hi : i < cs.length), cv A i = cs[i] := fun i hi => by unfold cv; rw [hat i hi]
  have hty : Typed .char A := fun i v hv => by
    have hi : i < A.slots.size := (Array.getElem?_eq_some_iff.mp hv).1
    have q := K5 i hi
    rw [hv] at q
    rw [Option.some.inj q]
    exact K6 i hi
  refine Back.mono (back hZ hw wi E V C K1 hty S hz (by omega) (by omega) (fun i hi => by rw [hcv i (by omega)]; exact hall _ (List.getElem_mem _)) hfr hlo) (fun P a hp => ⟨hp.1, hp.2.1, hp.2.2.1, by rw [e]; exact hp.2.2.2⟩) (fun P a v B hp hq => ?_)
  obtain ⟨L, ⟨q1, q2, q3, q4, q5, q6, q7, ⟨V', v1, v2, v3, v4, v5⟩, q9⟩, hl, hc, hs⟩ := hq
  refine ⟨L, ⟨q1, q2, q3, q4, q5, q6, q7, ⟨V'.cls, v3, V', v1, rfl, by rw [v4, e, hlen], K4, fun i hi => ?_, fun i hi => ?_⟩, q9⟩, hl, hc, by rw [hs, e]⟩
  · have hi' : i < cs.length := by omega
    rw [v5 i (by omega), hcv i hi']; simp [List.getD_eq_getElem?_getD, hi']
  · have hi' : i < cs.length := by omega
    simp only [List.getD_eq_getElem?_getD, List.getElem?_map, List.getElem?_eq_getElem hi', Option.map_some, Option.getD_some]
    exact fits_lo8 _
end StrChars.Road
namespace StrChars.Road
open Jvm Sem ClassFile Op Lib Jvm.Stand Jvm.Free Jvm.Free.XT
/-- WHAT COMES BACK, in the writer's own shape -/
def QV (Z : State) (x : Addr) (N : Int32) (bs : List Int32) (h : Heap) (n0 : Nat) (v : Option Value) (h' : Heap) (L : List Loc) : Prop := v = none ∧ RoadKit.Fr n0 L ∧ RoadKit.Keep h h' [x] ∧ RoadKit.Exa Z h' x ST ∧ RoadKit.Fld Z h' x ST "coder" "B" (.int 0) ∧
  ∃ (t : Addr) (kb : ClassId), n0 ≤ t ∧ h.size ≤ t ∧ ¬ t = x ∧ RoadKit.Fld Z h' x ST "value" "[B" (.ref t) ∧ RoadKit.Arv Z h' t kb .byte N (bs.map Value.int) (.int 0)
/-- **new String(chars) AT A CALL, FOR THE WRITER**: a char[] of n known ints, each 0 to 255 -/
theorem backV {p : Program} {l : Launch} {e : Env} {R : Room} {s : State} {args : Array Value} {below : List Frame} {len W : Nat} {Z : State} {a0 : Array Value} {h : Heap} (hZ : Z.Warmed39 s.vm) (hw : ∀ d ∈ words, d.before a0 Z = true) {kI : Nat} (wi : (Jvm.Cond.instantiable ST kI).before a0 Z = true)
    {x b : Addr} {kC : ClassId} {cs bs : List Int32} {d v0 c0 : Value} {z N : Int32} {n n0 : Nat} (hx0 : n0 ≤ x) (hh0 : n0 ≤ h.size) (E : RoadKit.Exa Z h x ST) (V : RoadKit.Fld Z h x ST "value" "[B" v0) (C : RoadKit.Fld Z h x ST "coder" "B" c0) (K : RoadKit.Arv Z h b kC .char N (cs.map Value.int) d) (S : RoadKit.Sta Z h ST "COMPACT_STRINGS" "Z" (.int z)) (hz : ¬ z = 0)
    (hn : cs.length = n) (hN : N = Int32.ofNat n) (l0 : 0 < n) (l2 : n ≤ 4000) (hp : ∀ c ∈ cs, ¬ c < 0 ∧ ¬ (255 : Int32) < c) (hb : bs = cs.map (fun c => c.toInt8.toInt32)) (hfr : 4 ≤ R.frames) (hlo : W + 65 ≤ R.locals) :
    Back l R p e below s args (⟨"java/lang/String", "<init>", "([C)V"⟩ : MethodName) len W (fun P a => a = #[.ref x, .ref b] ∧ P.U.heap = h ∧ P.cells + 1 ≤ R.cells ∧ P.slots + n ≤ R.slots)
      (fun P _ v B => ∃ L, QV Z x N bs h n0 v B.U.heap L ∧ B.locs = P.locs ++ L ∧ B.cells = P.cells + 1 ∧ B.slots = P.slots + n) := by
  subst hn hN hb
  refine Back.mono (backArv hZ hw wi E V C K S hz (n32 (by omega)) l0 (by omega) (fun c hc => (hp c hc).2) hfr hlo) (fun P a hp => hp) (fun P a v B hp hq => ?_)
  obtain ⟨L, ⟨q1, q2, q3, q4, q5, q6, q7, ⟨kb, v1, v2⟩, q9⟩, hl, hc, hs⟩ := hq
  exact ⟨L, ⟨q1, fun y hy => by rw [q2 y hy]; exact hx0, q3, q5, q7, h.size, kb, hh0, Nat.le_refl _, Nat.ne_of_gt E.lt, q6, by rw [List.map_map]; exact v2⟩, hl, hc, hs⟩
end StrChars.Road
namespace StrChars
open Jvm Sem ClassFile Op Lib Jvm.Stand Jvm.Free.XT Jvm.Free.ALB Jvm.Free.JM Jvm.Free
open Jvm.Lib.Cold (StaticIs)
def hi8 (x : Int32) : Int32 := lo8 (x >>> ((8 : Int32) &&& 31))
/-- what StringUTF16.getChar makes of two bytes -/
def pairCh (u v : Int32) : Int32 := (((u &&& 255) <<< ((0 : Int32) &&& 31)) ||| ((v &&& 255) <<< ((8 : Int32) &&& 31))).toUInt32.toUInt16.toUInt32.toInt32
theorem shr0 (c : Int32) : c >>> ((0 : Int32) &&& 31) = c := by
  have e : ((0 : Int32) &&& 31) = 0 := by decide
  rw [e]
  apply Int32.toBitVec_inj.mp
  rw [Int32.toBitVec_shiftRight]
  have e1 : ((0 : Int32).toBitVec.smod 32) = 0#32 := by decide
  rw [e1, BitVec.sshiftRight_eq']
  exact BitVec.sshiftRight_zero
theorem lo8_and (x : Int32) : (lo8 x &&& 255).toBitVec.toNat = x.toBitVec.toNat % 256 := by
  have h : (lo8 x).toBitVec = (x.toBitVec.signExtend 8).signExtend 32 := by rw [lo8, Int8.toBitVec_toInt32, Int32.toBitVec_toInt8]
  rw [Int32.toBitVec_and, BitVec.toNat_and, h]
  have e : ((x.toBitVec.signExtend 8).signExtend 32).toNat % 256 = x.toBitVec.toNat % 256 := by
    rw [BitVec.toNat_signExtend]
    have hlt := x.toBitVec.isLt
    simp only [BitVec.toNat_setWidth, BitVec.toNat_signExtend]
    split <;> split <;> omega
  rw [← e]
  exact Nat.and_two_pow_sub_one_eq_mod _ 8
theorem pair_says {c : Int32} (h0 : ¬ c < 0) (h1 : ¬ 65535 < c) : pairCh (lo8 c) (hi8 c) = c := by
  rw [Int32.lt_iff_toInt_lt] at h0 h1
  have e0 : (0 : Int32).toInt = 0 := rfl
  have e1 : (65535 : Int32).toInt = 65535 := rfl
  have hc : c.toInt = c.toBitVec.toNat := by
    have := c.toBitVec.isLt
    have e : c.toInt = c.toBitVec.toInt := rfl
    rw [e] at h0 h1
    rw [e]
    rw [BitVec.toInt_eq_toNat_cond] at h0 h1 ⊢
    split at h0 <;> split <;> omega
  have hn : c.toBitVec.toNat < 65536 := by omega
  have a1 := lo8_and c
  have a2 : (hi8 c &&& 255).toBitVec.toNat = c.toBitVec.toNat / 256 := by
    rw [hi8, lo8_and]
    have e : ((8 : Int32) &&& 31) = 8 := by decide
    rw [e, Int32.toBitVec_shiftRight]
    have e2 : ((8 : Int32).toBitVec.smod 32) = 8#32 := by decide
    rw [e2, BitVec.sshiftRight_eq', BitVec.toNat_sshiftRight_of_msb_false (by rw [BitVec.msb_eq_false_iff_two_mul_lt]; omega)]
    show c.toBitVec.toNat >>> 8 % 256 = _
    rw [Nat.shiftRight_eq_div_pow]
    omega
  unfold pairCh
  apply Int32.toBitVec_inj.mp
  apply BitVec.eq_of_toNat_eq
  have f0 : ((0 : Int32) &&& 31) = 0 := by decide
  have f8 : ((8 : Int32) &&& 31) = 8 := by decide
  rw [f0, f8]
  have g : (((lo8 c &&& 255) <<< (0 : Int32)) ||| ((hi8 c &&& 255) <<< (8 : Int32))).toBitVec.toNat = c.toBitVec.toNat := by
    rw [Int32.toBitVec_or, Int32.toBitVec_shiftLeft, Int32.toBitVec_shiftLeft]
    have s0 : ((0 : Int32).toBitVec.smod 32) = 0#32 := by decide
    have s8 : ((8 : Int32).toBitVec.smod 32) = 8#32 := by decide
    rw [s0, s8, BitVec.toNat_or]
    simp only [BitVec.shiftLeft_eq', BitVec.toNat_shiftLeft, a1, a2]
    show (c.toBitVec.toNat % 256) <<< 0 % 2 ^ 32 ||| (c.toBitVec.toNat / 256) <<< 8 % 2 ^ 32 = _
    rw [Nat.shiftLeft_zero, Nat.mod_eq_of_lt (show c.toBitVec.toNat % 256 < 2 ^ 32 by omega), Nat.mod_eq_of_lt (show (c.toBitVec.toNat / 256) <<< 8 < 2 ^ 32 by rw [Nat.shiftLeft_eq]; omega), Nat.or_comm, ← Nat.shiftLeft_add_eq_or_of_lt (by omega), Nat.shiftLeft_eq]
    omega
  show BitVec.toNat (((((lo8 c &&& 255) <<< (0 : Int32)) ||| ((hi8 c &&& 255) <<< (8 : Int32))).toBitVec.setWidth 16).setWidth 32) = _
  rw [BitVec.toNat_setWidth, BitVec.toNat_setWidth, g]
  omega
end StrChars
namespace StrChars
open Jvm Sem ClassFile Op Lib Jvm.Stand Jvm.Free.XT Jvm.Free.ALB Jvm.Free.JM Jvm.Free
open Jvm.Lib.Cold (StaticIs)
theorem shr1 {n : Nat} (h : 2 * n < 2 ^ 31) : Int32.ofNat (2 * n) >>> ((1 : Int32) &&& 31) = Int32.ofNat n := by
  have e : ((1 : Int32) &&& 31) = 1 := by decide
  rw [e]
  apply Int32.toBitVec_inj.mp
  rw [Int32.toBitVec_shiftRight]
  have e1 : ((1 : Int32).toBitVec.smod 32) = 1#32 := by decide
  have hm : (BitVec.ofNat 32 (2 * n)).toNat = 2 * n := by rw [BitVec.toNat_ofNat, Nat.mod_eq_of_lt (by omega)]
  rw [e1, BitVec.sshiftRight_eq']
  apply BitVec.eq_of_toNat_eq
  show ((BitVec.ofNat 32 (2 * n)).sshiftRight 1).toNat = (BitVec.ofNat 32 n).toNat
  rw [BitVec.toNat_sshiftRight_of_msb_false (by rw [BitVec.msb_eq_false_iff_two_mul_lt, hm]; omega), hm, BitVec.toNat_ofNat, Nat.shiftRight_eq_div_pow]
  omega
/-- charAt's cast of a byte read back -/
def chr8 (u : Int32) : Int32 := (u &&& 255).toUInt32.toUInt16.toUInt32.toInt32
theorem chr8_lo8 {c : Int32} (h0 : ¬ c < 0) (h1 : ¬ 255 < c) : chr8 (lo8 c) = c := by
  have t : ∀ k : Fin 256, (Int32.ofNat k.val).toUInt32.toUInt16.toUInt32.toInt32 = Int32.ofNat k.val := by decide +kernel
  unfold chr8
  rw [lo8_mask h0 h1]
  rw [Int32.lt_iff_toInt_lt] at h0 h1
  have e0 : (0 : Int32).toInt = 0 := rfl
  have e1 : (255 : Int32).toInt = 255 := rfl
  obtain ⟨k, hk⟩ : ∃ k : Nat, c.toInt = k := ⟨c.toInt.toNat, by omega⟩
  have hx : c = Int32.ofNat k := Int32.toInt_inj.mp (by rw [hk, Int32.toInt_ofNat_small (by omega)])
  rw [hx]
  exact t ⟨k, by omega⟩
theorem narrow_ch {c : Int32} (h0 : ¬ c < 0) (h1 : ¬ 65535 < c) : narrow .char (.int c) = .int c := by
  have q : narrow .char (.int (pairCh (lo8 c) (hi8 c))) = .int (pairCh (lo8 c) (hi8 c)) := narrow_c _
  rwa [pair_says h0 h1] at q
/-- the array's cell V codes the n chars f 0 .. f (n - 1) by the coder cd, as the JDK does: coder 1 just where some char is above 255 -/
def Cod (cd : Int32) (n : Nat) (f : Nat → Int32) (V : Cell) : Prop := (cd = 0 ∧ V.slots.size = n ∧ ∀ j, j < n → V.slots[j]? = some (.int (lo8 (f j))) ∧ ¬ 255 < f j) ∨ (cd = 1 ∧ V.slots.size = 2 * n ∧ (∀ j, j < n → V.slots[2 * j]? = some (.int (lo8 (f j))) ∧ V.slots[2 * j + 1]? = some (.int (hi8 (f j)))) ∧ ∃ j, j < n ∧ 255 < f j)
theorem Cod.cd {cd : Int32} {n : Nat} {f : Nat → Int32} {V : Cell} (h : Cod cd n f V) : cd = 0 ∨ cd = 1 := h.imp (fun q => q.1) fun q => q.1
theorem Cod.len {cd : Int32} {n : Nat} {f : Nat → Int32} {V : Cell} (h : Cod cd n f V) (hs : V.slots.size < 2 ^ 31) : Int32.ofNat V.slots.size >>> (cd &&& 31) = Int32.ofNat n := by
  rcases h with ⟨rfl, h, -⟩ | ⟨rfl, h, -⟩
  · rw [shr0, h]
  · rw [h, shr1 (by omega)]
/-- **x is a String of the n chars f 0 .. f (n - 1)**, Latin-1 or UTF-16; its array at t has the cell V -/
def Txt (x t : Addr) (V : Cell) (cd : Int32) (n : Nat) (f : Nat → Int32) (U : State) : Prop := Exact "java/lang/String" x U ∧ Has x "java/lang/String" "value" "[B" (.ref t) U ∧ Has x "java/lang/String" "coder" "B" (.int cd) U ∧ XT.Arr .byte t V U ∧ Cod cd n f V ∧ ∀ j, j < n → ¬ f j < 0 ∧ ¬ 65535 < f j
theorem Txt.mv {x t : Addr} {V : Cell} {cd : Int32} {n : Nat} {f : Nat → Int32} {U U' : State} (h : Txt x t V cd n f U) (hal : U.vm.Alike U'.vm) (hh : U'.heap = U.heap) : Txt x t V cd n f U' := ⟨h.1.mv hal hh, h.2.1.mv hal hh, h.2.2.1.mv hal hh, h.2.2.2.1.mv hal hh, h.2.2.2.2⟩
namespace Cdr
def yN : MethodName := ⟨"java/lang/String", "coder", "()B"⟩
abbrev yB : ByteArray := jdk_42_method_152_code
theorem d0 : decode yB 0 = .ok (.getstatic 38, 3) := by decide +kernel
theorem d3 : decode yB 3 = .ok (.ifCond (.eq) 10, 3) := by decide +kernel
theorem d6 : decode yB 6 = .ok (.aload_n 0, 1) := by decide +kernel
theorem d7 : decode yB 7 = .ok (.getfield 15, 3) := by decide +kernel
theorem d10 : decode yB 10 = .ok (.goto 4, 3) := by decide +kernel
theorem d14 : decode yB 14 = .ok (.ireturn, 1) := by decide +kernel
def site : List Cond := [.fieldLink "java/lang/String" 38 "java/lang/String" "COMPACT_STRINGS" "Z", .fieldLink "java/lang/String" 15 "java/lang/String" "coder" "B"]
def tab : Cond := tabOf yN yB 1 (some .byte) site
def P (x : Addr) (cd z : Int32) (args : Array Value) (s : State) : Prop := args = #[.ref x] ∧ Has x "java/lang/String" "coder" "B" (.int cd) s ∧ (cd = 0 ∨ cd = 1) ∧ StaticIs s "java/lang/String" "COMPACT_STRINGS" "Z" (.int z) ∧ ¬ z = 0
def E (cd : Int32) (r : Option Value) (s u : State) : Prop := XT.PureE (some (.int cd)) r s u
theorem law (l : Launch) (x : Addr) (cd z : Int32) : Law l yN 1 0 0 0 yB 1 (some .byte) site (P x cd z) (E cd) [] 0 0 := by
  refine Law.of_walk (plainFor_of_name (by decide +kernel)) (by decide +kernel) (by decide +kernel) (by decide) (fun _ _ h => by rw [h.1]; rfl) (fun _ U U' hal hh h => ⟨h.1, h.2.1.mv hal hh, h.2.2.1, h.2.2.2.1.there hal hh, h.2.2.2.2⟩) (fun r U U' V V' h1 hal h2 h => XT.PureE.mv r U U' V V' h1 hal h2 h) ?_
  intro p e s m args below meth c s₁ X0 hexec hbytes hml hret hlk hnm hown hh0 W hP
  obtain ⟨rfl, hx, hc, s1, hz⟩ := hP
  have c1 : Steps p.tables e below (s₁.setTop (entryFrame m #[.ref x] 1)) (s₁.setTop (mkF m 0 #[.val (.ref x)] [])) := entry rfl
  obtain ⟨T2, X2, q2, st2⟩ := X0.sget hexec hown (wk W (.fieldLink "java/lang/String" 38 "java/lang/String" "COMPACT_STRINGS" "Z")) s1 (fun _ _ h => by rw [hh0]; exact h) (g := (mkF m 0 #[.val (.ref x)] [])) rfl (hb hbytes d0)
  have hh2 := q2.trans hh0
  have c3 : Steps p.tables e below (s₁.setTop (entryFrame m #[.ref x] 1)) (T2.setTop (mkF m 7 #[.val (.ref x)] [.ref x])) := (c1.trans (st2 _ (Steps.refl _))).trans (by
    refine XS.ifNo X2.here hexec rfl (hb hbytes d3) rfl (i0_eq_f hz) ?_
    refine XS.aloadN X2.here hexec rfl (hb hbytes d6) rfl rfl ?_
    exact Steps.refl _)
  obtain ⟨T4, X4, q4, st4⟩ := X2.hget hexec hown (wk W (.fieldLink "java/lang/String" 15 "java/lang/String" "coder" "B")) (hx.mv X2.warmed.alike hh2) (g := (mkF m 7 #[.val (.ref x)] [.ref x])) rfl (rest := []) rfl (hb hbytes d7)
  have c5 : Steps p.tables e below (s₁.setTop (entryFrame m #[.ref x] 1)) (T4.setTop (mkF m 14 #[.val (.ref x)] [.int cd])) := (c3.trans (st4 _ (Steps.refl _))).trans (by
    refine XS.goto X4.here hexec rfl (pc0 := 10) rfl (hb hbytes d10) (by decide) rfl ?_
    exact Steps.refl _)
  exact ⟨T4, some (.int cd), _, _, _, X4, rfl, rfl, rfl, (fun h => by cases h), ⟨rfl, q4.trans hh2⟩, fun fs hl => c5.trans (X4.ireturnOut hexec hret (by rcases hc with rfl | rfl <;> rfl) (Or.inr (Or.inr (Or.inl rfl))) (hb hbytes d14) hl)⟩
end Cdr
namespace Len
def yN : MethodName := ⟨"java/lang/String", "length", "()I"⟩
abbrev yB : ByteArray := jdk_42_method_54_code
theorem d0 : decode yB 0 = .ok (.aload_n 0, 1) := by decide +kernel
theorem d1 : decode yB 1 = .ok (.getfield 9, 3) := by decide +kernel
theorem d4 : decode yB 4 = .ok (.arraylength, 1) := by decide +kernel
theorem d5 : decode yB 5 = .ok (.aload_n 0, 1) := by decide +kernel
theorem d6 : decode yB 6 = .ok (.invokevirtual 335, 3) := by decide +kernel
theorem d9 : decode yB 9 = .ok (.ishr, 1) := by decide +kernel
theorem d10 : decode yB 10 = .ok (.ireturn, 1) := by decide +kernel
def site : List Cond := [.fieldLink "java/lang/String" 9 "java/lang/String" "value" "[B", Cdr.tab] ++ virtW "java/lang/String" 335 "java/lang/String" Cdr.yN Cdr.yN
def tab : Cond := tabOf yN yB 1 (some .int) site
def P (x t : Addr) (V : Cell) (cd : Int32) (n : Nat) (f : Nat → Int32) (z : Int32) (args : Array Value) (s : State) : Prop := args = #[.ref x] ∧ Txt x t V cd n f s ∧ StaticIs s "java/lang/String" "COMPACT_STRINGS" "Z" (.int z) ∧ ¬ z = 0
def E (n : Nat) (r : Option Value) (s u : State) : Prop := XT.PureE (some (.int (Int32.ofNat n))) r s u
/-- length() of a String of n chars, in either coding -/
theorem law (l : Launch) (x t : Addr) (V : Cell) (cd : Int32) (n : Nat) (f : Nat → Int32) (z : Int32) : Law l yN 1 0 1 13 yB 1 (some .int) site (P x t V cd n f z) (E n) [] 0 0 := by
  refine Law.of_walk (plainFor_of_name (by decide +kernel)) (by decide +kernel) (by decide +kernel) (by decide) (fun _ _ h => by rw [h.1]; rfl) (fun _ U U' hal hh h => ⟨h.1, h.2.1.mv hal hh, h.2.2.1.there hal hh, h.2.2.2⟩) (fun r U U' V V' h1 hal h2 h => XT.PureE.mv r U U' V V' h1 hal h2 h) ?_
  intro p e s m args below meth c s₁ X0 hexec hbytes hml hret hlk hnm hown hh0 W hP
  obtain ⟨rfl, hx, s1, hz⟩ := hP
  have v31 := hx.2.2.2.1.2.2.2
  have c1 : Steps p.tables e below (s₁.setTop (entryFrame m #[.ref x] 1)) (s₁.setTop (mkF m 1 #[.val (.ref x)] [.ref x])) := Steps.trans (entry rfl) (by
    show Steps p.tables e below (s₁.setTop (mkF m 0 #[.val (.ref x)] [])) _
    refine XS.aloadN X0.here hexec rfl (hb hbytes d0) rfl rfl ?_
    exact Steps.refl _)
  obtain ⟨T2, X2, q2, st2⟩ := X0.hget hexec hown (wk W (.fieldLink "java/lang/String" 9 "java/lang/String" "value" "[B")) (hx.mv X0.warmed.alike hh0).2.1 (g := (mkF m 1 #[.val (.ref x)] [.ref x])) rfl (rest := []) rfl (hb hbytes d1)
  have hh2 := q2.trans hh0
  have hx2 := hx.mv X2.warmed.alike hh2
  have c3 : Steps p.tables e below (s₁.setTop (entryFrame m #[.ref x] 1)) (T2.setTop (mkF m 6 #[.val (.ref x)] [.ref x, .int (Int32.ofNat V.slots.size)])) := (c1.trans (st2 _ (Steps.refl _))).trans (by
    refine X2.alen hexec hx2.2.2.2.1 rfl rfl (hb hbytes d4) ?_
    refine XS.aloadN X2.here hexec rfl (hb hbytes d5) rfl rfl ?_
    exact Steps.refl _)
  obtain ⟨v4, T4, X4, E4, g4⟩ := X2.callV hexec (Cdr.law l x cd z) hown (wks W (virtW "java/lang/String" 335 "java/lang/String" Cdr.yN Cdr.yN)) rfl (by decide) (wk W Cdr.tab) (W := 1) (Nat.le_of_ble_eq_true rfl) (Nat.le_of_ble_eq_true rfl) (Nat.le_refl _) (Nat.le_refl _) (hx2.1.fc X2.warmed.alike) hx2.1.is (g := (mkF m 6 #[.val (.ref x)] [.ref x, .int (Int32.ofNat V.slots.size)])) rfl (by rw [hml]; rfl) c3 (argsL := []) (rest := [.int (Int32.ofNat V.slots.size)]) rfl rfl (by show 2 * 0 + (1 + 0) ≤ _; decide) (hb hbytes d6) (⟨rfl, hx2.2.2.1, hx.2.2.2.2.1.cd, s1.there X2.warmed.alike hh2, hz⟩)
  obtain ⟨rfl, q4⟩ := E4
  have c5 : Steps p.tables e below (s₁.setTop (entryFrame m #[.ref x] 1)) (T4.setTop (mkF m 10 #[.val (.ref x)] [.int (Int32.ofNat V.slots.size >>> (cd &&& 31))])) := Steps.trans g4 (by
    refine ishr X4.here hexec rfl (hb hbytes d9) rfl ?_
    exact Steps.refl _)
  rw [hx.2.2.2.2.1.len v31] at c5
  exact ⟨T4, some (.int (Int32.ofNat n)), _, _, _, X4, rfl, rfl, rfl, (fun h => by cases h), ⟨rfl, q4.trans hh2⟩, fun fs hl => c5.trans (X4.ireturnOut hexec hret rfl (Or.inl rfl) (hb hbytes d10) hl)⟩
theorem pays {l : Launch} {R : Room} {p : Program} {e : Env} {below : List Frame} {s : State} {sargs : Array Value} {len W : Nat} (x t : Addr) (V : Cell) (cd : Int32) (n : Nat) (f : Nat → Int32) (z : Int32) (htab : tab.before sargs s = true) (hfr : 2 ≤ R.frames) (hlo : W + 25 ≤ R.locals) :
    Back l R p e below s sargs yN len W (fun A₁ a₁ => A₁.cells + 0 ≤ R.cells ∧ A₁.slots + 0 ≤ R.slots ∧ P x t V cd n f z a₁ A₁.U) (fun A₁ _ v₁ B₁ => E n v₁ A₁.U B₁.U ∧ B₁.locs = A₁.locs ++ [] ∧ B₁.cells = A₁.cells + 0 ∧ B₁.slots = A₁.slots + 0) :=
  (law l x t V cd n f z).pays htab hfr (by omega)
end Len
namespace IsL
def yN : MethodName := ⟨"java/lang/String", "isLatin1", "()Z"⟩
abbrev yB : ByteArray := jdk_42_method_154_code
theorem d0 : decode yB 0 = .ok (.getstatic 38, 3) := by decide +kernel
theorem d3 : decode yB 3 = .ok (.ifCond (.eq) 14, 3) := by decide +kernel
theorem d6 : decode yB 6 = .ok (.aload_n 0, 1) := by decide +kernel
theorem d7 : decode yB 7 = .ok (.getfield 15, 3) := by decide +kernel
theorem d10 : decode yB 10 = .ok (.ifCond (.ne) 7, 3) := by decide +kernel
theorem d13 : decode yB 13 = .ok (.iconst 1, 1) := by decide +kernel
theorem d14 : decode yB 14 = .ok (.goto 4, 3) := by decide +kernel
theorem d17 : decode yB 17 = .ok (.iconst 0, 1) := by decide +kernel
theorem d18 : decode yB 18 = .ok (.ireturn, 1) := by decide +kernel
def site : List Cond := [.fieldLink "java/lang/String" 38 "java/lang/String" "COMPACT_STRINGS" "Z", .fieldLink "java/lang/String" 15 "java/lang/String" "coder" "B"]
def tab : Cond := tabOf yN yB 1 (some .boolean) site
def P (x : Addr) (cd z : Int32) (args : Array Value) (s : State) : Prop := args = #[.ref x] ∧ Has x "java/lang/String" "coder" "B" (.int cd) s ∧ (cd = 0 ∨ cd = 1) ∧ StaticIs s "java/lang/String" "COMPACT_STRINGS" "Z" (.int z) ∧ ¬ z = 0
def E (cd : Int32) (r : Option Value) (s u : State) : Prop := XT.PureE (some (.int (1 - cd))) r s u
theorem law (l : Launch) (x : Addr) (cd z : Int32) : Law l yN 1 0 0 0 yB 1 (some .boolean) site (P x cd z) (E cd) [] 0 0 := by
  refine Law.of_walk (plainFor_of_name (by decide +kernel)) (by decide +kernel) (by decide +kernel) (by decide) (fun _ _ h => by rw [h.1]; rfl) (fun _ U U' hal hh h => ⟨h.1, h.2.1.mv hal hh, h.2.2.1, h.2.2.2.1.there hal hh, h.2.2.2.2⟩) (fun r U U' V V' h1 hal h2 h => XT.PureE.mv r U U' V V' h1 hal h2 h) ?_
  intro p e s m args below meth c s₁ X0 hexec hbytes hml hret hlk hnm hown hh0 W hP
  obtain ⟨rfl, hx, hc, s1, hz⟩ := hP
  have c1 : Steps p.tables e below (s₁.setTop (entryFrame m #[.ref x] 1)) (s₁.setTop (mkF m 0 #[.val (.ref x)] [])) := entry rfl
  obtain ⟨T2, X2, q2, st2⟩ := X0.sget hexec hown (wk W (.fieldLink "java/lang/String" 38 "java/lang/String" "COMPACT_STRINGS" "Z")) s1 (fun _ _ h => by rw [hh0]; exact h) (g := (mkF m 0 #[.val (.ref x)] [])) rfl (hb hbytes d0)
  have hh2 := q2.trans hh0
  have c3 : Steps p.tables e below (s₁.setTop (entryFrame m #[.ref x] 1)) (T2.setTop (mkF m 7 #[.val (.ref x)] [.ref x])) := (c1.trans (st2 _ (Steps.refl _))).trans (by
    refine XS.ifNo X2.here hexec rfl (hb hbytes d3) rfl (i0_eq_f hz) ?_
    refine XS.aloadN X2.here hexec rfl (hb hbytes d6) rfl rfl ?_
    exact Steps.refl _)
  obtain ⟨T4, X4, q4, st4⟩ := X2.hget hexec hown (wk W (.fieldLink "java/lang/String" 15 "java/lang/String" "coder" "B")) (hx.mv X2.warmed.alike hh2) (g := (mkF m 7 #[.val (.ref x)] [.ref x])) rfl (rest := []) rfl (hb hbytes d7)
  have c5 : Steps p.tables e below (s₁.setTop (entryFrame m #[.ref x] 1)) (T4.setTop (mkF m 10 #[.val (.ref x)] [.int cd])) := c3.trans (st4 _ (Steps.refl _))
  have c6 : Steps p.tables e below (s₁.setTop (entryFrame m #[.ref x] 1)) (T4.setTop (mkF m 18 #[.val (.ref x)] [.int (1 - cd)])) := by
    rcases hc with rfl | rfl
    · exact c5.trans (by
        refine XS.ifNo X4.here hexec rfl (hb hbytes d10) rfl (i0_ne_f rfl) ?_
        refine iconstV X4.here hexec rfl 1 (hb hbytes d13) (by decide) ?_
        refine XS.goto X4.here hexec rfl (pc0 := 14) rfl (hb hbytes d14) (by decide) rfl ?_
        exact Steps.refl _)
    · exact c5.trans (by
        refine XS.ifYes X4.here hexec rfl (pc0 := 10) rfl (hb hbytes d10) rfl (i0_ne_t (by decide)) (by decide) rfl ?_
        refine iconstV X4.here hexec rfl 0 (hb hbytes d17) (by decide) ?_
        exact Steps.refl _)
  exact ⟨T4, some (.int (1 - cd)), _, _, _, X4, rfl, rfl, rfl, (fun h => by cases h), ⟨rfl, q4.trans hh2⟩, fun fs hl => c6.trans (X4.ireturnOut hexec hret (by rcases hc with rfl | rfl <;> rfl) (Or.inr (Or.inl rfl)) (hb hbytes d18) hl)⟩
end IsL
namespace LChA
def yN : MethodName := ⟨"java/lang/StringLatin1", "charAt", "([BI)C"⟩
abbrev yB : ByteArray := jdk_43_method_2_code
theorem d0 : decode yB 0 = .ok (.iload_n 1, 1) := by decide +kernel
theorem d1 : decode yB 1 = .ok (.aload_n 0, 1) := by decide +kernel
theorem d2 : decode yB 2 = .ok (.arraylength, 1) := by decide +kernel
theorem d3 : decode yB 3 = .ok (.invokestatic 9, 3) := by decide +kernel
theorem d6 : decode yB 6 = .ok (.aload_n 0, 1) := by decide +kernel
theorem d7 : decode yB 7 = .ok (.iload_n 1, 1) := by decide +kernel
theorem d8 : decode yB 8 = .ok (.baload, 1) := by decide +kernel
theorem d9 : decode yB 9 = .ok (.sipush 255, 3) := by decide +kernel
theorem d12 : decode yB 12 = .ok (.iand, 1) := by decide +kernel
theorem d13 : decode yB 13 = .ok (.i2c, 1) := by decide +kernel
theorem d14 : decode yB 14 = .ok (.ireturn, 1) := by decide +kernel
def site : List Cond := [JO.Str_checkIndex.tab] ++ staticW "java/lang/StringLatin1" 9 JO.Str_checkIndex.yN
def tab : Cond := tabOf yN yB 2 (some .char) site
def P (t : Addr) (V : Cell) (i : Nat) (u : Int32) (fm : Value) (args : Array Value) (s : State) : Prop := args = #[.ref t, .int (Int32.ofNat i)] ∧ XT.Arr .byte t V s ∧ V.slots[i]? = some (.int u) ∧ (StaticIs s "jdk/internal/util/Preconditions" "SIOOBE_FORMATTER" "Ljava/util/function/BiFunction;" fm ∧ fm.isRef = true)
def E (u : Int32) (r : Option Value) (s w : State) : Prop := XT.PureE (some (.int (chr8 u))) r s w
theorem law (l : Launch) (t : Addr) (V : Cell) (i : Nat) (u : Int32) (fm : Value) : Law l yN 2 2 2 27 yB 2 (some .char) site (P t V i u fm) (E u) [] 0 0 := by
  refine Law.of_walk (plainFor_of_name (by decide +kernel)) (by decide +kernel) (by decide +kernel) (by decide) (fun _ _ h => by rw [h.1]; rfl) (fun _ U U' hal hh h => ⟨h.1, h.2.1.mv hal hh, h.2.2.1, h.2.2.2.1.there hal hh, h.2.2.2.2⟩) (fun r U U' V V' h1 hal h2 h => XT.PureE.mv r U U' V V' h1 hal h2 h) ?_
  intro p e s m args below meth c s₁ X0 hexec hbytes hml hret hlk hnm hown hh0 W hP
  obtain ⟨rfl, hV, hu, s1, rf⟩ := hP
  have v31 := hV.2.2.2
  have hi : i < V.slots.size := (Array.getElem?_eq_some_iff.mp hu).1
  have c1 : Steps p.tables e below (s₁.setTop (entryFrame m #[.ref t, .int (Int32.ofNat i)] 2)) (s₁.setTop (mkF m 0 #[.val (.ref t), .val (.int (Int32.ofNat i))] [])) := entry rfl
  have c2 : Steps p.tables e below (s₁.setTop (entryFrame m #[.ref t, .int (Int32.ofNat i)] 2)) (s₁.setTop (mkF m 3 #[.val (.ref t), .val (.int (Int32.ofNat i))] [.int (Int32.ofNat V.slots.size), .int (Int32.ofNat i)])) := c1.trans (by
    refine XS.iloadN X0.here hexec rfl (hb hbytes d0) rfl ?_
    refine XS.aloadN X0.here hexec rfl (hb hbytes d1) rfl rfl ?_
    refine X0.alen hexec (hV.mv X0.warmed.alike hh0) rfl rfl (hb hbytes d2) ?_
    exact Steps.refl _)
  obtain ⟨v3, T3, X3, E3, g3⟩ := X0.callS hexec (JO.Str_checkIndex.law l (Int32.ofNat i) (Int32.ofNat V.slots.size) fm) hown (wks W (staticW "java/lang/StringLatin1" 9 JO.Str_checkIndex.yN)) (wk W JO.Str_checkIndex.tab) (W := 0) (Nat.le_of_ble_eq_true rfl) (Nat.le_of_ble_eq_true rfl) (Nat.le_refl _) (Nat.le_refl _) (g := (mkF m 3 #[.val (.ref t), .val (.int (Int32.ofNat i))] [.int (Int32.ofNat V.slots.size), .int (Int32.ofNat i)])) rfl (by rw [hml]; rfl) c2 (argsL := [.int (Int32.ofNat i), .int (Int32.ofNat V.slots.size)]) (rest := []) rfl rfl (by show 2 * 0 + 0 ≤ _; decide) (hb hbytes d3) (⟨rfl, rf, s1.there X0.warmed.alike hh0, Int32.ofNat_not_neg (by omega), lt32 v31 hi⟩)
  obtain ⟨rfl, q3⟩ := E3
  have hh3 := q3.trans hh0
  have c4 : Steps p.tables e below (s₁.setTop (entryFrame m #[.ref t, .int (Int32.ofNat i)] 2)) (T3.setTop (mkF m 14 #[.val (.ref t), .val (.int (Int32.ofNat i))] [.int (chr8 u)])) := Steps.trans g3 (by
    refine XS.aloadN X3.here hexec rfl (hb hbytes d6) rfl rfl ?_
    refine XS.iloadN X3.here hexec rfl (hb hbytes d7) rfl ?_
    refine X3.aget hexec (hV.mv X3.warmed.alike hh3) rfl hu rfl rfl (hb hbytes d8) ?_
    refine sipushV X3.here hexec rfl 255 (hb hbytes d9) (by decide) ?_
    refine XS.iand X3.here hexec rfl (hb hbytes d12) rfl ?_
    refine i2c X3.here hexec rfl (hb hbytes d13) rfl ?_
    exact Steps.refl _)
  exact ⟨T3, some (.int (chr8 u)), _, _, _, X3, rfl, rfl, rfl, (fun h => by cases h), ⟨rfl, hh3⟩, fun fs hl => c4.trans (X3.ireturnOut hexec hret (narrow_c _) (Or.inr (Or.inr (Or.inr (Or.inl rfl)))) (hb hbytes d14) hl)⟩
end LChA
end StrChars
namespace StrChars.Road
open Jvm Sem ClassFile Op Lib Jvm.Stand Jvm.Free Jvm.Free.XT
open Jvm.Lib.Cold (StaticIs)
theorem consq {a : Array Value} {s : State} {c : Jvm.Cond} {L : List Jvm.Cond} (h0 : c.before a s = true) (h : ∀ w ∈ L, w.before a s = true) : ∀ w ∈ c :: L, w.before a s = true := fun w hw => (List.mem_cons.mp hw).elim (fun e => e ▸ h0) (h w)
/-- the words of String.length(), either coding -/
abbrev wordsLen : List Jvm.Cond := [.code Len.yN Len.yB 1 (some .int), .initialized ST, .fieldLink ST 9 ST "value" "[B", .fieldLink ST 38 ST "COMPACT_STRINGS" "Z", .fieldLink ST 15 ST "coder" "B", .code Cdr.yN Cdr.yB 1 (some .byte), .methodLink ST 335 Cdr.yN, .declares Cdr.yN, .selects ST Cdr.yN Cdr.yN, .instanceMethod Cdr.yN]
theorem tabLen_of {a : Array Value} {s : State} (h : ∀ w ∈ wordsLen, w.before a s = true) : Len.tab.before a s = true := by
  have hc : Cdr.tab.before a s = true := unparts (wk h (.code Cdr.yN Cdr.yB 1 (some .byte))) (wks h (.initialized Cdr.yN.cls :: Cdr.site))
  have q := consq hc h
  exact unparts (wk q (.code Len.yN Len.yB 1 (some .int))) (wks q (.initialized Len.yN.cls :: Len.site))
theorem movedLen {Z s : State} {a0 args : Array Value} (hZ : Z.Warmed39 s.vm) (hw : ∀ d ∈ wordsLen, d.before a0 Z = true) : ∀ d ∈ wordsLen, d.before args s = true := fun d hd => by
  have q := hw d hd
  have t : ∀ d ∈ wordsLen, d = .arrayClass .byte ∨ (d.onTables && d.keepsFace) = true := by decide +kernel
  rcases t d hd with rfl | t
  · exact RoadKit.mvA hZ q
  · exact RoadKit.mv hZ q t
/-- the bytes of the chars cs, low before high -/
def wideBytes : List Int32 → List Value
  | [] => []
  | c :: cs => .int (lo8 c) :: .int (hi8 c) :: wideBytes cs
theorem wide_lo (d : Value) : ∀ (cs : List Int32) (j : Nat), j < cs.length → (wideBytes cs).getD (2 * j) d = .int (lo8 (cs.getD j 0))
  | [], j, h => absurd h (Nat.not_lt_zero j)
  | c :: cs, 0, _ => rfl
  | c :: cs, j + 1, h => by
    have q := wide_lo d cs j (by simpa using h)
    rw [show 2 * (j + 1) = 2 * j + 1 + 1 from by omega]
    simpa [wideBytes] using q
theorem wide_hi (d : Value) : ∀ (cs : List Int32) (j : Nat), j < cs.length → (wideBytes cs).getD (2 * j + 1) d = .int (hi8 (cs.getD j 0))
  | [], j, h => absurd h (Nat.not_lt_zero j)
  | c :: cs, 0, _ => rfl
  | c :: cs, j + 1, h => by
    have q := wide_hi d cs j (by simpa using h)
    rw [show 2 * (j + 1) + 1 = 2 * j + 1 + 1 + 1 from by omega]
    simpa [wideBytes] using q
theorem low_at (d : Value) (cs : List Int32) (j : Nat) (h : j < cs.length) : (cs.map fun c => Value.int (lo8 c)).getD j d = .int (lo8 (cs.getD j 0)) := by
  simp [List.getD_eq_getElem?_getD, h]
/-- an array of N2 bytes vs codes the chars cs by the coder cd -/
def CodA (cs : List Int32) (cd N2 : Int32) (vs : List Value) : Prop := (cd = 0 ∧ N2 = Int32.ofNat cs.length ∧ vs = (cs.map fun c => Value.int (lo8 c)) ∧ ∀ c ∈ cs, ¬ 255 < c) ∨ (cd = 1 ∧ N2 = Int32.ofNat (2 * cs.length) ∧ vs = wideBytes cs ∧ ∃ c ∈ cs, 255 < c)
theorem CodA.cod {cs : List Int32} {cd N2 : Int32} {vs : List Value} {V : Cell} (h : CodA cs cd N2 vs) (hn : 2 * cs.length < 2 ^ 31) (hs : V.slots.size = N2.toNatClampNeg) (hv : RoadKit.Has V vs (.int 0)) : Cod cd cs.length (fun j => cs.getD j 0) V := by
  rcases h with ⟨rfl, rfl, rfl, h⟩ | ⟨rfl, rfl, rfl, c, hc, hw⟩
  · rw [n32 (by omega)] at hs
    exact Or.inl ⟨rfl, hs, fun j hj => ⟨by rw [hv j (by omega), low_at _ _ _ hj], by
      have e : cs.getD j 0 = cs[j] := by simp [List.getD_eq_getElem?_getD, hj]
      show ¬ 255 < cs.getD j 0
      rw [e]; exact h _ (List.getElem_mem _)⟩⟩
  · rw [n32 (by omega)] at hs
    obtain ⟨j, hj, rfl⟩ := List.getElem_of_mem hc
    exact Or.inr ⟨rfl, hs, fun j hj => ⟨by rw [hv _ (by omega), wide_lo _ _ _ hj], by rw [hv _ (by omega), wide_hi _ _ _ hj]⟩, j, hj, by
      have e : cs.getD j 0 = cs[j] := by simp [List.getD_eq_getElem?_getD, hj]
      show 255 < cs.getD j 0
      rw [e]; exact hw⟩
/-- an object of exactly java/lang/String, its two fields found: as the laws ask it -/
theorem strObj {Z U : State} {a0 : Array Value} {kI : Nat} (wi : (Jvm.Cond.instantiable ST kI).before a0 Z = true) (al : Z.vm.Alike U.vm) {x : Addr} {v0 c0 : Value} (E : RoadKit.Exa Z U.heap x ST) (V : RoadKit.Fld Z U.heap x ST "value" "[B" v0) (C : RoadKit.Fld Z U.heap x ST "coder" "B" c0) :
    ∃ (D : Cell) (fV fC : Field), Blank ST x D U ∧ Found ST "value" "[B" fV U ∧ Found ST "coder" "B" fC U ∧ D.slots[fV.slot]? = some v0 ∧ D.slots[fC.slot]? = some c0 ∧ RoadKit.slotOf Z ST "value" "[B" = fV.slot ∧ RoadKit.slotOf Z ST "coder" "B" = fC.slot := by
  obtain ⟨D, cfV, kV, iV, fV, hD, gV, stV, knV, obV, asV, slV⟩ := V
  obtain ⟨D', cfC, kC, iC, fC, hD', gC, stC, -, -, asC, slC⟩ := C
  cases hD.symm.trans hD'
  obtain ⟨D2, kD, e1, e2, e3, e4, e5⟩ := E
  cases hD.symm.trans e1
  obtain ⟨c2, k2, i1, i2, i3, -⟩ := Cond.instantiable_spec wi
  cases e2.symm.trans i1
  cases e3.symm.trans i2
  obtain ⟨kU, u1, u2⟩ := al.2.2 _ _ e3
  exact ⟨D, fV, fC, ⟨hD, ⟨knV, fun q hq => by rw [hq] at obV; cases obV⟩, by rw [al.findClass]; exact e2, kU, u1, by rw [u2]; exact i3, by rw [u2]; exact e5 i3⟩, ⟨SBG.found_only al ⟨cfV, kV, iV, gV⟩, stV⟩, ⟨SBG.found_only al ⟨cfC, kC, iC, gC⟩, stC⟩, slV, slC, by simp [RoadKit.slotOf, gV], by simp [RoadKit.slotOf, gC]⟩
theorem sta_is {Z U : State} (al : Z.vm.Alike U.vm) {C n d : String} {v : Value} (S : RoadKit.Sta Z U.heap C n d v) : StaticIs U C n d v := by
  obtain ⟨cfS, iS, kS, fS, st, cS, t1, t2, t3, t4, t5, t6, t7⟩ := S
  exact StaticIs.there (s := { Z with heap := U.heap }) ⟨cfS, iS, kS, fS, st, cS, t1, t2, t3, t4, t5, (fun q => by rw [q] at t6; cases t6), t7⟩ al rfl
/-- **length() OF SUCH A STRING** -/
theorem lenW {p : Program} {l : Launch} {e : Env} {R : Room} {s : State} {args : Array Value} {below : List Frame} {len W : Nat} {Z : State} {a0 : Array Value} {h : Heap} (hZ : Z.Warmed39 s.vm) (hw : ∀ d ∈ wordsLen, d.before a0 Z = true) {kI : Nat} (wi : (Jvm.Cond.instantiable ST kI).before a0 Z = true)
    {x t : Addr} {kb : ClassId} {cs : List Int32} {cd N2 z : Int32} {vs : List Value} (E : RoadKit.Exa Z h x ST) (V : RoadKit.Fld Z h x ST "value" "[B" (.ref t)) (C : RoadKit.Fld Z h x ST "coder" "B" (.int cd)) (K : RoadKit.Arv Z h t kb .byte N2 vs (.int 0)) (hc : CodA cs cd N2 vs) (hb : ∀ c ∈ cs, ¬ c < 0 ∧ ¬ (65535 : Int32) < c)
    (S : RoadKit.Sta Z h ST "COMPACT_STRINGS" "Z" (.int z)) (hz : ¬ z = 0) (l2 : cs.length ≤ 4000) (hfr : 2 ≤ R.frames) (hlo : W + 25 ≤ R.locals) :
    Back l R p e below s args (⟨"java/lang/String", "length", "()I"⟩ : MethodName) len W (fun P a => a = #[.ref x] ∧ P.U.heap = h ∧ P.cells + 0 ≤ R.cells ∧ P.slots + 0 ≤ R.slots)
      (fun P _ v B => ∃ L, (v = some (.int (Int32.ofNat cs.length)) ∧ L = [] ∧ B.U.heap = h) ∧ B.locs = P.locs ++ L ∧ B.cells = P.cells + 0 ∧ B.slots = P.slots + 0) := by
  obtain ⟨A, K1, K2, K3, K4, K5, K6⟩ := K
  have hcod := hc.cod (by omega) K3 K5
  intro m meth c P g ig mk a X hg hsize hdg hW hn hp'
  obtain ⟨rfl, rfl, r1, r2⟩ := hp'
  have al : Z.vm.Alike P.U.vm := hZ.alike.trans X.warmed.alike
  obtain ⟨D, fV, fC, hB, F1, F2, g1, g2, -, -⟩ := strObj wi al E V C
  have hx : Txt x t A cd cs.length (fun j => cs.getD j 0) P.U := ⟨⟨_, hB.2.2.1, D, hB.1, rfl, by cases q : D.vm <;> first | rfl | exact absurd q (hB.2.1.2 _)⟩, Has.of hB F1 g1, Has.of hB F2 g2, ⟨K1.1, State.isArrayOf_alike al K1.2.1, K1.2.2, by rcases hcod with ⟨-, q, -⟩ | ⟨-, q, -⟩ <;> omega⟩, hcod, fun j hj => by
    have e : cs.getD j 0 = cs[j] := by simp [List.getD_eq_getElem?_getD, hj]
    show ¬ cs.getD j 0 < 0 ∧ ¬ 65535 < cs.getD j 0
    rw [e]; exact hb _ (List.getElem_mem _)⟩
  obtain ⟨v, B, X', ⟨⟨hv, hh⟩, hl, hk, hs⟩, st⟩ := Len.pays x t A cd cs.length (fun j => cs.getD j 0) z (tabLen_of (movedLen hZ hw)) hfr hlo m meth c P g ig mk _ X hg hsize hdg hW hn ⟨r1, r2, rfl, hx, sta_is al S, hz⟩
  exact ⟨v, B, X', ⟨[], ⟨hv, rfl, hh⟩, hl, hk, hs⟩, st⟩
end StrChars.Road
namespace StrChars
open Jvm Sem ClassFile Op Lib Jvm.Stand Jvm.Free.XT Jvm.Free.ALB Jvm.Free.JM Jvm.Free
open Jvm.Lib.Cold (StaticIs)
namespace Emp
def yN : MethodName := ⟨"java/lang/String", "isEmpty", "()Z"⟩
abbrev yB : ByteArray := jdk_42_method_55_code
theorem d0 : decode yB 0 = .ok (.aload_n 0, 1) := by decide +kernel
theorem d1 : decode yB 1 = .ok (.getfield 9, 3) := by decide +kernel
theorem d4 : decode yB 4 = .ok (.arraylength, 1) := by decide +kernel
theorem d5 : decode yB 5 = .ok (.ifCond (.ne) 7, 3) := by decide +kernel
theorem d8 : decode yB 8 = .ok (.iconst 1, 1) := by decide +kernel
theorem d9 : decode yB 9 = .ok (.goto 4, 3) := by decide +kernel
theorem d12 : decode yB 12 = .ok (.iconst 0, 1) := by decide +kernel
theorem d13 : decode yB 13 = .ok (.ireturn, 1) := by decide +kernel
def site : List Cond := [.fieldLink "java/lang/String" 9 "java/lang/String" "value" "[B"]
def tab : Cond := tabOf yN yB 1 (some .boolean) site
def P (x t : Addr) (V : Cell) (cd : Int32) (n : Nat) (f : Nat → Int32) (args : Array Value) (s : State) : Prop := args = #[.ref x] ∧ Txt x t V cd n f s
def E (n : Nat) (r : Option Value) (s u : State) : Prop := XT.PureE (some (.int (if n = 0 then 1 else 0))) r s u
/-- isEmpty() of a String of n chars -/
theorem law (l : Launch) (x t : Addr) (V : Cell) (cd : Int32) (n : Nat) (f : Nat → Int32) : Law l yN 1 0 0 0 yB 1 (some .boolean) site (P x t V cd n f) (E n) [] 0 0 := by
  refine Law.of_walk (plainFor_of_name (by decide +kernel)) (by decide +kernel) (by decide +kernel) (by decide) (fun _ _ h => by rw [h.1]; rfl) (fun _ U U' hal hh h => ⟨h.1, h.2.mv hal hh⟩) (fun r U U' V V' h1 hal h2 h => XT.PureE.mv r U U' V V' h1 hal h2 h) ?_
  intro p e s m args below meth c s₁ X0 hexec hbytes hml hret hlk hnm hown hh0 W hP
  obtain ⟨rfl, hx⟩ := hP
  have v31 := hx.2.2.2.1.2.2.2
  have c1 : Steps p.tables e below (s₁.setTop (entryFrame m #[.ref x] 1)) (s₁.setTop (mkF m 1 #[.val (.ref x)] [.ref x])) := Steps.trans (entry rfl) (by
    show Steps p.tables e below (s₁.setTop (mkF m 0 #[.val (.ref x)] [])) _
    refine XS.aloadN X0.here hexec rfl (hb hbytes d0) rfl rfl ?_
    exact Steps.refl _)
  obtain ⟨T2, X2, q2, st2⟩ := X0.hget hexec hown (wk W (.fieldLink "java/lang/String" 9 "java/lang/String" "value" "[B")) (hx.mv X0.warmed.alike hh0).2.1 (g := (mkF m 1 #[.val (.ref x)] [.ref x])) rfl (rest := []) rfl (hb hbytes d1)
  have hh2 := q2.trans hh0
  have hx2 := hx.mv X2.warmed.alike hh2
  have c3 : Steps p.tables e below (s₁.setTop (entryFrame m #[.ref x] 1)) (T2.setTop (mkF m 5 #[.val (.ref x)] [.int (Int32.ofNat V.slots.size)])) := (c1.trans (st2 _ (Steps.refl _))).trans (by
    refine X2.alen hexec hx2.2.2.2.1 rfl rfl (hb hbytes d4) ?_
    exact Steps.refl _)
  have hz : V.slots.size = 0 ↔ n = 0 := by
    rcases hx.2.2.2.2.1 with ⟨-, q, -⟩ | ⟨-, q, -⟩ <;> omega
  by_cases h0 : n = 0
  · have c4 : Steps p.tables e below (s₁.setTop (entryFrame m #[.ref x] 1)) (T2.setTop (mkF m 13 #[.val (.ref x)] [.int 1])) := c3.trans (by
      refine XS.ifNo X2.here hexec rfl (hb hbytes d5) rfl (i0_ne_f (by rw [hz.mpr h0]; rfl)) ?_
      refine iconstV X2.here hexec rfl 1 (hb hbytes d8) (by decide) ?_
      refine XS.goto X2.here hexec rfl (pc0 := 9) rfl (hb hbytes d9) (by decide) rfl ?_
      exact Steps.refl _)
    exact ⟨T2, some (.int 1), _, _, _, X2, rfl, rfl, rfl, (fun h => by cases h), ⟨by rw [if_pos h0], hh2⟩, fun fs hl => c4.trans (X2.ireturnOut hexec hret rfl (Or.inr (Or.inl rfl)) (hb hbytes d13) hl)⟩
  · have c4 : Steps p.tables e below (s₁.setTop (entryFrame m #[.ref x] 1)) (T2.setTop (mkF m 13 #[.val (.ref x)] [.int 0])) := c3.trans (by
      refine XS.ifYes X2.here hexec rfl (pc0 := 5) rfl (hb hbytes d5) rfl (i0_ne_t (nz32 v31 (by omega))) (by decide) rfl ?_
      refine iconstV X2.here hexec rfl 0 (hb hbytes d12) (by decide) ?_
      exact Steps.refl _)
    exact ⟨T2, some (.int 0), _, _, _, X2, rfl, rfl, rfl, (fun h => by cases h), ⟨by rw [if_neg h0], hh2⟩, fun fs hl => c4.trans (X2.ireturnOut hexec hret rfl (Or.inr (Or.inl rfl)) (hb hbytes d13) hl)⟩
theorem pays {l : Launch} {R : Room} {p : Program} {e : Env} {below : List Frame} {s : State} {sargs : Array Value} {len W : Nat} (x t : Addr) (V : Cell) (cd : Int32) (n : Nat) (f : Nat → Int32) (htab : tab.before sargs s = true) (hfr : 1 ≤ R.frames) (hlo : W + 12 ≤ R.locals) :
    Back l R p e below s sargs yN len W (fun A₁ a₁ => A₁.cells + 0 ≤ R.cells ∧ A₁.slots + 0 ≤ R.slots ∧ P x t V cd n f a₁ A₁.U) (fun A₁ _ v₁ B₁ => E n v₁ A₁.U B₁.U ∧ B₁.locs = A₁.locs ++ [] ∧ B₁.cells = A₁.cells + 0 ∧ B₁.slots = A₁.slots + 0) :=
  (law l x t V cd n f).pays htab hfr (by omega)
end Emp
/-- what place i of a byte[]'s cell holds -/
def yv (A : Cell) (i : Nat) : Int32 := match A.slots[i]? with | some (.int x) => x | _ => 0
theorem yv_get {a : Addr} {A : Cell} {U : State} (h : XT.Arr .byte a A U) (ht : Typed .byte A) {i : Nat} (hi : i < A.slots.size) : A.slots[i]? = some (.int (yv A i)) := by
  have e := Array.getElem?_eq_getElem hi
  have f := ht i _ e
  unfold yv; rw [e]
  generalize A.slots[i] = v at f
  cases v <;> simp [fits] at f ⊢
/-- the two arrays are equal, place for place -/
def EqC (A B : Cell) : Prop := A.slots.size = B.slots.size ∧ ∀ i, i < A.slots.size → yv A i = yv B i
/-- a boolean that says whether p -/
def Says01 (q : Prop) (r : Option Value) (s u : State) : Prop := ∃ v : Int32, r = some (.int v) ∧ u.heap = s.heap ∧ ((v = 1 ∧ q) ∨ (v = 0 ∧ ¬ q))
theorem Says01.mv {q : Prop} : ∀ r (U U' V V' : State), U'.heap = U.heap → V.vm.Alike V'.vm → V'.heap = V.heap → Says01 q r U V → Says01 q r U' V' :=
  fun r U U' V V' h1 _ h2 ⟨v, a, b, c⟩ => ⟨v, a, by rw [h1, h2]; exact b, c⟩
namespace LEq
def yN : MethodName := ⟨"java/lang/StringLatin1", "equals", "([B[B)Z"⟩
abbrev yB : ByteArray := jdk_43_method_13_code
theorem d0 : decode yB 0 = .ok (.aload_n 0, 1) := by decide +kernel
theorem d1 : decode yB 1 = .ok (.arraylength, 1) := by decide +kernel
theorem d2 : decode yB 2 = .ok (.aload_n 1, 1) := by decide +kernel
theorem d3 : decode yB 3 = .ok (.arraylength, 1) := by decide +kernel
theorem d4 : decode yB 4 = .ok (.if_icmp (.ne) 30, 3) := by decide +kernel
theorem d7 : decode yB 7 = .ok (.iconst 0, 1) := by decide +kernel
theorem d8 : decode yB 8 = .ok (.istore_n 2, 1) := by decide +kernel
theorem d9 : decode yB 9 = .ok (.iload_n 2, 1) := by decide +kernel
theorem d10 : decode yB 10 = .ok (.aload_n 0, 1) := by decide +kernel
theorem d11 : decode yB 11 = .ok (.arraylength, 1) := by decide +kernel
theorem d12 : decode yB 12 = .ok (.if_icmp (.ge) 20, 3) := by decide +kernel
theorem d15 : decode yB 15 = .ok (.aload_n 0, 1) := by decide +kernel
theorem d16 : decode yB 16 = .ok (.iload_n 2, 1) := by decide +kernel
theorem d17 : decode yB 17 = .ok (.baload, 1) := by decide +kernel
theorem d18 : decode yB 18 = .ok (.aload_n 1, 1) := by decide +kernel
theorem d19 : decode yB 19 = .ok (.iload_n 2, 1) := by decide +kernel
theorem d20 : decode yB 20 = .ok (.baload, 1) := by decide +kernel
theorem d21 : decode yB 21 = .ok (.if_icmp (.eq) 5, 3) := by decide +kernel
theorem d24 : decode yB 24 = .ok (.iconst 0, 1) := by decide +kernel
theorem d25 : decode yB 25 = .ok (.ireturn, 1) := by decide +kernel
theorem d26 : decode yB 26 = .ok (.iinc 2 1, 3) := by decide +kernel
theorem d29 : decode yB 29 = .ok (.goto (-20), 3) := by decide +kernel
theorem d32 : decode yB 32 = .ok (.iconst 1, 1) := by decide +kernel
theorem d33 : decode yB 33 = .ok (.ireturn, 1) := by decide +kernel
theorem d34 : decode yB 34 = .ok (.iconst 0, 1) := by decide +kernel
theorem d35 : decode yB 35 = .ok (.ireturn, 1) := by decide +kernel
def site : List Cond := []
def tab : Cond := tabOf yN yB 3 (some .boolean) site
def P (a : Addr) (A : Cell) (b : Addr) (B : Cell) (args : Array Value) (s : State) : Prop := args = #[.ref a, .ref b] ∧ XT.Arr .byte a A s ∧ Typed .byte A ∧ XT.Arr .byte b B s ∧ Typed .byte B
/-- whether two byte[] are equal, place for place -/
theorem law (l : Launch) (a : Addr) (A : Cell) (b : Addr) (B : Cell) : Law l yN 2 2 0 0 yB 3 (some .boolean) site (P a A b B) (Says01 (EqC A B)) [] 0 0 := by
  refine Law.of_walk (plainFor_of_name (by decide +kernel)) (by decide +kernel) (by decide +kernel) (by decide) (fun _ _ h => by rw [h.1]; rfl) (fun _ U U' hal hh h => ⟨h.1, h.2.1.mv hal hh, h.2.2.1, h.2.2.2.1.mv hal hh, h.2.2.2.2⟩) (fun r U U' V V' h1 hal h2 h => Says01.mv r U U' V V' h1 hal h2 h) ?_
  intro p e s m args below meth c s₁ X0 hexec hbytes hml hret hlk hnm hown hh0 W hP
  obtain ⟨rfl, hA, tA, hB, tB⟩ := hP
  have a31 := hA.2.2.2
  have b31 := hB.2.2.2
  have hA0 := hA.mv X0.warmed.alike hh0
  have hB0 := hB.mv X0.warmed.alike hh0
  have c1 : Steps p.tables e below (s₁.setTop (entryFrame m #[.ref a, .ref b] 3)) (s₁.setTop (mkF m 0 #[.val (.ref a), .val (.ref b), .unset] [])) := entry rfl
  have c2 : Steps p.tables e below (s₁.setTop (entryFrame m #[.ref a, .ref b] 3)) (s₁.setTop (mkF m 4 #[.val (.ref a), .val (.ref b), .unset] [.int (Int32.ofNat B.slots.size), .int (Int32.ofNat A.slots.size)])) := c1.trans (by
    refine XS.aloadN X0.here hexec rfl (hb hbytes d0) rfl rfl ?_
    refine X0.alen hexec hA0 rfl rfl (hb hbytes d1) ?_
    refine XS.aloadN X0.here hexec rfl (hb hbytes d2) rfl rfl ?_
    refine X0.alen hexec hB0 rfl rfl (hb hbytes d3) ?_
    exact Steps.refl _)
  by_cases hs : A.slots.size = B.slots.size
  · have c3 : Steps p.tables e below (s₁.setTop (entryFrame m #[.ref a, .ref b] 3)) (s₁.setTop (mkF m 9 #[.val (.ref a), .val (.ref b), .val (.int 0)] [])) := c2.trans (by
      refine XS.icmpNo X0.here hexec rfl (hb hbytes d4) rfl (ii_ne_f (by rw [hs])) ?_
      refine iconstV X0.here hexec rfl 0 (hb hbytes d7) (by decide) ?_
      refine XS.istoreN X0.here hexec rfl (hb hbytes d8) rfl rfl ?_
      exact Steps.refl _)
    have loop : ∀ (r i : Nat), i + r = A.slots.size → (∀ j, j < i → yv A j = yv B j) → Steps p.tables e below (s₁.setTop (entryFrame m #[.ref a, .ref b] 3)) (s₁.setTop (mkF m 9 #[.val (.ref a), .val (.ref b), .val (.int (Int32.ofNat i))] [])) → ∃ (pc : Nat) (Ls : Array Slot) (v : Int32), (pc = 25 ∨ pc = 33) ∧ ((v = 1 ∧ EqC A B) ∨ (v = 0 ∧ ¬ EqC A B)) ∧ Steps p.tables e below (s₁.setTop (entryFrame m #[.ref a, .ref b] 3)) (s₁.setTop (mkF m pc Ls [.int v])) := by
      intro r
      induction r with
      | zero =>
        intro i hi he cl
        exact ⟨33, _, 1, Or.inr rfl, Or.inl ⟨rfl, hs, fun j hj => he j (by omega)⟩, cl.trans (by
          refine XS.iloadN X0.here hexec rfl (hb hbytes d9) rfl ?_
          refine XS.aloadN X0.here hexec rfl (hb hbytes d10) rfl rfl ?_
          refine X0.alen hexec hA0 rfl rfl (hb hbytes d11) ?_
          refine XS.icmpYes X0.here hexec rfl (pc0 := 12) rfl (hb hbytes d12) rfl (ii_ge_t (nlt32 (by omega) (by omega))) (by decide) rfl ?_
          refine iconstV X0.here hexec rfl 1 (hb hbytes d32) (by decide) ?_
          exact Steps.refl _)⟩
      | succ r ih =>
        intro i hi he cl
        have c4 : Steps p.tables e below (s₁.setTop (entryFrame m #[.ref a, .ref b] 3)) (s₁.setTop (mkF m 21 #[.val (.ref a), .val (.ref b), .val (.int (Int32.ofNat i))] [.int (yv B i), .int (yv A i)])) := cl.trans (by
          refine XS.iloadN X0.here hexec rfl (hb hbytes d9) rfl ?_
          refine XS.aloadN X0.here hexec rfl (hb hbytes d10) rfl rfl ?_
          refine X0.alen hexec hA0 rfl rfl (hb hbytes d11) ?_
          refine XS.icmpNo X0.here hexec rfl (hb hbytes d12) rfl (ii_ge_f (lt32 (by omega) (by omega))) ?_
          refine XS.aloadN X0.here hexec rfl (hb hbytes d15) rfl rfl ?_
          refine XS.iloadN X0.here hexec rfl (hb hbytes d16) rfl ?_
          refine X0.aget hexec hA0 rfl (yv_get hA tA (i := i) (by omega)) rfl rfl (hb hbytes d17) ?_
          refine XS.aloadN X0.here hexec rfl (hb hbytes d18) rfl rfl ?_
          refine XS.iloadN X0.here hexec rfl (hb hbytes d19) rfl ?_
          refine X0.aget hexec hB0 rfl (yv_get hB tB (i := i) (by omega)) rfl rfl (hb hbytes d20) ?_
          exact Steps.refl _)
        by_cases hv : yv A i = yv B i
        · have c5 : Steps p.tables e below (s₁.setTop (entryFrame m #[.ref a, .ref b] 3)) (s₁.setTop (mkF m 9 #[.val (.ref a), .val (.ref b), .val (.int (Int32.ofNat i + 1))] [])) := c4.trans (by
            refine XS.icmpYes X0.here hexec rfl (pc0 := 21) rfl (hb hbytes d21) rfl (ii_eq_t hv) (by decide) rfl ?_
            refine iincV X0.here hexec rfl 1 (hb hbytes d26) (by decide) rfl rfl ?_
            refine XS.goto X0.here hexec rfl (pc0 := 29) rfl (hb hbytes d29) (by decide) rfl ?_
            exact Steps.refl _)
          rw [succ32] at c5
          exact ih (i + 1) (by omega) (fun j hj => by
            by_cases e : j = i
            · rw [e]; exact hv
            · exact he j (by omega)) c5
        · exact ⟨25, _, 0, Or.inl rfl, Or.inr ⟨rfl, fun q => hv (q.2 i (by omega))⟩, c4.trans (by
            refine XS.icmpNo X0.here hexec rfl (hb hbytes d21) rfl (ii_eq_f hv) ?_
            refine iconstV X0.here hexec rfl 0 (hb hbytes d24) (by decide) ?_
            exact Steps.refl _)⟩
    obtain ⟨pc, Ls, v, hpc, hv, cz⟩ := loop A.slots.size 0 (by omega) (fun j hj => absurd hj (Nat.not_lt_zero j)) c3
    have nv : narrow .boolean (.int v) = .int v := by rcases hv with ⟨rfl, -⟩ | ⟨rfl, -⟩ <;> rfl
    rcases hpc with rfl | rfl
    · exact ⟨s₁, some (.int v), _, _, _, X0, rfl, rfl, rfl, (fun h => by cases h), ⟨v, rfl, hh0, hv⟩, fun fs hl => cz.trans (X0.ireturnOut hexec hret nv (Or.inr (Or.inl rfl)) (hb hbytes d25) hl)⟩
    · exact ⟨s₁, some (.int v), _, _, _, X0, rfl, rfl, rfl, (fun h => by cases h), ⟨v, rfl, hh0, hv⟩, fun fs hl => cz.trans (X0.ireturnOut hexec hret nv (Or.inr (Or.inl rfl)) (hb hbytes d33) hl)⟩
  · have c3 : Steps p.tables e below (s₁.setTop (entryFrame m #[.ref a, .ref b] 3)) (s₁.setTop (mkF m 35 #[.val (.ref a), .val (.ref b), .unset] [.int 0])) := c2.trans (by
      refine XS.icmpYes X0.here hexec rfl (pc0 := 4) rfl (hb hbytes d4) rfl (ii_ne_t (ne32 a31 b31 hs)) (by decide) rfl ?_
      refine iconstV X0.here hexec rfl 0 (hb hbytes d34) (by decide) ?_
      exact Steps.refl _)
    exact ⟨s₁, some (.int 0), _, _, _, X0, rfl, rfl, rfl, (fun h => by cases h), ⟨0, rfl, hh0, Or.inr ⟨rfl, fun q => hs q.1⟩⟩, fun fs hl => c3.trans (X0.ireturnOut hexec hret rfl (Or.inr (Or.inl rfl)) (hb hbytes d35) hl)⟩
end LEq
theorem Cod.ty {cd : Int32} {n : Nat} {f : Nat → Int32} {V : Cell} (h : Cod cd n f V) : Typed .byte V := fun i v hv => by
  have hi : i < V.slots.size := (Array.getElem?_eq_some_iff.mp hv).1
  rcases h with ⟨-, k1, k2⟩ | ⟨-, k1, k2, -⟩
  · rw [(k2 i (by omega)).1] at hv; cases hv; exact fits_lo8 _
  · rcases Nat.mod_two_eq_zero_or_one i with e | e
    · obtain ⟨j, rfl⟩ : ∃ j, i = 2 * j := ⟨i / 2, by omega⟩
      rw [(k2 j (by omega)).1] at hv; cases hv; exact fits_lo8 _
    · obtain ⟨j, rfl⟩ : ∃ j, i = 2 * j + 1 := ⟨i / 2, by omega⟩
      rw [(k2 j (by omega)).2] at hv; cases hv; exact fits_lo8 _
/-- the same text -/
def SameT (n : Nat) (f : Nat → Int32) (k : Nat) (g : Nat → Int32) : Prop := n = k ∧ ∀ j, j < n → f j = g j
theorem lo8_inj {x y : Int32} (h0 : ¬ x < 0) (h1 : ¬ 255 < x) (k0 : ¬ y < 0) (k1 : ¬ 255 < y) (h : lo8 x = lo8 y) : x = y := by
  rw [← lo8_mask h0 h1, ← lo8_mask k0 k1, h]
/-- arrays coded by one coder are equal just where the texts are -/
theorem Cod.eqv {cd : Int32} {n k : Nat} {f g : Nat → Int32} {V V' : Cell} (h : Cod cd n f V) (h' : Cod cd k g V') (hf : ∀ j, j < n → ¬ f j < 0 ∧ ¬ 65535 < f j) (hg : ∀ j, j < k → ¬ g j < 0 ∧ ¬ 65535 < g j) : EqC V V' ↔ SameT n f k g := by
  have yvv : ∀ {W : Cell} {i : Nat} {x : Int32}, W.slots[i]? = some (.int x) → yv W i = x := fun q => by unfold yv; rw [q]
  rcases h with ⟨rfl, k1, k2⟩ | ⟨rfl, k1, k2, -⟩
  · rcases h' with ⟨-, m1, m2⟩ | ⟨e, -⟩
    · constructor
      · rintro ⟨e1, e2⟩
        refine ⟨by omega, fun j hj => ?_⟩
        have q := e2 j (by omega)
        rw [yvv (k2 j hj).1, yvv (m2 j (by omega)).1] at q
        exact lo8_inj (hf j hj).1 (k2 j hj).2 (hg j (by omega)).1 (m2 j (by omega)).2 q
      · rintro ⟨rfl, e2⟩
        refine ⟨by omega, fun j hj => ?_⟩
        rw [yvv (k2 j (by omega)).1, yvv (m2 j (by omega)).1, e2 j (by omega)]
    · exact absurd e (by decide)
  · rcases h' with ⟨e, -⟩ | ⟨-, m1, m2, -⟩
    · exact absurd e (by decide)
    · constructor
      · rintro ⟨e1, e2⟩
        refine ⟨by omega, fun j hj => ?_⟩
        have q1 := e2 (2 * j) (by omega)
        have q2 := e2 (2 * j + 1) (by omega)
        rw [yvv (k2 j hj).1, yvv (m2 j (by omega)).1] at q1
        rw [yvv (k2 j hj).2, yvv (m2 j (by omega)).2] at q2
        rw [← pair_says (hf j hj).1 (hf j hj).2, ← pair_says (hg j (by omega)).1 (hg j (by omega)).2, q1, q2]
      · rintro ⟨rfl, e2⟩
        refine ⟨by omega, fun i hi => ?_⟩
        rcases Nat.mod_two_eq_zero_or_one i with e | e
        · obtain ⟨j, rfl⟩ : ∃ j, i = 2 * j := ⟨i / 2, by omega⟩
          rw [yvv (k2 j (by omega)).1, yvv (m2 j (by omega)).1, e2 j (by omega)]
        · obtain ⟨j, rfl⟩ : ∃ j, i = 2 * j + 1 := ⟨i / 2, by omega⟩
          rw [yvv (k2 j (by omega)).2, yvv (m2 j (by omega)).2, e2 j (by omega)]
/-- two codings differ: so do the texts -/
theorem Cod.dif {cd cd' : Int32} {n k : Nat} {f g : Nat → Int32} {V V' : Cell} (h : Cod cd n f V) (h' : Cod cd' k g V') (hne : ¬ cd = cd') : ¬ SameT n f k g := by
  rintro ⟨rfl, e⟩
  rcases h with ⟨rfl, -, k2⟩ | ⟨rfl, -, -, j, hj, hw⟩
  · rcases h' with ⟨rfl, -⟩ | ⟨-, -, -, j, hj, hw⟩
    · exact hne rfl
    · exact (k2 j hj).2 (by rw [e j hj]; exact hw)
  · rcases h' with ⟨-, -, m2⟩ | ⟨rfl, -⟩
    · exact (m2 j hj).2 (by rw [← e j hj]; exact hw)
    · exact hne rfl
/-- an object of exactly C is an instance of C -/
theorem cinst {p : Program} {l : Launch} {e : Env} {R : Room} {s : State} {m : MethodId} {args : Array Value} {below : List Frame} {meth : Method} {c : Code} {T : State} {locs : List Loc} {cells slots : Nat} (X : Stand p l e R s m args below meth c T locs cells slots) (hexec : p.tables.exec = Jvm.exec) {own C : String} {index : Nat} (hown : s.vm.findClass own = some m.cls) (hlink : (Cond.classLink own index C).before args s = true) {a : Addr} (hE : Exact C a T)
    {g : JFrame} (hg : g.method = m) {rest : List Value} (hstack : g.stack = .ref a :: rest) (hdg : decode c.code g.pc = .ok (.instanceof index, 3)) :
    ∃ T', Stand p l e R s m args below meth c T' locs cells slots ∧ T'.heap = T.heap ∧ ∀ target, Steps p.tables e below (T'.setTop { g with pc := g.pc + 3, stack := .int 1 :: rest }) target → Steps p.tables e below (T.setTop g) target := by
  obtain ⟨cB, h1, D, h2, h3, h4⟩ := hE
  have h1' : s.vm.findClass C = some cB := by rw [← X.warmed.alike.findClass]; exact h1
  obtain ⟨vm', X', st⟩ := X.instanceofYes hexec hown hlink h2 h4 h1' (by rw [h3]; exact Jvm.Free.SB.assignable_self _ _) hg hstack hdg
  exact ⟨_, X', rfl, st⟩
theorem cself {p : Program} {l : Launch} {e : Env} {R : Room} {s : State} {m : MethodId} {args : Array Value} {below : List Frame} {meth : Method} {c : Code} {T : State} {locs : List Loc} {cells slots : Nat} (X : Stand p l e R s m args below meth c T locs cells slots) (hexec : p.tables.exec = Jvm.exec) {own C : String} {index : Nat} (hown : s.vm.findClass own = some m.cls) (hlink : (Cond.classLink own index C).before args s = true) {a : Addr} (hE : Exact C a T)
    {g : JFrame} (hg : g.method = m) {rest : List Value} (hstack : g.stack = .ref a :: rest) (hdg : decode c.code g.pc = .ok (.checkcast index, 3)) :
    ∃ T', Stand p l e R s m args below meth c T' locs cells slots ∧ T'.heap = T.heap ∧ ∀ target, Steps p.tables e below (T'.setTop { g with pc := g.pc + 3, stack := .ref a :: rest }) target → Steps p.tables e below (T.setTop g) target := by
  obtain ⟨cB, h1, D, h2, h3, h4⟩ := hE
  have h1' : s.vm.findClass C = some cB := by rw [← X.warmed.alike.findClass]; exact h1
  obtain ⟨vm', X', st⟩ := X.checkcastYes hexec hown hlink h2 h4 h1' (by rw [h3]; exact Jvm.Free.SB.assignable_self _ _) hg hstack hdg
  exact ⟨_, X', rfl, fun t h => st t (by rw [← hstack] at h; exact h)⟩
namespace SEq
def yN : MethodName := ⟨"java/lang/String", "equals", "(Ljava/lang/Object;)Z"⟩
abbrev yB : ByteArray := jdk_42_method_66_code
theorem d0 : decode yB 0 = .ok (.aload_n 0, 1) := by decide +kernel
theorem d1 : decode yB 1 = .ok (.aload_n 1, 1) := by decide +kernel
theorem d2 : decode yB 2 = .ok (.if_acmp (.ne) 5, 3) := by decide +kernel
theorem d5 : decode yB 5 = .ok (.iconst 1, 1) := by decide +kernel
theorem d6 : decode yB 6 = .ok (.ireturn, 1) := by decide +kernel
theorem d7 : decode yB 7 = .ok (.aload_n 1, 1) := by decide +kernel
theorem d8 : decode yB 8 = .ok (.instanceof 10, 3) := by decide +kernel
theorem d11 : decode yB 11 = .ok (.ifCond (.eq) 43, 3) := by decide +kernel
theorem d14 : decode yB 14 = .ok (.aload_n 1, 1) := by decide +kernel
theorem d15 : decode yB 15 = .ok (.checkcast 10, 3) := by decide +kernel
theorem d18 : decode yB 18 = .ok (.astore_n 2, 1) := by decide +kernel
theorem d19 : decode yB 19 = .ok (.getstatic 38, 3) := by decide +kernel
theorem d22 : decode yB 22 = .ok (.ifCond (.eq) 14, 3) := by decide +kernel
theorem d25 : decode yB 25 = .ok (.aload_n 0, 1) := by decide +kernel
theorem d26 : decode yB 26 = .ok (.getfield 15, 3) := by decide +kernel
theorem d29 : decode yB 29 = .ok (.aload_n 2, 1) := by decide +kernel
theorem d30 : decode yB 30 = .ok (.getfield 15, 3) := by decide +kernel
theorem d33 : decode yB 33 = .ok (.if_icmp (.ne) 21, 3) := by decide +kernel
theorem d36 : decode yB 36 = .ok (.aload_n 0, 1) := by decide +kernel
theorem d37 : decode yB 37 = .ok (.getfield 9, 3) := by decide +kernel
theorem d40 : decode yB 40 = .ok (.aload_n 2, 1) := by decide +kernel
theorem d41 : decode yB 41 = .ok (.getfield 9, 3) := by decide +kernel
theorem d44 : decode yB 44 = .ok (.invokestatic 541, 3) := by decide +kernel
theorem d47 : decode yB 47 = .ok (.ifCond (.eq) 7, 3) := by decide +kernel
theorem d50 : decode yB 50 = .ok (.iconst 1, 1) := by decide +kernel
theorem d51 : decode yB 51 = .ok (.goto 4, 3) := by decide +kernel
theorem d54 : decode yB 54 = .ok (.iconst 0, 1) := by decide +kernel
theorem d55 : decode yB 55 = .ok (.ireturn, 1) := by decide +kernel
def site : List Cond := [.classLink "java/lang/String" 10 "java/lang/String", .fieldLink "java/lang/String" 38 "java/lang/String" "COMPACT_STRINGS" "Z", .fieldLink "java/lang/String" 15 "java/lang/String" "coder" "B", .fieldLink "java/lang/String" 9 "java/lang/String" "value" "[B", LEq.tab] ++ staticW "java/lang/String" 541 LEq.yN
def tab : Cond := tabOf yN yB 3 (some .boolean) site
def P (x t : Addr) (V : Cell) (cd : Int32) (n : Nat) (f : Nat → Int32) (y t' : Addr) (V' : Cell) (cd' : Int32) (k : Nat) (g : Nat → Int32) (z : Int32) (args : Array Value) (s : State) : Prop := args = #[.ref x, .ref y] ∧ Txt x t V cd n f s ∧ Txt y t' V' cd' k g s ∧ StaticIs s "java/lang/String" "COMPACT_STRINGS" "Z" (.int z) ∧ ¬ z = 0
/-- equals(Object) of two Strings: whether the texts are the same -/
theorem law (l : Launch) (x t : Addr) (V : Cell) (cd : Int32) (n : Nat) (f : Nat → Int32) (y t' : Addr) (V' : Cell) (cd' : Int32) (k : Nat) (g : Nat → Int32) (z : Int32) : Law l yN 2 1 1 14 yB 3 (some .boolean) site (P x t V cd n f y t' V' cd' k g z) (Says01 (SameT n f k g)) [] 0 0 := by
  refine Law.of_walk (plainFor_of_name (by decide +kernel)) (by decide +kernel) (by decide +kernel) (by decide) (fun _ _ h => by rw [h.1]; rfl) (fun _ U U' hal hh h => ⟨h.1, h.2.1.mv hal hh, h.2.2.1.mv hal hh, h.2.2.2.1.there hal hh, h.2.2.2.2⟩) (fun r U U' V V' h1 hal h2 h => Says01.mv r U U' V V' h1 hal h2 h) ?_
  intro p e s m args below meth c s₁ X0 hexec hbytes hml hret hlk hnm hown hh0 W hP
  obtain ⟨rfl, hx, hy, s1, hz⟩ := hP
  have c1 : Steps p.tables e below (s₁.setTop (entryFrame m #[.ref x, .ref y] 3)) (s₁.setTop (mkF m 2 #[.val (.ref x), .val (.ref y), .unset] [.ref y, .ref x])) := Steps.trans (entry rfl) (by
    show Steps p.tables e below (s₁.setTop (mkF m 0 #[.val (.ref x), .val (.ref y), .unset] [])) _
    refine XS.aloadN X0.here hexec rfl (hb hbytes d0) rfl rfl ?_
    refine XS.aloadN X0.here hexec rfl (hb hbytes d1) rfl rfl ?_
    exact Steps.refl _)
  by_cases hxy : x = y
  · have c2 : Steps p.tables e below (s₁.setTop (entryFrame m #[.ref x, .ref y] 3)) (s₁.setTop (mkF m 6 #[.val (.ref x), .val (.ref y), .unset] [.int 1])) := c1.trans (by
      refine acmpNo X0.here hexec rfl (hb hbytes d2) rfl rfl rfl (by simp [acmp, hxy]) ?_
      refine iconstV X0.here hexec rfl 1 (hb hbytes d5) (by decide) ?_
      exact Steps.refl _)
    subst hxy
    have ec : cd = cd' := by
      obtain ⟨D, fd, a1, a2, a3⟩ := hx.2.2.1
      obtain ⟨D', fd', b1, b2, b3⟩ := hy.2.2.1
      cases a1.symm.trans b1
      obtain ⟨q1, q2, q3, q4⟩ := a2.1
      obtain ⟨r1, r2, r3, r4⟩ := b2.1
      cases q4.symm.trans r4
      cases a3.symm.trans b3; rfl
    have et : t = t' := by
      obtain ⟨D, fd, a1, a2, a3⟩ := hx.2.1
      obtain ⟨D', fd', b1, b2, b3⟩ := hy.2.1
      cases a1.symm.trans b1
      obtain ⟨q1, q2, q3, q4⟩ := a2.1
      obtain ⟨r1, r2, r3, r4⟩ := b2.1
      cases q4.symm.trans r4
      cases a3.symm.trans b3; rfl
    subst ec et
    have ev : V = V' := by cases hx.2.2.2.1.1.symm.trans hy.2.2.2.1.1; rfl
    subst ev
    have hs : SameT n f k g := (Cod.eqv hx.2.2.2.2.1 hy.2.2.2.2.1 hx.2.2.2.2.2 hy.2.2.2.2.2).mp ⟨rfl, fun _ _ => rfl⟩
    exact ⟨s₁, some (.int 1), _, _, _, X0, rfl, rfl, rfl, (fun h => by cases h), ⟨1, rfl, hh0, Or.inl ⟨rfl, hs⟩⟩, fun fs hl => c2.trans (X0.ireturnOut hexec hret rfl (Or.inr (Or.inl rfl)) (hb hbytes d6) hl)⟩
  · have c2 : Steps p.tables e below (s₁.setTop (entryFrame m #[.ref x, .ref y] 3)) (s₁.setTop (mkF m 8 #[.val (.ref x), .val (.ref y), .unset] [.ref y])) := c1.trans (by
      refine acmpYes X0.here hexec rfl (pc0 := 2) rfl (hb hbytes d2) rfl rfl rfl (by simp [acmp, hxy]) (by decide) rfl ?_
      refine XS.aloadN X0.here hexec rfl (hb hbytes d7) rfl rfl ?_
      exact Steps.refl _)
    obtain ⟨T3, X3, q3, st3⟩ := cinst X0 hexec hown (wk W (.classLink "java/lang/String" 10 "java/lang/String")) (hy.mv X0.warmed.alike hh0).1 (g := (mkF m 8 #[.val (.ref x), .val (.ref y), .unset] [.ref y])) rfl (rest := []) rfl (hb hbytes d8)
    have hh3 := q3.trans hh0
    have c4 : Steps p.tables e below (s₁.setTop (entryFrame m #[.ref x, .ref y] 3)) (T3.setTop (mkF m 15 #[.val (.ref x), .val (.ref y), .unset] [.ref y])) := (c2.trans (st3 _ (Steps.refl _))).trans (by
      refine XS.ifNo X3.here hexec rfl (hb hbytes d11) rfl (i0_eq_f (by decide)) ?_
      refine XS.aloadN X3.here hexec rfl (hb hbytes d14) rfl rfl ?_
      exact Steps.refl _)
    obtain ⟨T5, X5, q5, st5⟩ := cself X3 hexec hown (wk W (.classLink "java/lang/String" 10 "java/lang/String")) (hy.mv X3.warmed.alike hh3).1 (g := (mkF m 15 #[.val (.ref x), .val (.ref y), .unset] [.ref y])) rfl (rest := []) rfl (hb hbytes d15)
    have hh5 := q5.trans hh3
    have c6 : Steps p.tables e below (s₁.setTop (entryFrame m #[.ref x, .ref y] 3)) (T5.setTop (mkF m 19 #[.val (.ref x), .val (.ref y), .val (.ref y)] [])) := (c4.trans (st5 _ (Steps.refl _))).trans (by
      refine XS.astoreN X5.here hexec rfl (hb hbytes d18) rfl rfl rfl ?_
      exact Steps.refl _)
    obtain ⟨T7, X7, q7, st7⟩ := X5.sget hexec hown (wk W (.fieldLink "java/lang/String" 38 "java/lang/String" "COMPACT_STRINGS" "Z")) s1 (fun _ _ h => by rw [hh5]; exact h) (g := (mkF m 19 #[.val (.ref x), .val (.ref y), .val (.ref y)] [])) rfl (hb hbytes d19)
    have hh7 := q7.trans hh5
    have c8 : Steps p.tables e below (s₁.setTop (entryFrame m #[.ref x, .ref y] 3)) (T7.setTop (mkF m 26 #[.val (.ref x), .val (.ref y), .val (.ref y)] [.ref x])) := (c6.trans (st7 _ (Steps.refl _))).trans (by
      refine XS.ifNo X7.here hexec rfl (hb hbytes d22) rfl (i0_eq_f hz) ?_
      refine XS.aloadN X7.here hexec rfl (hb hbytes d25) rfl rfl ?_
      exact Steps.refl _)
    obtain ⟨T9, X9, q9, st9⟩ := X7.hget hexec hown (wk W (.fieldLink "java/lang/String" 15 "java/lang/String" "coder" "B")) (hx.mv X7.warmed.alike hh7).2.2.1 (g := (mkF m 26 #[.val (.ref x), .val (.ref y), .val (.ref y)] [.ref x])) rfl (rest := []) rfl (hb hbytes d26)
    have hh9 := q9.trans hh7
    have c10 : Steps p.tables e below (s₁.setTop (entryFrame m #[.ref x, .ref y] 3)) (T9.setTop (mkF m 30 #[.val (.ref x), .val (.ref y), .val (.ref y)] [.ref y, .int cd])) := (c8.trans (st9 _ (Steps.refl _))).trans (by
      refine XS.aloadN X9.here hexec rfl (hb hbytes d29) rfl rfl ?_
      exact Steps.refl _)
    obtain ⟨T11, X11, q11, st11⟩ := X9.hget hexec hown (wk W (.fieldLink "java/lang/String" 15 "java/lang/String" "coder" "B")) (hy.mv X9.warmed.alike hh9).2.2.1 (g := (mkF m 30 #[.val (.ref x), .val (.ref y), .val (.ref y)] [.ref y, .int cd])) rfl (rest := [.int cd]) rfl (hb hbytes d30)
    have hh11 := q11.trans hh9
    have c12 : Steps p.tables e below (s₁.setTop (entryFrame m #[.ref x, .ref y] 3)) (T11.setTop (mkF m 33 #[.val (.ref x), .val (.ref y), .val (.ref y)] [.int cd', .int cd])) := c10.trans (st11 _ (Steps.refl _))
    by_cases hcd : cd = cd'
    · subst hcd
      have c13 : Steps p.tables e below (s₁.setTop (entryFrame m #[.ref x, .ref y] 3)) (T11.setTop (mkF m 37 #[.val (.ref x), .val (.ref y), .val (.ref y)] [.ref x])) := c12.trans (by
        refine XS.icmpNo X11.here hexec rfl (hb hbytes d33) rfl (ii_ne_f rfl) ?_
        refine XS.aloadN X11.here hexec rfl (hb hbytes d36) rfl rfl ?_
        exact Steps.refl _)
      obtain ⟨T14, X14, q14, st14⟩ := X11.hget hexec hown (wk W (.fieldLink "java/lang/String" 9 "java/lang/String" "value" "[B")) (hx.mv X11.warmed.alike hh11).2.1 (g := (mkF m 37 #[.val (.ref x), .val (.ref y), .val (.ref y)] [.ref x])) rfl (rest := []) rfl (hb hbytes d37)
      have hh14 := q14.trans hh11
      have c15 : Steps p.tables e below (s₁.setTop (entryFrame m #[.ref x, .ref y] 3)) (T14.setTop (mkF m 41 #[.val (.ref x), .val (.ref y), .val (.ref y)] [.ref y, .ref t])) := (c13.trans (st14 _ (Steps.refl _))).trans (by
        refine XS.aloadN X14.here hexec rfl (hb hbytes d40) rfl rfl ?_
        exact Steps.refl _)
      obtain ⟨T16, X16, q16, st16⟩ := X14.hget hexec hown (wk W (.fieldLink "java/lang/String" 9 "java/lang/String" "value" "[B")) (hy.mv X14.warmed.alike hh14).2.1 (g := (mkF m 41 #[.val (.ref x), .val (.ref y), .val (.ref y)] [.ref y, .ref t])) rfl (rest := [.ref t]) rfl (hb hbytes d41)
      have hh16 := q16.trans hh14
      have c17 : Steps p.tables e below (s₁.setTop (entryFrame m #[.ref x, .ref y] 3)) (T16.setTop (mkF m 44 #[.val (.ref x), .val (.ref y), .val (.ref y)] [.ref t', .ref t])) := c15.trans (st16 _ (Steps.refl _))
      obtain ⟨v18, T18, X18, E18, g18⟩ := X16.callS hexec (LEq.law l t V t' V') hown (wks W (staticW "java/lang/String" 541 LEq.yN)) (wk W LEq.tab) (W := 0) (Nat.le_of_ble_eq_true rfl) (Nat.le_of_ble_eq_true rfl) (Nat.le_refl _) (Nat.le_refl _) (g := (mkF m 44 #[.val (.ref x), .val (.ref y), .val (.ref y)] [.ref t', .ref t])) rfl (by rw [hml]; rfl) c17 (argsL := [.ref t, .ref t']) (rest := []) rfl rfl (by show 2 * 0 + 0 ≤ _; decide) (hb hbytes d44) (⟨rfl, hx.2.2.2.1.mv X16.warmed.alike hh16, hx.2.2.2.2.1.ty, hy.2.2.2.1.mv X16.warmed.alike hh16, hy.2.2.2.2.1.ty⟩)
      obtain ⟨v, rfl, q18, hv⟩ := E18
      have iff := Cod.eqv hx.2.2.2.2.1 hy.2.2.2.2.1 hx.2.2.2.2.2 hy.2.2.2.2.2
      rcases hv with ⟨rfl, he⟩ | ⟨rfl, he⟩
      · have c19 : Steps p.tables e below (s₁.setTop (entryFrame m #[.ref x, .ref y] 3)) (T18.setTop (mkF m 55 #[.val (.ref x), .val (.ref y), .val (.ref y)] [.int 1])) := Steps.trans g18 (by
          refine XS.ifNo X18.here hexec rfl (hb hbytes d47) rfl (i0_eq_f (by decide)) ?_
          refine iconstV X18.here hexec rfl 1 (hb hbytes d50) (by decide) ?_
          refine XS.goto X18.here hexec rfl (pc0 := 51) rfl (hb hbytes d51) (by decide) rfl ?_
          exact Steps.refl _)
        exact ⟨T18, some (.int 1), _, _, _, X18, rfl, rfl, rfl, (fun h => by cases h), ⟨1, rfl, q18.trans hh16, Or.inl ⟨rfl, iff.mp he⟩⟩, fun fs hl => c19.trans (X18.ireturnOut hexec hret rfl (Or.inr (Or.inl rfl)) (hb hbytes d55) hl)⟩
      · have c19 : Steps p.tables e below (s₁.setTop (entryFrame m #[.ref x, .ref y] 3)) (T18.setTop (mkF m 55 #[.val (.ref x), .val (.ref y), .val (.ref y)] [.int 0])) := Steps.trans g18 (by
          refine XS.ifYes X18.here hexec rfl (pc0 := 47) rfl (hb hbytes d47) rfl (i0_eq_t rfl) (by decide) rfl ?_
          refine iconstV X18.here hexec rfl 0 (hb hbytes d54) (by decide) ?_
          exact Steps.refl _)
        exact ⟨T18, some (.int 0), _, _, _, X18, rfl, rfl, rfl, (fun h => by cases h), ⟨0, rfl, q18.trans hh16, Or.inr ⟨rfl, fun q => he (iff.mpr q)⟩⟩, fun fs hl => c19.trans (X18.ireturnOut hexec hret rfl (Or.inr (Or.inl rfl)) (hb hbytes d55) hl)⟩
    · have c13 : Steps p.tables e below (s₁.setTop (entryFrame m #[.ref x, .ref y] 3)) (T11.setTop (mkF m 55 #[.val (.ref x), .val (.ref y), .val (.ref y)] [.int 0])) := c12.trans (by
        refine XS.icmpYes X11.here hexec rfl (pc0 := 33) rfl (hb hbytes d33) rfl (ii_ne_t hcd) (by decide) rfl ?_
        refine iconstV X11.here hexec rfl 0 (hb hbytes d54) (by decide) ?_
        exact Steps.refl _)
      exact ⟨T11, some (.int 0), _, _, _, X11, rfl, rfl, rfl, (fun h => by cases h), ⟨0, rfl, hh11, Or.inr ⟨rfl, Cod.dif hx.2.2.2.2.1 hy.2.2.2.2.1 hcd⟩⟩, fun fs hl => c13.trans (X11.ireturnOut hexec hret rfl (Or.inr (Or.inl rfl)) (hb hbytes d55) hl)⟩
theorem pays {l : Launch} {R : Room} {p : Program} {e : Env} {below : List Frame} {s : State} {sargs : Array Value} {len W : Nat} (x t : Addr) (V : Cell) (cd : Int32) (n : Nat) (f : Nat → Int32) (y t' : Addr) (V' : Cell) (cd' : Int32) (k : Nat) (g : Nat → Int32) (z : Int32) (htab : tab.before sargs s = true) (hfr : 2 ≤ R.frames) (hlo : W + 28 ≤ R.locals) :
    Back l R p e below s sargs yN len W (fun A₁ a₁ => A₁.cells + 0 ≤ R.cells ∧ A₁.slots + 0 ≤ R.slots ∧ P x t V cd n f y t' V' cd' k g z a₁ A₁.U) (fun A₁ _ v₁ B₁ => Says01 (SameT n f k g) v₁ A₁.U B₁.U ∧ B₁.locs = A₁.locs ++ [] ∧ B₁.cells = A₁.cells + 0 ∧ B₁.slots = A₁.slots + 0) :=
  (law l x t V cd n f y t' V' cd' k g z).pays htab hfr (by omega)
end SEq
end StrChars
namespace StrChars.Road
open Jvm Sem ClassFile Op Lib Jvm.Stand Jvm.Free Jvm.Free.XT
open Jvm.Lib.Cold (StaticIs)
/-- the words of String.isEmpty() -/
abbrev wordsEmp : List Jvm.Cond := [.code Emp.yN Emp.yB 1 (some .boolean), .initialized ST, .fieldLink ST 9 ST "value" "[B"]
theorem tabEmp_of {a : Array Value} {s : State} (h : ∀ w ∈ wordsEmp, w.before a s = true) : Emp.tab.before a s = true := unparts (wk h (.code Emp.yN Emp.yB 1 (some .boolean))) (wks h (.initialized Emp.yN.cls :: Emp.site))
theorem movedEmp {Z s : State} {a0 args : Array Value} (hZ : Z.Warmed39 s.vm) (hw : ∀ d ∈ wordsEmp, d.before a0 Z = true) : ∀ d ∈ wordsEmp, d.before args s = true := fun d hd => by
  have t : ∀ d ∈ wordsEmp, (d.onTables && d.keepsFace) = true := by decide +kernel
  exact RoadKit.mv hZ (hw d hd) (t d hd)
/-- the words of String.equals(Object) -/
abbrev wordsEq : List Jvm.Cond := [.code SEq.yN SEq.yB 3 (some .boolean), .initialized ST, .classLink ST 10 ST, .fieldLink ST 38 ST "COMPACT_STRINGS" "Z", .fieldLink ST 15 ST "coder" "B", .fieldLink ST 9 ST "value" "[B", .methodLink ST 541 LEq.yN, .static LEq.yN, .code LEq.yN LEq.yB 3 (some .boolean), .initialized "java/lang/StringLatin1"]
theorem tabEq_of {a : Array Value} {s : State} (h : ∀ w ∈ wordsEq, w.before a s = true) : SEq.tab.before a s = true := by
  have hl : LEq.tab.before a s = true := unparts (wk h (.code LEq.yN LEq.yB 3 (some .boolean))) (wks h (.initialized LEq.yN.cls :: LEq.site))
  have q := consq hl h
  exact unparts (wk q (.code SEq.yN SEq.yB 3 (some .boolean))) (wks q (.initialized SEq.yN.cls :: SEq.site))
theorem movedEq {Z s : State} {a0 args : Array Value} (hZ : Z.Warmed39 s.vm) (hw : ∀ d ∈ wordsEq, d.before a0 Z = true) : ∀ d ∈ wordsEq, d.before args s = true := fun d hd => by
  have t : ∀ d ∈ wordsEq, (d.onTables && d.keepsFace) = true := by decide +kernel
  exact RoadKit.mv hZ (hw d hd) (t d hd)
/-- the road's facts of a String, as the laws ask it -/
theorem txt_of {Z U : State} {a0 : Array Value} {kI : Nat} (wi : (Jvm.Cond.instantiable ST kI).before a0 Z = true) (al : Z.vm.Alike U.vm) {x t : Addr} {kb : ClassId} {cs : List Int32} {cd N2 : Int32} {vs : List Value} (E : RoadKit.Exa Z U.heap x ST) (V : RoadKit.Fld Z U.heap x ST "value" "[B" (.ref t)) (C : RoadKit.Fld Z U.heap x ST "coder" "B" (.int cd)) (K : RoadKit.Arv Z U.heap t kb .byte N2 vs (.int 0)) (hc : CodA cs cd N2 vs) (hb : ∀ c ∈ cs, ¬ c < 0 ∧ ¬ (65535 : Int32) < c) (l2 : cs.length ≤ 4000) :
    ∃ A, Txt x t A cd cs.length (fun j => cs.getD j 0) U := by
  obtain ⟨A, K1, K2, K3, K4, K5, K6⟩ := K
  have hcod := hc.cod (by omega) K3 K5
  obtain ⟨D, fV, fC, hB, F1, F2, g1, g2, -, -⟩ := strObj wi al E V C
  exact ⟨A, ⟨_, hB.2.2.1, D, hB.1, rfl, by cases q : D.vm <;> first | rfl | exact absurd q (hB.2.1.2 _)⟩, Has.of hB F1 g1, Has.of hB F2 g2, ⟨K1.1, State.isArrayOf_alike al K1.2.1, K1.2.2, by rcases hcod with ⟨-, q, -⟩ | ⟨-, q, -⟩ <;> omega⟩, hcod, fun j hj => by
    have e : cs.getD j 0 = cs[j] := by simp [List.getD_eq_getElem?_getD, hj]
    show ¬ cs.getD j 0 < 0 ∧ ¬ 65535 < cs.getD j 0
    rw [e]; exact hb _ (List.getElem_mem _)⟩
theorem same_list (cs ds : List Int32) : SameT cs.length (fun j => cs.getD j 0) ds.length (fun j => ds.getD j 0) ↔ cs = ds := by
  constructor
  · rintro ⟨e, q⟩
    refine List.ext_getElem e fun j h1 h2 => ?_
    have := q j h1
    simpa [List.getD_eq_getElem?_getD, h1, h2] using this
  · rintro rfl
    exact ⟨rfl, fun _ _ => rfl⟩
/-- **isEmpty() OF SUCH A STRING** -/
theorem empW {p : Program} {l : Launch} {e : Env} {R : Room} {s : State} {args : Array Value} {below : List Frame} {len W : Nat} {Z : State} {a0 : Array Value} {h : Heap} (hZ : Z.Warmed39 s.vm) (hw : ∀ d ∈ wordsEmp, d.before a0 Z = true) {kI : Nat} (wi : (Jvm.Cond.instantiable ST kI).before a0 Z = true)
    {x t : Addr} {kb : ClassId} {cs : List Int32} {cd N2 : Int32} {vs : List Value} (E : RoadKit.Exa Z h x ST) (V : RoadKit.Fld Z h x ST "value" "[B" (.ref t)) (C : RoadKit.Fld Z h x ST "coder" "B" (.int cd)) (K : RoadKit.Arv Z h t kb .byte N2 vs (.int 0)) (hc : CodA cs cd N2 vs) (hb : ∀ c ∈ cs, ¬ c < 0 ∧ ¬ (65535 : Int32) < c) (l2 : cs.length ≤ 4000) (hfr : 1 ≤ R.frames) (hlo : W + 12 ≤ R.locals) :
    Back l R p e below s args (⟨"java/lang/String", "isEmpty", "()Z"⟩ : MethodName) len W (fun P a => a = #[.ref x] ∧ P.U.heap = h ∧ P.cells + 0 ≤ R.cells ∧ P.slots + 0 ≤ R.slots)
      (fun P _ v B => ∃ L, (v = some (.int (if cs.length = 0 then 1 else 0)) ∧ L = [] ∧ B.U.heap = h) ∧ B.locs = P.locs ++ L ∧ B.cells = P.cells + 0 ∧ B.slots = P.slots + 0) := by
  intro m meth c P g ig mk a X hg hsize hdg hW hn hp'
  obtain ⟨rfl, rfl, r1, r2⟩ := hp'
  have al : Z.vm.Alike P.U.vm := hZ.alike.trans X.warmed.alike
  obtain ⟨A, hx⟩ := txt_of wi al E V C K hc hb l2
  obtain ⟨v, B, X', ⟨⟨hv, hh⟩, hl, hk, hs⟩, st⟩ := Emp.pays x t A cd cs.length (fun j => cs.getD j 0) (tabEmp_of (movedEmp hZ hw)) hfr hlo m meth c P g ig mk _ X hg hsize hdg hW hn ⟨r1, r2, rfl, hx⟩
  exact ⟨v, B, X', ⟨[], ⟨hv, rfl, hh⟩, hl, hk, hs⟩, st⟩
/-- **equals(Object) OF TWO SUCH STRINGS**: 1 just where the chars are the same -/
theorem eqW {p : Program} {l : Launch} {e : Env} {R : Room} {s : State} {args : Array Value} {below : List Frame} {len W : Nat} {Z : State} {a0 : Array Value} {h : Heap} (hZ : Z.Warmed39 s.vm) (hw : ∀ d ∈ wordsEq, d.before a0 Z = true) {kI : Nat} (wi : (Jvm.Cond.instantiable ST kI).before a0 Z = true)
    {x t : Addr} {kb : ClassId} {cs : List Int32} {cd N2 : Int32} {vs : List Value} (E : RoadKit.Exa Z h x ST) (V : RoadKit.Fld Z h x ST "value" "[B" (.ref t)) (C : RoadKit.Fld Z h x ST "coder" "B" (.int cd)) (K : RoadKit.Arv Z h t kb .byte N2 vs (.int 0)) (hc : CodA cs cd N2 vs) (hb : ∀ c ∈ cs, ¬ c < 0 ∧ ¬ (65535 : Int32) < c) (l2 : cs.length ≤ 4000)
    {y t' : Addr} {kb' : ClassId} {ds : List Int32} {cd' N2' : Int32} {vs' : List Value} (E' : RoadKit.Exa Z h y ST) (V' : RoadKit.Fld Z h y ST "value" "[B" (.ref t')) (C' : RoadKit.Fld Z h y ST "coder" "B" (.int cd')) (K' : RoadKit.Arv Z h t' kb' .byte N2' vs' (.int 0)) (hc' : CodA ds cd' N2' vs') (hb' : ∀ c ∈ ds, ¬ c < 0 ∧ ¬ (65535 : Int32) < c) (l2' : ds.length ≤ 4000)
    {z : Int32} (S : RoadKit.Sta Z h ST "COMPACT_STRINGS" "Z" (.int z)) (hz : ¬ z = 0) (hfr : 2 ≤ R.frames) (hlo : W + 28 ≤ R.locals) :
    Back l R p e below s args (⟨"java/lang/String", "equals", "(Ljava/lang/Object;)Z"⟩ : MethodName) len W (fun P a => a = #[.ref x, .ref y] ∧ P.U.heap = h ∧ P.cells + 0 ≤ R.cells ∧ P.slots + 0 ≤ R.slots)
      (fun P _ v B => ∃ L, (((v = some (.int 1) ∧ cs = ds) ∨ (v = some (.int 0) ∧ ¬ cs = ds)) ∧ L = [] ∧ B.U.heap = h) ∧ B.locs = P.locs ++ L ∧ B.cells = P.cells + 0 ∧ B.slots = P.slots + 0) := by
  intro m meth c P g ig mk a X hg hsize hdg hW hn hp'
  obtain ⟨rfl, rfl, r1, r2⟩ := hp'
  have al : Z.vm.Alike P.U.vm := hZ.alike.trans X.warmed.alike
  obtain ⟨A, hx⟩ := txt_of wi al E V C K hc hb l2
  obtain ⟨A', hy⟩ := txt_of wi al E' V' C' K' hc' hb' l2'
  obtain ⟨v, B, X', ⟨⟨w, hv, hh, hq⟩, hl, hk, hs⟩, st⟩ := SEq.pays x t A cd cs.length (fun j => cs.getD j 0) y t' A' cd' ds.length (fun j => ds.getD j 0) z (tabEq_of (movedEq hZ hw)) hfr hlo m meth c P g ig mk _ X hg hsize hdg hW hn ⟨r1, r2, rfl, hx, hy, sta_is al S, hz⟩
  refine ⟨v, B, X', ⟨[], ⟨?_, rfl, hh⟩, hl, hk, hs⟩, st⟩
  rcases hq with ⟨rfl, q⟩ | ⟨rfl, q⟩
  · exact Or.inl ⟨hv, (same_list cs ds).mp q⟩
  · exact Or.inr ⟨hv, fun e => q ((same_list cs ds).mpr e)⟩
end StrChars.Road
namespace StrChars
open Jvm Sem ClassFile Op Lib Jvm.Stand Jvm.Free.XT Jvm.Free.ALB Jvm.Free.JM Jvm.Free
open Jvm.Lib.Cold (StaticIs)
namespace ChN
def yN : MethodName := ⟨"java/lang/String", "charAt", "(I)C"⟩
abbrev yB : ByteArray := jdk_42_method_56_code
theorem d0 : decode yB 0 = .ok (.aload_n 0, 1) := by decide +kernel
theorem d1 : decode yB 1 = .ok (.invokevirtual 492, 3) := by decide +kernel
theorem d4 : decode yB 4 = .ok (.ifCond (.eq) 12, 3) := by decide +kernel
theorem d7 : decode yB 7 = .ok (.aload_n 0, 1) := by decide +kernel
theorem d8 : decode yB 8 = .ok (.getfield 9, 3) := by decide +kernel
theorem d11 : decode yB 11 = .ok (.iload_n 1, 1) := by decide +kernel
theorem d12 : decode yB 12 = .ok (.invokestatic 495, 3) := by decide +kernel
theorem d15 : decode yB 15 = .ok (.ireturn, 1) := by decide +kernel
def site : List Cond := [.fieldLink "java/lang/String" 9 "java/lang/String" "value" "[B", IsL.tab, LChA.tab] ++ virtW "java/lang/String" 492 "java/lang/String" IsL.yN IsL.yN ++ staticW "java/lang/String" 495 LChA.yN
def tab : Cond := tabOf yN yB 2 (some .char) site
def P (x t : Addr) (V : Cell) (n : Nat) (f : Nat → Int32) (z : Int32) (fm : Value) (i : Nat) (args : Array Value) (s : State) : Prop := args = #[.ref x, .int (Int32.ofNat i)] ∧ Txt x t V 0 n f s ∧ i < n ∧ StaticIs s "java/lang/String" "COMPACT_STRINGS" "Z" (.int z) ∧ ¬ z = 0 ∧ StaticIs s "jdk/internal/util/Preconditions" "SIOOBE_FORMATTER" "Ljava/util/function/BiFunction;" fm ∧ fm.isRef = true
def E (f : Nat → Int32) (i : Nat) (r : Option Value) (s u : State) : Prop := XT.PureE (some (.int (f i))) r s u
/-- charAt(i) of a Latin-1 String of n chars, i < n: f i -/
theorem law (l : Launch) (x t : Addr) (V : Cell) (n : Nat) (f : Nat → Int32) (z : Int32) (fm : Value) (i : Nat) : Law l yN 2 1 3 40 yB 2 (some .char) site (P x t V n f z fm i) (E f i) [] 0 0 := by
  refine Law.of_walk (plainFor_of_name (by decide +kernel)) (by decide +kernel) (by decide +kernel) (by decide) (fun _ _ h => by rw [h.1]; rfl) (fun _ U U' hal hh h => ⟨h.1, h.2.1.mv hal hh, h.2.2.1, h.2.2.2.1.there hal hh, h.2.2.2.2.1, h.2.2.2.2.2.1.there hal hh, h.2.2.2.2.2.2⟩) (fun r U U' V V' h1 hal h2 h => XT.PureE.mv r U U' V V' h1 hal h2 h) ?_
  intro p e s m args below meth c s₁ X0 hexec hbytes hml hret hlk hnm hown hh0 W hP
  obtain ⟨rfl, hx, hi, s1, hz, s3, rf⟩ := hP
  have v31 := hx.2.2.2.1.2.2.2
  have hr := hx.2.2.2.2.2 i hi
  have hx0 := hx.mv X0.warmed.alike hh0
  have c1 : Steps p.tables e below (s₁.setTop (entryFrame m #[.ref x, .int (Int32.ofNat i)] 2)) (s₁.setTop (mkF m 1 #[.val (.ref x), .val (.int (Int32.ofNat i))] [.ref x])) := Steps.trans (entry rfl) (by
    show Steps p.tables e below (s₁.setTop (mkF m 0 #[.val (.ref x), .val (.int (Int32.ofNat i))] [])) _
    refine XS.aloadN X0.here hexec rfl (hb hbytes d0) rfl rfl ?_
    exact Steps.refl _)
  obtain ⟨v2, T2, X2, E2, g2⟩ := X0.callV hexec (IsL.law l x 0 z) hown (wks W (virtW "java/lang/String" 492 "java/lang/String" IsL.yN IsL.yN)) rfl (by decide) (wk W IsL.tab) (W := 0) (Nat.le_of_ble_eq_true rfl) (Nat.le_of_ble_eq_true rfl) (Nat.le_refl _) (Nat.le_refl _) (hx0.1.fc X0.warmed.alike) hx0.1.is (g := (mkF m 1 #[.val (.ref x), .val (.int (Int32.ofNat i))] [.ref x])) rfl (by rw [hml]; rfl) c1 (argsL := []) (rest := []) rfl rfl (by show 2 * 0 + 0 ≤ _; decide) (hb hbytes d1) (⟨rfl, hx0.2.2.1, hx.2.2.2.2.1.cd, s1.there X0.warmed.alike hh0, hz⟩)
  obtain ⟨rfl, q2⟩ := E2
  have hh2 := q2.trans hh0
  have hx2 := hx.mv X2.warmed.alike hh2
  obtain ⟨-, k1, k2⟩ | ⟨k0, -⟩ := hx.2.2.2.2.1
  · have c3 : Steps p.tables e below (s₁.setTop (entryFrame m #[.ref x, .int (Int32.ofNat i)] 2)) (T2.setTop (mkF m 8 #[.val (.ref x), .val (.int (Int32.ofNat i))] [.ref x])) := Steps.trans g2 (by
      refine XS.ifNo X2.here hexec rfl (hb hbytes d4) rfl (i0_eq_f (by decide)) ?_
      refine XS.aloadN X2.here hexec rfl (hb hbytes d7) rfl rfl ?_
      exact Steps.refl _)
    obtain ⟨T4, X4, q4, st4⟩ := X2.hget hexec hown (wk W (.fieldLink "java/lang/String" 9 "java/lang/String" "value" "[B")) hx2.2.1 (g := (mkF m 8 #[.val (.ref x), .val (.int (Int32.ofNat i))] [.ref x])) rfl (rest := []) rfl (hb hbytes d8)
    have hh4 := q4.trans hh2
    have c5 : Steps p.tables e below (s₁.setTop (entryFrame m #[.ref x, .int (Int32.ofNat i)] 2)) (T4.setTop (mkF m 12 #[.val (.ref x), .val (.int (Int32.ofNat i))] [.int (Int32.ofNat i), .ref t])) := (c3.trans (st4 _ (Steps.refl _))).trans (by
      refine XS.iloadN X4.here hexec rfl (hb hbytes d11) rfl ?_
      exact Steps.refl _)
    obtain ⟨v6, T6, X6, E6, g6⟩ := X4.callS hexec (LChA.law l t V i (lo8 (f i)) fm) hown (wks W (staticW "java/lang/String" 495 LChA.yN)) (wk W LChA.tab) (W := 0) (Nat.le_of_ble_eq_true rfl) (Nat.le_of_ble_eq_true rfl) (Nat.le_refl _) (Nat.le_refl _) (g := (mkF m 12 #[.val (.ref x), .val (.int (Int32.ofNat i))] [.int (Int32.ofNat i), .ref t])) rfl (by rw [hml]; rfl) c5 (argsL := [.ref t, .int (Int32.ofNat i)]) (rest := []) rfl rfl (by show 2 * 0 + 0 ≤ _; decide) (hb hbytes d12) (⟨rfl, hx.2.2.2.1.mv X4.warmed.alike hh4, (k2 i hi).1, s3.there X4.warmed.alike hh4, rf⟩)
    obtain ⟨rfl, q6⟩ := E6
    rw [chr8_lo8 hr.1 (k2 i hi).2] at g6
    exact ⟨T6, some (.int (f i)), _, _, _, X6, rfl, rfl, rfl, (fun h => by cases h), ⟨rfl, q6.trans hh4⟩, fun fs hl => Steps.trans g6 (X6.ireturnOut hexec hret (narrow_ch hr.1 hr.2) (Or.inr (Or.inr (Or.inr (Or.inl rfl)))) (hb hbytes d15) hl)⟩
  · exact absurd k0 (by decide)
theorem pays {l : Launch} {R : Room} {p : Program} {e : Env} {below : List Frame} {s : State} {sargs : Array Value} {len W : Nat} (x t : Addr) (V : Cell) (n : Nat) (f : Nat → Int32) (z : Int32) (fm : Value) (i : Nat) (htab : tab.before sargs s = true) (hfr : 4 ≤ R.frames) (hlo : W + 53 ≤ R.locals) :
    Back l R p e below s sargs yN len W (fun A₁ a₁ => A₁.cells + 0 ≤ R.cells ∧ A₁.slots + 0 ≤ R.slots ∧ P x t V n f z fm i a₁ A₁.U) (fun A₁ _ v₁ B₁ => E f i v₁ A₁.U B₁.U ∧ B₁.locs = A₁.locs ++ [] ∧ B₁.cells = A₁.cells + 0 ∧ B₁.slots = A₁.slots + 0) :=
  (law l x t V n f z fm i).pays htab hfr (by omega)
end ChN
end StrChars
namespace StrChars.Road
open Jvm Sem ClassFile Op Lib Jvm.Stand Jvm.Free Jvm.Free.XT
open Jvm.Lib.Cold (StaticIs)
/-- the words of String.charAt(int), the Latin-1 road alone -/
abbrev wordsChN : List Jvm.Cond := [.code ChN.yN ChN.yB 2 (some .char), .initialized ST, .fieldLink ST 9 ST "value" "[B", .fieldLink ST 38 ST "COMPACT_STRINGS" "Z", .fieldLink ST 15 ST "coder" "B", .code IsL.yN IsL.yB 1 (some .boolean), .methodLink ST 492 IsL.yN, .declares IsL.yN, .selects ST IsL.yN IsL.yN, .instanceMethod IsL.yN,
  .methodLink ST 495 LChA.yN, .static LChA.yN, .code LChA.yN LChA.yB 2 (some .char), .initialized "java/lang/StringLatin1", .methodLink "java/lang/StringLatin1" 9 JO.Str_checkIndex.yN, .static JO.Str_checkIndex.yN, .code JO.Str_checkIndex.yN JO.Str_checkIndex.yB 2 none,
  .fieldLink ST 1053 "jdk/internal/util/Preconditions" "SIOOBE_FORMATTER" "Ljava/util/function/BiFunction;", .methodLink ST 1059 JC.PreCheck.yN, .static JC.PreCheck.yN, .code JC.PreCheck.yN JC.PreCheck.yB 3 (some .int), .initialized "jdk/internal/util/Preconditions"]
theorem tabChN_of {a : Array Value} {s : State} (h : ∀ w ∈ wordsChN, w.before a s = true) : ChN.tab.before a s = true := by
  have hp : JC.PreCheck.tab.before a s = true := unparts (wk h (.code JC.PreCheck.yN JC.PreCheck.yB 3 (some .int))) (wks h (.initialized JC.PreCheck.yN.cls :: JC.PreCheck.site))
  have qk := consq hp h
  have hk : JO.Str_checkIndex.tab.before a s = true := unparts (wk qk (.code JO.Str_checkIndex.yN JO.Str_checkIndex.yB 2 none)) (wks qk (.initialized JO.Str_checkIndex.yN.cls :: JO.Str_checkIndex.site))
  have ql := consq hk h
  have hl : LChA.tab.before a s = true := unparts (wk ql (.code LChA.yN LChA.yB 2 (some .char))) (wks ql (.initialized LChA.yN.cls :: LChA.site))
  have hi : IsL.tab.before a s = true := unparts (wk h (.code IsL.yN IsL.yB 1 (some .boolean))) (wks h (.initialized IsL.yN.cls :: IsL.site))
  have q := consq hi (consq hl h)
  exact unparts (wk q (.code ChN.yN ChN.yB 2 (some .char))) (wks q (.initialized ChN.yN.cls :: ChN.site))
theorem movedChN {Z s : State} {a0 args : Array Value} (hZ : Z.Warmed39 s.vm) (hw : ∀ d ∈ wordsChN, d.before a0 Z = true) : ∀ d ∈ wordsChN, d.before args s = true := fun d hd => by
  have t : ∀ d ∈ wordsChN, (d.onTables && d.keepsFace) = true := by decide +kernel
  exact RoadKit.mv hZ (hw d hd) (t d hd)
/-- **charAt(i) OF A LATIN-1 STRING**, i < n: the char -/
theorem chN {p : Program} {l : Launch} {e : Env} {R : Room} {s : State} {args : Array Value} {below : List Frame} {len W : Nat} {Z : State} {a0 : Array Value} {h : Heap} (hZ : Z.Warmed39 s.vm) (hw : ∀ d ∈ wordsChN, d.before a0 Z = true) {kI : Nat} (wi : (Jvm.Cond.instantiable ST kI).before a0 Z = true)
    {x t : Addr} {kb : ClassId} {cs : List Int32} {N2 z : Int32} {vs : List Value} {fm : Value} {i : Nat} {j : Int32} (E : RoadKit.Exa Z h x ST) (V : RoadKit.Fld Z h x ST "value" "[B" (.ref t)) (C : RoadKit.Fld Z h x ST "coder" "B" (.int 0)) (K : RoadKit.Arv Z h t kb .byte N2 vs (.int 0)) (hc : CodA cs 0 N2 vs) (hb : ∀ c ∈ cs, ¬ c < 0 ∧ ¬ (65535 : Int32) < c)
    (S : RoadKit.Sta Z h ST "COMPACT_STRINGS" "Z" (.int z)) (hz : ¬ z = 0) (F : RoadKit.Sta Z h "jdk/internal/util/Preconditions" "SIOOBE_FORMATTER" "Ljava/util/function/BiFunction;" fm) (rf : fm.isRef = true) (l2 : cs.length ≤ 4000) (hi : i < cs.length) (hj : j = Int32.ofNat i) (hfr : 4 ≤ R.frames) (hlo : W + 53 ≤ R.locals) :
    Back l R p e below s args (⟨"java/lang/String", "charAt", "(I)C"⟩ : MethodName) len W (fun P a => a = #[.ref x, .int j] ∧ P.U.heap = h ∧ P.cells + 0 ≤ R.cells ∧ P.slots + 0 ≤ R.slots)
      (fun P _ v B => ∃ L, (v = some (.int (cs.getD i 0)) ∧ L = [] ∧ B.U.heap = h) ∧ B.locs = P.locs ++ L ∧ B.cells = P.cells + 0 ∧ B.slots = P.slots + 0) := by
  subst hj
  intro m meth c P g ig mk a X hg hsize hdg hW hn hp'
  obtain ⟨rfl, rfl, r1, r2⟩ := hp'
  have al : Z.vm.Alike P.U.vm := hZ.alike.trans X.warmed.alike
  obtain ⟨A, hx⟩ := txt_of wi al E V C K hc hb l2
  obtain ⟨v, B, X', ⟨⟨hv, hh⟩, hl, hk, hs⟩, st⟩ := ChN.pays x t A cs.length (fun j => cs.getD j 0) z fm i (tabChN_of (movedChN hZ hw)) hfr hlo m meth c P g ig mk _ X hg hsize hdg hW hn ⟨r1, r2, rfl, hx, hi, sta_is al S, hz, sta_is al F, rf⟩
  exact ⟨v, B, X', ⟨[], ⟨hv, rfl, hh⟩, hl, hk, hs⟩, st⟩
/-- what backV says of its String, as the contracts of this text ask it: cs's low bytes, coder 0 -/
theorem codOf {cs : List Int32} {n : Nat} (hn : cs.length = n) (hb : ∀ c ∈ cs, ¬ 255 < c) : CodA cs 0 (Int32.ofNat n) ((cs.map lo8).map Value.int) := Or.inl ⟨rfl, by rw [hn], by simp [List.map_map, Function.comp_def], hb⟩
end StrChars.Road
end Jvm.Pilot.@@N@@
namespace Jvm.Pilot.@@N@@
namespace OwnS
open Jvm Jvm.ClassFile Sem Op Lib Jvm.Free Jvm.Stand Jvm.LawKit Jvm.RoadKit Bundle Jvm.OwnKit
abbrev ST : String := "java/lang/String"
/-- a String that spells cs -/
def Str (Z : State) (h : Heap) (x : Addr) (cs : List Int32) : Prop := Exa Z h x ST ∧ ∃ (t : Addr) (kb : ClassId) (cd N2 : Int32) (vs : List Value), Fld Z h x ST "value" "[B" (.ref t) ∧ Fld Z h x ST "coder" "B" (.int cd) ∧ Arv Z h t kb .byte N2 vs (.int 0) ∧ StrChars.Road.CodA cs cd N2 vs ∧ (∀ c ∈ cs, ¬ c < 0 ∧ ¬ (65535 : Int32) < c) ∧ cs.length ≤ 4000
section A
variable {k : Ctx} {R : Room} {Z : State} {EL : List (String × Nat)} {n0 n W : Nat} {h h' : Heap} {x b x' : Addr} {cs ds : List Int32} {a0 : Array Value} {kC : ClassId} {d v0 c0 : Value} {z N : Int32}
theorem Str.ext (S : Str Z h x cs) (E : Ext h h') : Str Z h' x cs := by
  obtain ⟨e, t, kb, cd, N2, vs, v, c, a, r⟩ := S
  exact ⟨e.ext E, t, kb, cd, N2, vs, v.ext E, c.ext E, a.ext E, r⟩
theorem old_le (hO : Old Z n0 h) : n0 ≤ h.size := hO.1 ▸ hO.2.1
theorem payV (hEL : EW Z a0 EL) (hws : ∀ d ∈ StrChars.Road.words, d.before a0 Z = true) (wi : (Jvm.Cond.instantiable ST 4).before a0 Z = true) (hO : Old Z n0 h) (hx0 : n0 ≤ x) (E : Exa Z h x ST) (V : Fld Z h x ST "value" "[B" v0) (C : Fld Z h x ST "coder" "B" c0) (K : Arv Z h b kC .char N (cs.map Value.int) d) (S : Sta Z Z.heap ST "COMPACT_STRINGS" "Z" (.int z)) (hz : ¬ z = 0)
    (hn : cs.length = n) (hN : N = Int32.ofNat n) (l0 : 0 < n) (l2 : n ≤ 4000) (hp : ∀ c ∈ cs, ¬ c < 0 ∧ ¬ (255 : Int32) < c) (hfr : 4 ≤ R.frames) (hlo : W + 65 ≤ R.locals) :
    Paid k R Z EL n0 (⟨"java/lang/String", "<init>", "([C)V"⟩ : MethodName) W #[.ref x, .ref b] h [x] 1 n (fun v h' => v = none ∧ Str Z h' x cs) :=
  Paid.of_back hEL (fun p l e s args below hZ => StrChars.Road.backV hZ hws wi hx0 (old_le hO) E V C K (S.ext hO.2) hz hn hN l0 l2 hp rfl hfr hlo) (fun v h' L q => by
    obtain ⟨q1, q2, q3, q4, q5, t, kb, -, -, -, q6, q7⟩ := q
    subst hN
    refine ⟨⟨q1, q4, t, kb, 0, _, _, q6, q5, q7, StrChars.Road.codOf hn (fun c hc => (hp c hc).2), fun c hc => ⟨(hp c hc).1, fun q => (hp c hc).2 ?_⟩, by omega⟩, q3, q2⟩
    rw [Int32.lt_iff_toInt_lt] at q ⊢
    have e0 : (255 : Int32).toInt = 255 := rfl
    have e1 : (65535 : Int32).toInt = 65535 := rfl
    omega)
end A
/-! equals, isEmpty, length, charAt -/
section Calls0
variable {k : Ctx} {R : Room} {Z : State} {EL : List (String × Nat)} {n0 W : Nat} {h : Heap} {x x' : Addr} {cs ds : List Int32} {a0 : Array Value} {z : Int32}
theorem frOf {L : List Loc} (q : L = []) : Fr n0 L := by subst q; exact Fr.nil n0
theorem payEq (hEL : EW Z a0 EL) (hw : ∀ d ∈ StrChars.Road.wordsEq, d.before a0 Z = true) (wi : (Jvm.Cond.instantiable ST 4).before a0 Z = true) (hO : Old Z n0 h) (A : Str Z h x cs) (D : Str Z h x' ds) (S : Sta Z Z.heap ST "COMPACT_STRINGS" "Z" (.int z)) (hz : ¬ z = 0) (hfr : 2 ≤ R.frames) (hlo : W + 28 ≤ R.locals) :
    Paid k R Z EL n0 (⟨"java/lang/String", "equals", "(Ljava/lang/Object;)Z"⟩ : MethodName) W #[.ref x, .ref x'] h [] 0 0 (fun v h' => h' = h ∧ v = some (.int (if cs = ds then 1 else 0))) := by
  obtain ⟨a1, a2, a3, a4, a5, a6, a7, a8, a9, a10, a11, a12⟩ := A
  obtain ⟨b1, b2, b3, b4, b5, b6, b7, b8, b9, b10, b11, b12⟩ := D
  exact Paid.of_back (QB := fun v h' L => ((v = some (.int 1) ∧ cs = ds) ∨ (v = some (.int 0) ∧ ¬ cs = ds)) ∧ L = [] ∧ h' = h) hEL (fun p l e s args below hZ => StrChars.Road.eqW hZ hw wi a1 a7 a8 a9 a10 a11 a12 b1 b7 b8 b9 b10 b11 b12 (S.ext hO.2) hz hfr hlo) (fun v h' L q => by
    obtain ⟨q1, q2, rfl⟩ := q
    refine ⟨⟨rfl, ?_⟩, Keep.refl _ _, frOf q2⟩
    rcases q1 with ⟨rfl, q⟩ | ⟨rfl, q⟩ <;> simp [q])
theorem payEmp (hEL : EW Z a0 EL) (hw : ∀ d ∈ StrChars.Road.wordsEmp, d.before a0 Z = true) (wi : (Jvm.Cond.instantiable ST 4).before a0 Z = true) (A : Str Z h x cs) (hfr : 1 ≤ R.frames) (hlo : W + 12 ≤ R.locals) :
    Paid k R Z EL n0 (⟨"java/lang/String", "isEmpty", "()Z"⟩ : MethodName) W #[.ref x] h [] 0 0 (fun v h' => h' = h ∧ v = some (.int (if cs.length = 0 then 1 else 0))) := by
  obtain ⟨a1, a2, a3, a4, a5, a6, a7, a8, a9, a10, a11, a12⟩ := A
  exact Paid.of_back (QB := fun v h' L => v = some (.int (if cs.length = 0 then 1 else 0)) ∧ L = [] ∧ h' = h) hEL (fun p l e s args below hZ => StrChars.Road.empW hZ hw wi a1 a7 a8 a9 a10 a11 a12 hfr hlo) (fun v h' L q => by
    obtain ⟨q1, q2, rfl⟩ := q
    exact ⟨⟨rfl, q1⟩, Keep.refl _ _, frOf q2⟩)
theorem payLen (hEL : EW Z a0 EL) (hw : ∀ d ∈ StrChars.Road.wordsLen, d.before a0 Z = true) (wi : (Jvm.Cond.instantiable ST 4).before a0 Z = true) (hO : Old Z n0 h) (A : Str Z h x cs) (S : Sta Z Z.heap ST "COMPACT_STRINGS" "Z" (.int z)) (hz : ¬ z = 0) (hfr : 2 ≤ R.frames) (hlo : W + 25 ≤ R.locals) :
    Paid k R Z EL n0 (⟨"java/lang/String", "length", "()I"⟩ : MethodName) W #[.ref x] h [] 0 0 (fun v h' => h' = h ∧ v = some (.int (Int32.ofNat cs.length))) := by
  obtain ⟨a1, a2, a3, a4, a5, a6, a7, a8, a9, a10, a11, a12⟩ := A
  exact Paid.of_back (QB := fun v h' L => v = some (.int (Int32.ofNat cs.length)) ∧ L = [] ∧ h' = h) hEL (fun p l e s args below hZ => StrChars.Road.lenW hZ hw wi a1 a7 a8 a9 a10 a11 (S.ext hO.2) hz a12 hfr hlo) (fun v h' L q => by
    obtain ⟨q1, q2, rfl⟩ := q
    exact ⟨⟨rfl, q1⟩, Keep.refl _ _, frOf q2⟩)
theorem payCh (hEL : EW Z a0 EL) (hw : ∀ d ∈ StrChars.Road.wordsChN, d.before a0 Z = true) (wi : (Jvm.Cond.instantiable ST 4).before a0 Z = true) (hO : Old Z n0 h) (A : Str Z h x cs) (h8 : ∀ c ∈ cs, ¬ (255 : Int32) < c) (S : Sta Z Z.heap ST "COMPACT_STRINGS" "Z" (.int z)) (hz : ¬ z = 0) {fm : Value} (F : Sta Z Z.heap "jdk/internal/util/Preconditions" "SIOOBE_FORMATTER" "Ljava/util/function/BiFunction;" fm) (rf : fm.isRef = true) {i : Nat} {j : Int32} (hi : i < cs.length) (hj : j = Int32.ofNat i) (hfr : 4 ≤ R.frames) (hlo : W + 53 ≤ R.locals) :
    Paid k R Z EL n0 (⟨"java/lang/String", "charAt", "(I)C"⟩ : MethodName) W #[.ref x, .int j] h [] 0 0 (fun v h' => h' = h ∧ v = some (.int (cs.getD i 0))) := by
  obtain ⟨a1, a2, a3, a4, a5, a6, a7, a8, a9, a10, a11, a12⟩ := A
  have hcd : a4 = 0 := by
    rcases a10 with q | q
    · exact q.1
    · obtain ⟨c, hc, hq⟩ := q.2.2.2; exact absurd hq (h8 c hc)
  subst hcd
  exact Paid.of_back (QB := fun v h' L => v = some (.int (cs.getD i 0)) ∧ L = [] ∧ h' = h) hEL (fun p l e s args below hZ => StrChars.Road.chN hZ hw wi a1 a7 a8 a9 a10 a11 (S.ext hO.2) hz (F.ext hO.2) rf a12 hi hj hfr hlo) (fun v h' L q => by
    obtain ⟨q1, q2, rfl⟩ := q
    exact ⟨⟨rfl, q1⟩, Keep.refl _ _, frOf q2⟩)
end Calls0
end OwnS
end Jvm.Pilot.@@N@@
namespace Jvm.Pilot.@@N@@
open Jvm Jvm.ClassFile Sem Op Lib Jvm.Free Jvm.Stand Jvm.LawKit Jvm.RoadKit Bundle Jvm.OwnKit OwnS Jvm.Pilot.@@N@@.Jvm.D

abbrev C8 (x : Int32) : Prop := ¬ x < 0 ∧ ¬ (255 : Int32) < x
theorem C8.nar {x : Int32} (h : C8 x) : nar .char x = x := nar_char h.1 (fun q => h.2 (by rw [Int32.lt_iff_toInt_lt] at q ⊢; have e0 : (255 : Int32).toInt = 255 := rfl; have e1 : (65535 : Int32).toInt = 65535 := rfl; omega))
theorem c8m (p : Int32) : C8 ((p &&& (255 : Int32)).toUInt32.toUInt16.toUInt32.toInt32) := by
  rw [i2c_mask]
  obtain ⟨q1, q2⟩ := c_and p 255 (by decide)
  have e0 : (255 : Int32).toInt = 255 := rfl
  have e1 : (0 : Int32).toInt = 0 := rfl
  constructor <;> rw [Int32.lt_iff_toInt_lt] <;> omega
theorem mask3 (p : Int32) : (p &&& (3 : Int32)) = 0 ∨ (p &&& (3 : Int32)) = 1 ∨ (p &&& (3 : Int32)) = 2 ∨ (p &&& (3 : Int32)) = 3 := by
  obtain ⟨q1, q2⟩ := c_and p 3 (by decide)
  have e3 : (3 : Int32).toInt = 3 := rfl
  have e2 : (2 : Int32).toInt = 2 := rfl
  have e1 : (1 : Int32).toInt = 1 := rfl
  have e0 : (0 : Int32).toInt = 0 := rfl
  have : (p &&& 3).toInt = 0 ∨ (p &&& 3).toInt = 1 ∨ (p &&& 3).toInt = 2 ∨ (p &&& 3).toInt = 3 := by omega
  rcases this with q | q | q | q
  · exact Or.inl (Int32.toInt_inj.mp (q.trans e0.symm))
  · exact Or.inr (Or.inl (Int32.toInt_inj.mp (q.trans e1.symm)))
  · exact Or.inr (Or.inr (Or.inl (Int32.toInt_inj.mp (q.trans e2.symm))))
  · exact Or.inr (Or.inr (Or.inr (Int32.toInt_inj.mp (q.trans e3.symm))))
abbrev In4 (t : Int32) : Prop := t = 0 ∨ t = 1 ∨ t = 2 ∨ t = 3
def chs (l x0 x1 x2 : Int32) : List Int32 := if l = 0 then [] else if l = 1 then [x0] else if l = 2 then [x0, x1] else [x0, x1, x2]
theorem chs_len {l : Int32} (x0 x1 x2 : Int32) (hl : In4 l) : l = Int32.ofNat (chs l x0 x1 x2).length := by rcases hl with rfl | rfl | rfl | rfl <;> rfl
theorem chs_le (l x0 x1 x2 : Int32) : (chs l x0 x1 x2).length ≤ 3 := by
  unfold chs
  split
  · simp
  split
  · simp
  split <;> simp
theorem chs_c8 {l x0 x1 x2 : Int32} (c0 : C8 x0) (c1 : C8 x1) (c2 : C8 x2) : ∀ c ∈ chs l x0 x1 x2, ¬ c < 0 ∧ ¬ (255 : Int32) < c := by
  intro c hc
  unfold chs at hc
  split at hc
  · simp at hc
  split at hc
  · simp only [List.mem_cons, List.not_mem_nil, or_false] at hc; subst hc; exact c0
  split at hc
  · simp only [List.mem_cons, List.not_mem_nil, or_false] at hc; rcases hc with rfl | rfl <;> first | exact c0 | exact c1
  · simp only [List.mem_cons, List.not_mem_nil, or_false] at hc; rcases hc with rfl | rfl | rfl <;> first | exact c0 | exact c1 | exact c2

theorem dPt_0 : decode method_3_code 0 = .ok (.iload_n 0, 1) := by decide +kernel
theorem dPt_1 : decode method_3_code 1 = .ok (.iconst 3, 1) := by decide +kernel
theorem dPt_2 : decode method_3_code 2 = .ok (.iand, 1) := by decide +kernel
theorem dPt_3 : decode method_3_code 3 = .ok (.istore_n 1, 1) := by decide +kernel
theorem dPt_4 : decode method_3_code 4 = .ok (.iload_n 0, 1) := by decide +kernel
theorem dPt_5 : decode method_3_code 5 = .ok (.iconst 2, 1) := by decide +kernel
theorem dPt_6 : decode method_3_code 6 = .ok (.iushr, 1) := by decide +kernel
theorem dPt_7 : decode method_3_code 7 = .ok (.iconst 3, 1) := by decide +kernel
theorem dPt_8 : decode method_3_code 8 = .ok (.iand, 1) := by decide +kernel
theorem dPt_9 : decode method_3_code 9 = .ok (.istore_n 2, 1) := by decide +kernel
theorem dPt_10 : decode method_3_code 10 = .ok (.iload_n 0, 1) := by decide +kernel
theorem dPt_11 : decode method_3_code 11 = .ok (.iconst 4, 1) := by decide +kernel
theorem dPt_12 : decode method_3_code 12 = .ok (.iushr, 1) := by decide +kernel
theorem dPt_13 : decode method_3_code 13 = .ok (.iconst 1, 1) := by decide +kernel
theorem dPt_14 : decode method_3_code 14 = .ok (.iand, 1) := by decide +kernel
theorem dPt_15 : decode method_3_code 15 = .ok (.ifCond .ne 23, 3) := by decide +kernel
theorem dPt_18 : decode method_3_code 18 = .ok (.iconst 1, 1) := by decide +kernel
theorem dPt_19 : decode method_3_code 19 = .ok (.newarray .char, 2) := by decide +kernel
theorem dPt_21 : decode method_3_code 21 = .ok (.astore_n 3, 1) := by decide +kernel
theorem dPt_22 : decode method_3_code 22 = .ok (.aload_n 3, 1) := by decide +kernel
theorem dPt_23 : decode method_3_code 23 = .ok (.iconst 0, 1) := by decide +kernel
theorem dPt_24 : decode method_3_code 24 = .ok (.iload_n 1, 1) := by decide +kernel
theorem dPt_25 : decode method_3_code 25 = .ok (.invokestatic 7, 3) := by decide +kernel
theorem dPt_28 : decode method_3_code 28 = .ok (.castore, 1) := by decide +kernel
theorem dPt_29 : decode method_3_code 29 = .ok (.new 13, 3) := by decide +kernel
theorem dPt_32 : decode method_3_code 32 = .ok (.dup, 1) := by decide +kernel
theorem dPt_33 : decode method_3_code 33 = .ok (.aload_n 3, 1) := by decide +kernel
theorem dPt_34 : decode method_3_code 34 = .ok (.invokespecial 15, 3) := by decide +kernel
theorem dPt_37 : decode method_3_code 37 = .ok (.areturn, 1) := by decide +kernel
theorem dPt_38 : decode method_3_code 38 = .ok (.iconst 2, 1) := by decide +kernel
theorem dPt_39 : decode method_3_code 39 = .ok (.newarray .char, 2) := by decide +kernel
theorem dPt_41 : decode method_3_code 41 = .ok (.astore_n 3, 1) := by decide +kernel
theorem dPt_42 : decode method_3_code 42 = .ok (.aload_n 3, 1) := by decide +kernel
theorem dPt_43 : decode method_3_code 43 = .ok (.iconst 0, 1) := by decide +kernel
theorem dPt_44 : decode method_3_code 44 = .ok (.iload_n 1, 1) := by decide +kernel
theorem dPt_45 : decode method_3_code 45 = .ok (.invokestatic 7, 3) := by decide +kernel
theorem dPt_48 : decode method_3_code 48 = .ok (.castore, 1) := by decide +kernel
theorem dPt_49 : decode method_3_code 49 = .ok (.aload_n 3, 1) := by decide +kernel
theorem dPt_50 : decode method_3_code 50 = .ok (.iconst 1, 1) := by decide +kernel
theorem dPt_51 : decode method_3_code 51 = .ok (.iload_n 2, 1) := by decide +kernel
theorem dPt_52 : decode method_3_code 52 = .ok (.invokestatic 7, 3) := by decide +kernel
theorem dPt_55 : decode method_3_code 55 = .ok (.castore, 1) := by decide +kernel
theorem dPt_56 : decode method_3_code 56 = .ok (.new 13, 3) := by decide +kernel
theorem dPt_59 : decode method_3_code 59 = .ok (.dup, 1) := by decide +kernel
theorem dPt_60 : decode method_3_code 60 = .ok (.aload_n 3, 1) := by decide +kernel
theorem dPt_61 : decode method_3_code 61 = .ok (.invokespecial 15, 3) := by decide +kernel
theorem dPt_64 : decode method_3_code 64 = .ok (.areturn, 1) := by decide +kernel
theorem dCh_0 : decode method_2_code 0 = .ok (.iload_n 0, 1) := by decide +kernel
theorem dCh_1 : decode method_2_code 1 = .ok (.ifCond .ne 6, 3) := by decide +kernel
theorem dCh_4 : decode method_2_code 4 = .ok (.bipush 97, 2) := by decide +kernel
theorem dCh_6 : decode method_2_code 6 = .ok (.ireturn, 1) := by decide +kernel
theorem dCh_7 : decode method_2_code 7 = .ok (.iload_n 0, 1) := by decide +kernel
theorem dCh_8 : decode method_2_code 8 = .ok (.iconst 1, 1) := by decide +kernel
theorem dCh_9 : decode method_2_code 9 = .ok (.if_icmp .ne 6, 3) := by decide +kernel
theorem dCh_12 : decode method_2_code 12 = .ok (.bipush 65, 2) := by decide +kernel
theorem dCh_14 : decode method_2_code 14 = .ok (.ireturn, 1) := by decide +kernel
theorem dCh_15 : decode method_2_code 15 = .ok (.iload_n 0, 1) := by decide +kernel
theorem dCh_16 : decode method_2_code 16 = .ok (.iconst 2, 1) := by decide +kernel
theorem dCh_17 : decode method_2_code 17 = .ok (.if_icmp .ne 6, 3) := by decide +kernel
theorem dCh_20 : decode method_2_code 20 = .ok (.bipush 48, 2) := by decide +kernel
theorem dCh_22 : decode method_2_code 22 = .ok (.ireturn, 1) := by decide +kernel
theorem dCh_23 : decode method_2_code 23 = .ok (.sipush 233, 3) := by decide +kernel
theorem dCh_26 : decode method_2_code 26 = .ok (.ireturn, 1) := by decide +kernel
theorem dSm_0 : decode method_4_code 0 = .ok (.iload_n 0, 1) := by decide +kernel
theorem dSm_1 : decode method_4_code 1 = .ok (.iconst 4, 1) := by decide +kernel
theorem dSm_2 : decode method_4_code 2 = .ok (.iushr, 1) := by decide +kernel
theorem dSm_3 : decode method_4_code 3 = .ok (.iconst 1, 1) := by decide +kernel
theorem dSm_4 : decode method_4_code 4 = .ok (.iand, 1) := by decide +kernel
theorem dSm_5 : decode method_4_code 5 = .ok (.istore_n 2, 1) := by decide +kernel
theorem dSm_6 : decode method_4_code 6 = .ok (.iload_n 1, 1) := by decide +kernel
theorem dSm_7 : decode method_4_code 7 = .ok (.iconst 4, 1) := by decide +kernel
theorem dSm_8 : decode method_4_code 8 = .ok (.iushr, 1) := by decide +kernel
theorem dSm_9 : decode method_4_code 9 = .ok (.iconst 1, 1) := by decide +kernel
theorem dSm_10 : decode method_4_code 10 = .ok (.iand, 1) := by decide +kernel
theorem dSm_11 : decode method_4_code 11 = .ok (.istore_n 3, 1) := by decide +kernel
theorem dSm_12 : decode method_4_code 12 = .ok (.iload_n 2, 1) := by decide +kernel
theorem dSm_13 : decode method_4_code 13 = .ok (.iload_n 3, 1) := by decide +kernel
theorem dSm_14 : decode method_4_code 14 = .ok (.if_icmp .eq 5, 3) := by decide +kernel
theorem dSm_17 : decode method_4_code 17 = .ok (.iconst 0, 1) := by decide +kernel
theorem dSm_18 : decode method_4_code 18 = .ok (.ireturn, 1) := by decide +kernel
theorem dSm_19 : decode method_4_code 19 = .ok (.iload_n 0, 1) := by decide +kernel
theorem dSm_20 : decode method_4_code 20 = .ok (.iconst 3, 1) := by decide +kernel
theorem dSm_21 : decode method_4_code 21 = .ok (.iand, 1) := by decide +kernel
theorem dSm_22 : decode method_4_code 22 = .ok (.iload_n 1, 1) := by decide +kernel
theorem dSm_23 : decode method_4_code 23 = .ok (.iconst 3, 1) := by decide +kernel
theorem dSm_24 : decode method_4_code 24 = .ok (.iand, 1) := by decide +kernel
theorem dSm_25 : decode method_4_code 25 = .ok (.if_icmp .eq 5, 3) := by decide +kernel
theorem dSm_28 : decode method_4_code 28 = .ok (.iconst 0, 1) := by decide +kernel
theorem dSm_29 : decode method_4_code 29 = .ok (.ireturn, 1) := by decide +kernel
theorem dSm_30 : decode method_4_code 30 = .ok (.iload_n 2, 1) := by decide +kernel
theorem dSm_31 : decode method_4_code 31 = .ok (.ifCond .ne 5, 3) := by decide +kernel
theorem dSm_34 : decode method_4_code 34 = .ok (.iconst 1, 1) := by decide +kernel
theorem dSm_35 : decode method_4_code 35 = .ok (.ireturn, 1) := by decide +kernel
theorem dSm_36 : decode method_4_code 36 = .ok (.iload_n 0, 1) := by decide +kernel
theorem dSm_37 : decode method_4_code 37 = .ok (.iconst 2, 1) := by decide +kernel
theorem dSm_38 : decode method_4_code 38 = .ok (.iushr, 1) := by decide +kernel
theorem dSm_39 : decode method_4_code 39 = .ok (.iconst 3, 1) := by decide +kernel
theorem dSm_40 : decode method_4_code 40 = .ok (.iand, 1) := by decide +kernel
theorem dSm_41 : decode method_4_code 41 = .ok (.iload_n 1, 1) := by decide +kernel
theorem dSm_42 : decode method_4_code 42 = .ok (.iconst 2, 1) := by decide +kernel
theorem dSm_43 : decode method_4_code 43 = .ok (.iushr, 1) := by decide +kernel
theorem dSm_44 : decode method_4_code 44 = .ok (.iconst 3, 1) := by decide +kernel
theorem dSm_45 : decode method_4_code 45 = .ok (.iand, 1) := by decide +kernel
theorem dSm_46 : decode method_4_code 46 = .ok (.if_icmp .ne 7, 3) := by decide +kernel
theorem dSm_49 : decode method_4_code 49 = .ok (.iconst 1, 1) := by decide +kernel
theorem dSm_50 : decode method_4_code 50 = .ok (.goto 4, 3) := by decide +kernel
theorem dSm_53 : decode method_4_code 53 = .ok (.iconst 0, 1) := by decide +kernel
theorem dSm_54 : decode method_4_code 54 = .ok (.ireturn, 1) := by decide +kernel
theorem dIn_0 : decode prog_15_method_1_code 0 = .ok (.aload_n 0, 1) := by decide +kernel
theorem dIn_1 : decode prog_15_method_1_code 1 = .ok (.invokespecial 1, 3) := by decide +kernel
theorem dIn_4 : decode prog_15_method_1_code 4 = .ok (.aload_n 0, 1) := by decide +kernel
theorem dIn_5 : decode prog_15_method_1_code 5 = .ok (.aload_n 1, 1) := by decide +kernel
theorem dIn_6 : decode prog_15_method_1_code 6 = .ok (.ldc 7, 2) := by decide +kernel
theorem dIn_8 : decode prog_15_method_1_code 8 = .ok (.invokestatic 9, 3) := by decide +kernel
theorem dIn_11 : decode prog_15_method_1_code 11 = .ok (.putfield 15, 3) := by decide +kernel
theorem dIn_14 : decode prog_15_method_1_code 14 = .ok (.aload_n 0, 1) := by decide +kernel
theorem dIn_15 : decode prog_15_method_1_code 15 = .ok (.aload_n 2, 1) := by decide +kernel
theorem dIn_16 : decode prog_15_method_1_code 16 = .ok (.ldc 19, 2) := by decide +kernel
theorem dIn_18 : decode prog_15_method_1_code 18 = .ok (.invokestatic 9, 3) := by decide +kernel
theorem dIn_21 : decode prog_15_method_1_code 21 = .ok (.putfield 21, 3) := by decide +kernel
theorem dIn_24 : decode prog_15_method_1_code 24 = .ok (.aload_n 0, 1) := by decide +kernel
theorem dIn_25 : decode prog_15_method_1_code 25 = .ok (.aload_n 3, 1) := by decide +kernel
theorem dIn_26 : decode prog_15_method_1_code 26 = .ok (.ldc 24, 2) := by decide +kernel
theorem dIn_28 : decode prog_15_method_1_code 28 = .ok (.invokestatic 9, 3) := by decide +kernel
theorem dIn_31 : decode prog_15_method_1_code 31 = .ok (.putfield 26, 3) := by decide +kernel
theorem dIn_34 : decode prog_15_method_1_code 34 = .ok (.return_, 1) := by decide +kernel
theorem dRq_0 : decode prog_15_method_11_code 0 = .ok (.aload_n 0, 1) := by decide +kernel
theorem dRq_1 : decode prog_15_method_11_code 1 = .ok (.aload_n 1, 1) := by decide +kernel
theorem dRq_2 : decode prog_15_method_11_code 2 = .ok (.invokestatic 31, 3) := by decide +kernel
theorem dRq_5 : decode prog_15_method_11_code 5 = .ok (.pop, 1) := by decide +kernel
theorem dRq_6 : decode prog_15_method_11_code 6 = .ok (.aload_n 0, 1) := by decide +kernel
theorem dRq_7 : decode prog_15_method_11_code 7 = .ok (.invokevirtual 89, 3) := by decide +kernel
theorem dRq_10 : decode prog_15_method_11_code 10 = .ok (.ifCond .eq 17, 3) := by decide +kernel
theorem dRq_13 : decode prog_15_method_11_code 13 = .ok (.new 45, 3) := by decide +kernel
theorem dRq_16 : decode prog_15_method_11_code 16 = .ok (.dup, 1) := by decide +kernel
theorem dRq_17 : decode prog_15_method_11_code 17 = .ok (.aload_n 1, 1) := by decide +kernel
theorem dRq_18 : decode prog_15_method_11_code 18 = .ok (.invokedynamic 93, 5) := by decide +kernel
theorem dRq_23 : decode prog_15_method_11_code 23 = .ok (.invokespecial 49, 3) := by decide +kernel
theorem dRq_26 : decode prog_15_method_11_code 26 = .ok (.athrow, 1) := by decide +kernel
theorem dRq_27 : decode prog_15_method_11_code 27 = .ok (.iconst 0, 1) := by decide +kernel
theorem dRq_28 : decode prog_15_method_11_code 28 = .ok (.istore_n 2, 1) := by decide +kernel
theorem dRq_29 : decode prog_15_method_11_code 29 = .ok (.iload_n 2, 1) := by decide +kernel
theorem dRq_30 : decode prog_15_method_11_code 30 = .ok (.aload_n 0, 1) := by decide +kernel
theorem dRq_31 : decode prog_15_method_11_code 31 = .ok (.invokevirtual 94, 3) := by decide +kernel
theorem dRq_34 : decode prog_15_method_11_code 34 = .ok (.if_icmp .ge 42, 3) := by decide +kernel
theorem dRq_37 : decode prog_15_method_11_code 37 = .ok (.aload_n 0, 1) := by decide +kernel
theorem dRq_38 : decode prog_15_method_11_code 38 = .ok (.iload_n 2, 1) := by decide +kernel
theorem dRq_39 : decode prog_15_method_11_code 39 = .ok (.invokevirtual 98, 3) := by decide +kernel
theorem dRq_42 : decode prog_15_method_11_code 42 = .ok (.istore_n 3, 1) := by decide +kernel
theorem dRq_43 : decode prog_15_method_11_code 43 = .ok (.iload_n 3, 1) := by decide +kernel
theorem dRq_44 : decode prog_15_method_11_code 44 = .ok (.bipush 47, 2) := by decide +kernel
theorem dRq_46 : decode prog_15_method_11_code 46 = .ok (.if_icmp .eq 10, 3) := by decide +kernel
theorem dRq_49 : decode prog_15_method_11_code 49 = .ok (.iload_n 3, 1) := by decide +kernel
theorem dRq_50 : decode prog_15_method_11_code 50 = .ok (.invokestatic 102, 3) := by decide +kernel
theorem dRq_53 : decode prog_15_method_11_code 53 = .ok (.ifCond .eq 17, 3) := by decide +kernel
theorem dRq_56 : decode prog_15_method_11_code 56 = .ok (.new 45, 3) := by decide +kernel
theorem dRq_59 : decode prog_15_method_11_code 59 = .ok (.dup, 1) := by decide +kernel
theorem dRq_60 : decode prog_15_method_11_code 60 = .ok (.aload_n 1, 1) := by decide +kernel
theorem dRq_61 : decode prog_15_method_11_code 61 = .ok (.invokedynamic 108, 5) := by decide +kernel
theorem dRq_66 : decode prog_15_method_11_code 66 = .ok (.invokespecial 49, 3) := by decide +kernel
theorem dRq_69 : decode prog_15_method_11_code 69 = .ok (.athrow, 1) := by decide +kernel
theorem dRq_70 : decode prog_15_method_11_code 70 = .ok (.iinc 2 1, 3) := by decide +kernel
theorem dRq_73 : decode prog_15_method_11_code 73 = .ok (.goto (-44), 3) := by decide +kernel
theorem dRq_76 : decode prog_15_method_11_code 76 = .ok (.aload_n 0, 1) := by decide +kernel
theorem dRq_77 : decode prog_15_method_11_code 77 = .ok (.areturn, 1) := by decide +kernel
theorem dEq_0 : decode prog_15_method_7_code 0 = .ok (.aload_n 0, 1) := by decide +kernel
theorem dEq_1 : decode prog_15_method_7_code 1 = .ok (.aload_n 1, 1) := by decide +kernel
theorem dEq_2 : decode prog_15_method_7_code 2 = .ok (.if_acmp .ne 5, 3) := by decide +kernel
theorem dEq_5 : decode prog_15_method_7_code 5 = .ok (.iconst 1, 1) := by decide +kernel
theorem dEq_6 : decode prog_15_method_7_code 6 = .ok (.ireturn, 1) := by decide +kernel
theorem dEq_7 : decode prog_15_method_7_code 7 = .ok (.aload_n 1, 1) := by decide +kernel
theorem dEq_8 : decode prog_15_method_7_code 8 = .ok (.instanceof 10, 3) := by decide +kernel
theorem dEq_11 : decode prog_15_method_7_code 11 = .ok (.ifCond .ne 5, 3) := by decide +kernel
theorem dEq_14 : decode prog_15_method_7_code 14 = .ok (.iconst 0, 1) := by decide +kernel
theorem dEq_15 : decode prog_15_method_7_code 15 = .ok (.ireturn, 1) := by decide +kernel
theorem dEq_16 : decode prog_15_method_7_code 16 = .ok (.aload_n 1, 1) := by decide +kernel
theorem dEq_17 : decode prog_15_method_7_code 17 = .ok (.checkcast 10, 3) := by decide +kernel
theorem dEq_20 : decode prog_15_method_7_code 20 = .ok (.astore_n 2, 1) := by decide +kernel
theorem dEq_21 : decode prog_15_method_7_code 21 = .ok (.aload_n 0, 1) := by decide +kernel
theorem dEq_22 : decode prog_15_method_7_code 22 = .ok (.getfield 15, 3) := by decide +kernel
theorem dEq_25 : decode prog_15_method_7_code 25 = .ok (.aload_n 2, 1) := by decide +kernel
theorem dEq_26 : decode prog_15_method_7_code 26 = .ok (.getfield 15, 3) := by decide +kernel
theorem dEq_29 : decode prog_15_method_7_code 29 = .ok (.invokevirtual 64, 3) := by decide +kernel
theorem dEq_32 : decode prog_15_method_7_code 32 = .ok (.ifCond .eq 35, 3) := by decide +kernel
theorem dEq_35 : decode prog_15_method_7_code 35 = .ok (.aload_n 0, 1) := by decide +kernel
theorem dEq_36 : decode prog_15_method_7_code 36 = .ok (.getfield 21, 3) := by decide +kernel
theorem dEq_39 : decode prog_15_method_7_code 39 = .ok (.aload_n 2, 1) := by decide +kernel
theorem dEq_40 : decode prog_15_method_7_code 40 = .ok (.getfield 21, 3) := by decide +kernel
theorem dEq_43 : decode prog_15_method_7_code 43 = .ok (.invokevirtual 64, 3) := by decide +kernel
theorem dEq_46 : decode prog_15_method_7_code 46 = .ok (.ifCond .eq 21, 3) := by decide +kernel
theorem dEq_49 : decode prog_15_method_7_code 49 = .ok (.aload_n 0, 1) := by decide +kernel
theorem dEq_50 : decode prog_15_method_7_code 50 = .ok (.getfield 26, 3) := by decide +kernel
theorem dEq_53 : decode prog_15_method_7_code 53 = .ok (.aload_n 2, 1) := by decide +kernel
theorem dEq_54 : decode prog_15_method_7_code 54 = .ok (.getfield 26, 3) := by decide +kernel
theorem dEq_57 : decode prog_15_method_7_code 57 = .ok (.invokevirtual 64, 3) := by decide +kernel
theorem dEq_60 : decode prog_15_method_7_code 60 = .ok (.ifCond .eq 7, 3) := by decide +kernel
theorem dEq_63 : decode prog_15_method_7_code 63 = .ok (.iconst 1, 1) := by decide +kernel
theorem dEq_64 : decode prog_15_method_7_code 64 = .ok (.goto 4, 3) := by decide +kernel
theorem dEq_67 : decode prog_15_method_7_code 67 = .ok (.iconst 0, 1) := by decide +kernel
theorem dEq_68 : decode prog_15_method_7_code 68 = .ok (.ireturn, 1) := by decide +kernel
theorem dR_0 : decode jdk_31_method_11_code 0 = .ok (.aload_n 0, 1) := by decide +kernel
theorem dR_1 : decode jdk_31_method_11_code 1 = .ok (.ifnonnull 12, 3) := by decide +kernel
theorem dR_4 : decode jdk_31_method_11_code 4 = .ok (.new 84, 3) := by decide +kernel
theorem dR_7 : decode jdk_31_method_11_code 7 = .ok (.dup, 1) := by decide +kernel
theorem dR_8 : decode jdk_31_method_11_code 8 = .ok (.aload_n 1, 1) := by decide +kernel
theorem dR_9 : decode jdk_31_method_11_code 9 = .ok (.invokespecial 87, 3) := by decide +kernel
theorem dR_12 : decode jdk_31_method_11_code 12 = .ok (.athrow, 1) := by decide +kernel
theorem dR_13 : decode jdk_31_method_11_code 13 = .ok (.aload_n 0, 1) := by decide +kernel
theorem dR_14 : decode jdk_31_method_11_code 14 = .ok (.areturn, 1) := by decide +kernel
theorem dI1_0 : decode jdk_89_method_88_code 0 = .ok (.iload_n 0, 1) := by decide +kernel
theorem dI1_1 : decode jdk_89_method_88_code 1 = .ok (.invokestatic 266, 3) := by decide +kernel
theorem dI1_4 : decode jdk_89_method_88_code 4 = .ok (.ireturn, 1) := by decide +kernel
theorem dI2_0 : decode jdk_89_method_89_code 0 = .ok (.iload_n 0, 1) := by decide +kernel
theorem dI2_1 : decode jdk_89_method_89_code 1 = .ok (.sipush 159, 3) := by decide +kernel
theorem dI2_4 : decode jdk_89_method_89_code 4 = .ok (.if_icmp .gt 19, 3) := by decide +kernel
theorem dI2_7 : decode jdk_89_method_89_code 7 = .ok (.iload_n 0, 1) := by decide +kernel
theorem dI2_8 : decode jdk_89_method_89_code 8 = .ok (.bipush 127, 2) := by decide +kernel
theorem dI2_10 : decode jdk_89_method_89_code 10 = .ok (.if_icmp .ge 9, 3) := by decide +kernel
theorem dI2_13 : decode jdk_89_method_89_code 13 = .ok (.iload_n 0, 1) := by decide +kernel
theorem dI2_14 : decode jdk_89_method_89_code 14 = .ok (.iconst 5, 1) := by decide +kernel
theorem dI2_15 : decode jdk_89_method_89_code 15 = .ok (.iushr, 1) := by decide +kernel
theorem dI2_16 : decode jdk_89_method_89_code 16 = .ok (.ifCond .ne 7, 3) := by decide +kernel
theorem dI2_19 : decode jdk_89_method_89_code 19 = .ok (.iconst 1, 1) := by decide +kernel
theorem dI2_20 : decode jdk_89_method_89_code 20 = .ok (.goto 4, 3) := by decide +kernel
theorem dI2_23 : decode jdk_89_method_89_code 23 = .ok (.iconst 0, 1) := by decide +kernel
theorem dI2_24 : decode jdk_89_method_89_code 24 = .ok (.ireturn, 1) := by decide +kernel
theorem pd_0 : parseMethodDescriptor "(I)Ljava/lang/String;" = some ⟨[.int], (some (.object "java/lang/String"))⟩ := by decide +kernel
theorem pd_1 : parseMethodDescriptor "(I)C" = some ⟨[.int], (some .char)⟩ := by decide +kernel
theorem pd_2 : parseMethodDescriptor "(II)Z" = some ⟨[.int, .int], (some .boolean)⟩ := by decide +kernel
theorem pd_3 : parseMethodDescriptor "(Ljava/lang/String;Ljava/lang/String;Ljava/lang/String;)V" = some ⟨[(.object "java/lang/String"), (.object "java/lang/String"), (.object "java/lang/String")], none⟩ := by decide +kernel
theorem pd_4 : parseMethodDescriptor "(Ljava/lang/String;Ljava/lang/String;)Ljava/lang/String;" = some ⟨[(.object "java/lang/String"), (.object "java/lang/String")], (some (.object "java/lang/String"))⟩ := by decide +kernel
theorem pd_5 : parseMethodDescriptor "(Ljava/lang/Object;)Z" = some ⟨[(.object "java/lang/Object")], (some .boolean)⟩ := by decide +kernel
theorem pd_6 : parseMethodDescriptor "(Ljava/lang/Object;Ljava/lang/String;)Ljava/lang/Object;" = some ⟨[(.object "java/lang/Object"), (.object "java/lang/String")], (some (.object "java/lang/Object"))⟩ := by decide +kernel
theorem pd_7 : parseMethodDescriptor "(C)Z" = some ⟨[.char], (some .boolean)⟩ := by decide +kernel
theorem pd_8 : parseMethodDescriptor "(I)Z" = some ⟨[.int], (some .boolean)⟩ := by decide +kernel
theorem pd_9 : parseMethodDescriptor "(Ljava/lang/Object;)Z" = some ⟨[(.object "java/lang/Object")], (some .boolean)⟩ := by decide +kernel
theorem pd_10 : parseMethodDescriptor "(I)C" = some ⟨[.int], (some .char)⟩ := by decide +kernel
theorem pd_11 : parseMethodDescriptor "()I" = some ⟨[], (some .int)⟩ := by decide +kernel
theorem pd_12 : parseMethodDescriptor "()Z" = some ⟨[], (some .boolean)⟩ := by decide +kernel
theorem pd_13 : parseMethodDescriptor "([C)V" = some ⟨[(.array .char)], none⟩ := by decide +kernel
theorem pnL : plainName "com/example/austere_broker/austerebroker/ProviderNameEqualsPinLaw" = true := by first | (simp [plainName, overriddenIn]; done) | decide +kernel
theorem pnP : plainName "com/example/austere_broker/austerebroker/ProviderName" = true := by first | (simp [plainName, overriddenIn]; done) | decide +kernel
theorem pnR : plainName "java/util/Objects" = true := by first | (simp [plainName, overriddenIn]; done) | decide +kernel
theorem pnC : plainName "java/lang/Character" = true := by first | (simp [plainName, overriddenIn]; done) | decide +kernel
abbrev rm0 : Room := { frames := 0, cells := 0, slots := 0, locals := 0 }
abbrev Good (c : Int32) : Prop := c = 97 ∨ c = 65 ∨ c = 48 ∨ c = 233
theorem Good.c8 {c : Int32} (h : Good c) : C8 c := by rcases h with rfl | rfl | rfl | rfl <;> decide
def chf (k : Int32) : Int32 := if k = 0 then 97 else if k = 1 then 65 else if k = 2 then 48 else 233
theorem chf_good (k : Int32) : Good (chf k) := by
  unfold chf
  split
  · exact Or.inl rfl
  split
  · exact Or.inr (Or.inl rfl)
  split
  · exact Or.inr (Or.inr (Or.inl rfl))
  · exact Or.inr (Or.inr (Or.inr rfl))
theorem chf_inj {a b : Int32} (ha : In4 a) (hb : In4 b) : chf a = chf b ↔ a = b := by rcases ha with rfl | rfl | rfl | rfl <;> rcases hb with rfl | rfl | rfl | rfl <;> decide
set_option maxRecDepth 65536 in
set_option maxHeartbeats 4000000 in
theorem metCh {Z : State} {a0 : Array Value} {n0 : Nat} {h : Heap} (hw : ∀ d ∈ tables_1, d.before a0 Z = true) (hO : Old Z n0 h) (k : Int32) :
    Met Z [] n0 ⟨"com/example/austere_broker/austerebroker/ProviderNameEqualsPinLaw", "ch", "(I)C"⟩ method_2_code 1 (some .char) rm0 #[.int k] h [] (fun v h' => v = some (.int (chf k)) ∧ h' = h) := by
  have w : ∀ (i : Nat) {d : Jvm.Cond}, tables_1[i]? = some d → d.before a0 Z = true := fun i d q => hw d (List.mem_of_getElem? q)
  have hEL : EW Z a0 [] := EW.nil
  refine Met.of_walk (a0 := a0) pnL hEL hO all0 (L0 := #[.val (.int k)]) (fun m => by first | (simp [entryFrame, mkF, argsToLocals, Value.category, maxLocals]; done) | rfl) rfl ?_
  intro kk H0
  have H1 := H0.iloadN 1 dCh_0 rfl
  by_cases e0 : k = 0
  · have H2 := H1.ifNo 4 dCh_1 (XT.i0_ne_f e0)
    have H3 := H2.bipush 6 (97 : Int32) dCh_4
    exact H3.retI rfl rfl (by simp) dCh_6 (by decide) (by decide) ⟨by simp [chf, e0], rfl⟩
  · have H4 := H1.ifYes 7 dCh_1 (XT.i0_ne_t e0)
    have H5 := H4.iloadN 8 dCh_7 rfl
    have H6 := H5.iconst 9 (1 : Int32) dCh_8
    by_cases e1 : k = 1
    · have H7 := H6.icmpNo 12 dCh_9 (XT.ii_ne_f e1)
      have H8 := H7.bipush 14 (65 : Int32) dCh_12
      exact H8.retI rfl rfl (by simp) dCh_14 (by decide) (by decide) ⟨by simp [chf, e0, e1], rfl⟩
    · have H9 := H6.icmpYes 15 dCh_9 (XT.ii_ne_t e1)
      have H10 := H9.iloadN 16 dCh_15 rfl
      have H11 := H10.iconst 17 (2 : Int32) dCh_16
      by_cases e2 : k = 2
      · have H12 := H11.icmpNo 20 dCh_17 (XT.ii_ne_f e2)
        have H13 := H12.bipush 22 (48 : Int32) dCh_20
        exact H13.retI rfl rfl (by simp) dCh_22 (by decide) (by decide) ⟨by simp [chf, e0, e1, e2], rfl⟩
      · have H14 := H11.icmpYes 23 dCh_17 (XT.ii_ne_t e2)
        have H15 := H14.sipush 26 (233 : Int32) dCh_23
        exact H15.retI rfl rfl (by simp) dCh_26 (by decide) (by decide) ⟨by simp [chf, e0, e1, e2], rfl⟩
def lb (x : Int32) : Int32 := ((x.toUInt32 >>> ((4 : Int32) &&& 31).toUInt32).toInt32 &&& (1 : Int32))
def k0 (x : Int32) : Int32 := (x &&& (3 : Int32))
def k1 (x : Int32) : Int32 := ((x.toUInt32 >>> ((2 : Int32) &&& 31).toUInt32).toInt32 &&& (3 : Int32))
def prt (x : Int32) : List Int32 := if lb x = 0 then [chf (k0 x)] else [chf (k0 x), chf (k1 x)]
abbrev rmPt : Room := { frames := 4, cells := 3, slots := 8, locals := 66 }
set_option maxRecDepth 65536 in
set_option maxHeartbeats 4000000 in
theorem metPt {Z : State} {a0 : Array Value} {n0 : Nat} {h : Heap} (hw : ∀ d ∈ tables_1, d.before a0 Z = true) (hO : Old Z n0 h) {zc : Int32} (Sc : Sta Z Z.heap ST "COMPACT_STRINGS" "Z" (.int zc)) (hzc : ¬ zc = 0) (x : Int32) :
    Met Z [] n0 ⟨"com/example/austere_broker/austerebroker/ProviderNameEqualsPinLaw", "part", "(I)Ljava/lang/String;"⟩ method_3_code 4 (some (.object "java/lang/String")) rmPt #[.int x] h [] (fun v h' => ∃ s, v = some (.ref s) ∧ Str Z h' s (prt x)) := by
  have w : ∀ (i : Nat) {d : Jvm.Cond}, tables_1[i]? = some d → d.before a0 Z = true := fun i d q => hw d (List.mem_of_getElem? q)
  have hEL : EW Z a0 [] := EW.nil
  have hws : ∀ d ∈ StrChars.Road.words, d.before a0 Z = true := fun d hd => hw d ((by decide +kernel : ∀ d ∈ StrChars.Road.words, d ∈ tables_1) d hd)
  refine Met.of_walk (a0 := a0) pnL hEL hO all0 (L0 := #[.val (.int x), .unset, .unset, .unset]) (fun m => by first | (simp [entryFrame, mkF, argsToLocals, Value.category, maxLocals]; done) | rfl) rfl ?_
  intro k H0
  have H1 := H0.iloadN 1 dPt_0 rfl
  have H2 := H1.iconst 2 (3 : Int32) dPt_1
  have H3 := H2.iand 3 dPt_2
  generalize hy0 : (x &&& (3 : Int32)) = y0 at H3
  have H4 := H3.istoreN 4 dPt_3 (L' := #[.val (.int x), .val (.int y0), .unset, .unset]) rfl
  have H5 := H4.iloadN 5 dPt_4 rfl
  have H6 := H5.iconst 6 (2 : Int32) dPt_5
  have H7 := H6.iushr 7 dPt_6
  have H8 := H7.iconst 8 (3 : Int32) dPt_7
  have H9 := H8.iand 9 dPt_8
  generalize hy1 : ((x.toUInt32 >>> ((2 : Int32) &&& 31).toUInt32).toInt32 &&& (3 : Int32)) = y1 at H9
  have H10 := H9.istoreN 10 dPt_9 (L' := #[.val (.int x), .val (.int y0), .val (.int y1), .unset]) rfl
  have H11 := H10.iloadN 11 dPt_10 rfl
  have H12 := H11.iconst 12 (4 : Int32) dPt_11
  have H13 := H12.iushr 13 dPt_12
  have H14 := H13.iconst 14 (1 : Int32) dPt_13
  have H15 := H14.iand 15 dPt_14
  by_cases hl : ((x.toUInt32 >>> ((4 : Int32) &&& 31).toUInt32).toInt32 &&& (1 : Int32)) = 0
  · have H16 := H15.ifNo 18 dPt_15 (XT.i0_ne_f hl)
    have H17 := H16.iconst 19 (1 : Int32) dPt_18
    obtain ⟨b1, h1, k1, g1, E1, V1, H18⟩ := H17.newP 21 (ty := .char) rfl (w 7 rfl) dPt_19 (by decide) (cap := 1) (by decide) (by decide) (by decide) (by decide)
    have H19 := H18.astoreN 22 dPt_21 (L' := #[.val (.int x), .val (.int y0), .val (.int y1), .val (.ref b1)]) rfl
    have H20 := H19.aloadN 23 dPt_22 rfl
    have H21 := H20.iconst 24 (0 : Int32) dPt_23
    have H22 := H21.iloadN 25 dPt_24 rfl
    obtain ⟨_, hc0, ⟨rfl, e0⟩, Kc0, H23⟩ := H22.callS 28 (z := ⟨"com/example/austere_broker/austerebroker/ProviderNameEqualsPinLaw", "ch", "(I)C"⟩) (w 8 rfl) (w 9 rfl) (w 5 rfl) (w 10 rfl) (by decide) (argsL := [(.int y0)]) (rest := [(.int (0 : Int32)), (.ref b1)]) (Paid.of_met (W := 2) (metCh hw H22.oldO y0) (w 10 rfl) (w 5 rfl) hEL (by decide) (by decide)) (lenOf pd_1 rfl) rfl (Nat.le_of_eq rfl) dPt_25 (by decide) (by decide) all0
    subst e0
    obtain ⟨h20, K20, V20, H24⟩ := H23.stC 29 V1 0 ⟨by decide, by decide⟩ rfl (by simp) (chf_good y0).c8.nar dPt_28 (by simp)
    obtain ⟨b4, h4, g4, E4, A4, D4, H25⟩ := H24.newO 32 (w 11 rfl) (w 12 rfl) (w 13 rfl) dPt_29 (by decide) (by decide)
    have H26 := H25.dup 33 dPt_32
    have H27 := H26.aloadN 34 dPt_33 rfl
    have F4 : Fld Z h4 b4 ST "value" "[B" .null := D4 (Or.inr (w 39 rfl)) (ty := .array .byte) (by decide)
    have G4 : Fld Z h4 b4 ST "coder" "B" (.int 0) := D4 (Or.inr (w 37 rfl)) (ty := .byte) (by decide)
    have hp : ∀ c ∈ ([chf y0] : List Int32), ¬ c < 0 ∧ ¬ (255 : Int32) < c := by
      intro c hc; simp only [List.mem_cons, List.not_mem_nil, or_false] at hc
      subst hc; exact (chf_good y0).c8
    obtain ⟨_, h5, ⟨rfl, S5⟩, K5, H28⟩ := H27.callI 37 (z := ⟨"java/lang/String", "<init>", "([C)V"⟩) rfl (w 14 rfl) (w 15 rfl) (w 16 rfl) (by decide) (a := b4) (argsL := [.ref b1]) (rest := [.ref b4])
      (payV (W := 1) (cs := [chf y0]) (n := 1) hEL hws (w 12 rfl) H27.oldO (H27.sf_lt (by simp)).2 A4 F4 G4 (V20.ext E4) Sc hzc rfl rfl (by decide) (by decide) hp (by decide) (by decide)) (lenOf pd_13 rfl) rfl (Nat.le_of_eq rfl) dPt_34 (by decide) (by decide) (by simp)
    exact H28.retA rfl rfl rfl dPt_37 (by decide) (by decide) ⟨b4, rfl, (by subst hy0 hy1; rw [prt, if_pos (show lb x = 0 from hl)]; exact S5)⟩
  · have H29 := H15.ifYes 38 dPt_15 (XT.i0_ne_t hl)
    have H30 := H29.iconst 39 (2 : Int32) dPt_38
    obtain ⟨b1, h1, k1, g1, E1, V1, H31⟩ := H30.newP 41 (ty := .char) rfl (w 7 rfl) dPt_39 (by decide) (cap := 2) (by decide) (by decide) (by decide) (by decide)
    have H32 := H31.astoreN 42 dPt_41 (L' := #[.val (.int x), .val (.int y0), .val (.int y1), .val (.ref b1)]) rfl
    have H33 := H32.aloadN 43 dPt_42 rfl
    have H34 := H33.iconst 44 (0 : Int32) dPt_43
    have H35 := H34.iloadN 45 dPt_44 rfl
    obtain ⟨_, hc0, ⟨rfl, e0⟩, Kc0, H36⟩ := H35.callS 48 (z := ⟨"com/example/austere_broker/austerebroker/ProviderNameEqualsPinLaw", "ch", "(I)C"⟩) (w 8 rfl) (w 9 rfl) (w 5 rfl) (w 10 rfl) (by decide) (argsL := [(.int y0)]) (rest := [(.int (0 : Int32)), (.ref b1)]) (Paid.of_met (W := 2) (metCh hw H35.oldO y0) (w 10 rfl) (w 5 rfl) hEL (by decide) (by decide)) (lenOf pd_1 rfl) rfl (Nat.le_of_eq rfl) dPt_45 (by decide) (by decide) all0
    subst e0
    obtain ⟨h20, K20, V20, H37⟩ := H36.stC 49 V1 0 ⟨by decide, by decide⟩ rfl (by simp) (chf_good y0).c8.nar dPt_48 (by simp)
    have H38 := H37.aloadN 50 dPt_49 rfl
    have H39 := H38.iconst 51 (1 : Int32) dPt_50
    have H40 := H39.iloadN 52 dPt_51 rfl
    obtain ⟨_, hc1, ⟨rfl, e1⟩, Kc1, H41⟩ := H40.callS 55 (z := ⟨"com/example/austere_broker/austerebroker/ProviderNameEqualsPinLaw", "ch", "(I)C"⟩) (w 8 rfl) (w 9 rfl) (w 5 rfl) (w 10 rfl) (by decide) (argsL := [(.int y1)]) (rest := [(.int (1 : Int32)), (.ref b1)]) (Paid.of_met (W := 2) (metCh hw H40.oldO y1) (w 10 rfl) (w 5 rfl) hEL (by decide) (by decide)) (lenOf pd_1 rfl) rfl (Nat.le_of_eq rfl) dPt_52 (by decide) (by decide) all0
    subst e1
    obtain ⟨h21, K21, V21, H42⟩ := H41.stC 56 V20 1 ⟨by decide, by decide⟩ rfl (by simp) (chf_good y1).c8.nar dPt_55 (by simp)
    obtain ⟨b4, h4, g4, E4, A4, D4, H43⟩ := H42.newO 59 (w 11 rfl) (w 12 rfl) (w 13 rfl) dPt_56 (by decide) (by decide)
    have H44 := H43.dup 60 dPt_59
    have H45 := H44.aloadN 61 dPt_60 rfl
    have F4 : Fld Z h4 b4 ST "value" "[B" .null := D4 (Or.inr (w 39 rfl)) (ty := .array .byte) (by decide)
    have G4 : Fld Z h4 b4 ST "coder" "B" (.int 0) := D4 (Or.inr (w 37 rfl)) (ty := .byte) (by decide)
    have hp : ∀ c ∈ ([chf y0, chf y1] : List Int32), ¬ c < 0 ∧ ¬ (255 : Int32) < c := by
      intro c hc; simp only [List.mem_cons, List.not_mem_nil, or_false] at hc
      rcases hc with rfl | rfl
      · exact (chf_good y0).c8
      · exact (chf_good y1).c8
    obtain ⟨_, h5, ⟨rfl, S5⟩, K5, H46⟩ := H45.callI 64 (z := ⟨"java/lang/String", "<init>", "([C)V"⟩) rfl (w 14 rfl) (w 15 rfl) (w 16 rfl) (by decide) (a := b4) (argsL := [.ref b1]) (rest := [.ref b4])
      (payV (W := 1) (cs := [chf y0, chf y1]) (n := 2) hEL hws (w 12 rfl) H45.oldO (H45.sf_lt (by simp)).2 A4 F4 G4 (V21.ext E4) Sc hzc rfl rfl (by decide) (by decide) hp (by decide) (by decide)) (lenOf pd_13 rfl) rfl (Nat.le_of_eq rfl) dPt_61 (by decide) (by decide) (by simp)
    exact H46.retA rfl rfl rfl dPt_64 (by decide) (by decide) ⟨b4, rfl, (by subst hy0 hy1; rw [prt, if_neg (show ¬ lb x = 0 from hl)]; exact S5)⟩
set_option maxRecDepth 65536 in
set_option maxHeartbeats 4000000 in
theorem metR {Z : State} {a0 : Array Value} {n0 : Nat} {h : Heap} (hw : ∀ d ∈ tables_1, d.before a0 Z = true) (hO : Old Z n0 h) {o t : Addr} :
    Met Z [] n0 ⟨"java/util/Objects", "requireNonNull", "(Ljava/lang/Object;Ljava/lang/String;)Ljava/lang/Object;"⟩ jdk_31_method_11_code 2 (some (.object "java/lang/Object")) rm0 #[.ref o, .ref t] h [] (fun v h' => v = some (.ref o) ∧ h' = h) := by
  have w : ∀ (i : Nat) {d : Jvm.Cond}, tables_1[i]? = some d → d.before a0 Z = true := fun i d q => hw d (List.mem_of_getElem? q)
  have hEL : EW Z a0 [] := EW.nil
  refine Met.of_walk (a0 := a0) pnR hEL hO all0 (L0 := #[.val (.ref o), .val (.ref t)]) (fun m => by first | (simp [entryFrame, mkF, argsToLocals, Value.category, maxLocals]; done) | rfl) rfl ?_
  intro k H0
  have H1 := H0.aloadN 1 dR_0 rfl
  have H2 := H1.nonnullYes 13 dR_1
  have H3 := H2.aloadN 14 dR_13 rfl
  exact H3.retA rfl rfl rfl dR_14 (by decide) (by decide) ⟨rfl, rfl⟩
abbrev rmI1 : Room := { frames := 1, cells := 0, slots := 0, locals := 12 }
set_option maxRecDepth 65536 in
set_option maxHeartbeats 4000000 in
theorem metI2 {Z : State} {a0 : Array Value} {n0 : Nat} {h : Heap} (hw : ∀ d ∈ tables_1, d.before a0 Z = true) (hO : Old Z n0 h) {c : Int32} (hc : Good c) :
    Met Z [] n0 ⟨"java/lang/Character", "isISOControl", "(I)Z"⟩ jdk_89_method_89_code 1 (some .boolean) rm0 #[.int c] h [] (fun v h' => v = some (.int 0) ∧ h' = h) := by
  have w : ∀ (i : Nat) {d : Jvm.Cond}, tables_1[i]? = some d → d.before a0 Z = true := fun i d q => hw d (List.mem_of_getElem? q)
  have hEL : EW Z a0 [] := EW.nil
  refine Met.of_walk (a0 := a0) pnC hEL hO all0 (L0 := #[.val (.int c)]) (fun m => by first | (simp [entryFrame, mkF, argsToLocals, Value.category, maxLocals]; done) | rfl) rfl ?_
  intro k H0
  rcases hc with rfl | rfl | rfl | rfl
  · have H1 := H0.iloadN 1 dI2_0 rfl
    have H2 := H1.sipush 4 (159 : Int32) dI2_1
    have H3 := H2.icmpNo 7 dI2_4 (by decide)
    have H4 := H3.iloadN 8 dI2_7 rfl
    have H5 := H4.bipush 10 (127 : Int32) dI2_8
    have H6 := H5.icmpNo 13 dI2_10 (by decide)
    have H7 := H6.iloadN 14 dI2_13 rfl
    have H8 := H7.iconst 15 (5 : Int32) dI2_14
    have H9 := H8.iushr 16 dI2_15
    have H10 := H9.ifYes 23 dI2_16 (by decide)
    have H11 := H10.iconst 24 (0 : Int32) dI2_23
    exact H11.retI rfl rfl (by simp) dI2_24 (by decide) (by decide) ⟨rfl, rfl⟩
  · have H1 := H0.iloadN 1 dI2_0 rfl
    have H2 := H1.sipush 4 (159 : Int32) dI2_1
    have H3 := H2.icmpNo 7 dI2_4 (by decide)
    have H4 := H3.iloadN 8 dI2_7 rfl
    have H5 := H4.bipush 10 (127 : Int32) dI2_8
    have H6 := H5.icmpNo 13 dI2_10 (by decide)
    have H7 := H6.iloadN 14 dI2_13 rfl
    have H8 := H7.iconst 15 (5 : Int32) dI2_14
    have H9 := H8.iushr 16 dI2_15
    have H10 := H9.ifYes 23 dI2_16 (by decide)
    have H11 := H10.iconst 24 (0 : Int32) dI2_23
    exact H11.retI rfl rfl (by simp) dI2_24 (by decide) (by decide) ⟨rfl, rfl⟩
  · have H1 := H0.iloadN 1 dI2_0 rfl
    have H2 := H1.sipush 4 (159 : Int32) dI2_1
    have H3 := H2.icmpNo 7 dI2_4 (by decide)
    have H4 := H3.iloadN 8 dI2_7 rfl
    have H5 := H4.bipush 10 (127 : Int32) dI2_8
    have H6 := H5.icmpNo 13 dI2_10 (by decide)
    have H7 := H6.iloadN 14 dI2_13 rfl
    have H8 := H7.iconst 15 (5 : Int32) dI2_14
    have H9 := H8.iushr 16 dI2_15
    have H10 := H9.ifYes 23 dI2_16 (by decide)
    have H11 := H10.iconst 24 (0 : Int32) dI2_23
    exact H11.retI rfl rfl (by simp) dI2_24 (by decide) (by decide) ⟨rfl, rfl⟩
  · have H1 := H0.iloadN 1 dI2_0 rfl
    have H2 := H1.sipush 4 (159 : Int32) dI2_1
    have H3 := H2.icmpYes 23 dI2_4 (by decide)
    have H4 := H3.iconst 24 (0 : Int32) dI2_23
    exact H4.retI rfl rfl (by simp) dI2_24 (by decide) (by decide) ⟨rfl, rfl⟩
set_option maxRecDepth 65536 in
set_option maxHeartbeats 4000000 in
theorem metI1 {Z : State} {a0 : Array Value} {n0 : Nat} {h : Heap} (hw : ∀ d ∈ tables_1, d.before a0 Z = true) (hO : Old Z n0 h) {c : Int32} (hc : Good c) :
    Met Z [] n0 ⟨"java/lang/Character", "isISOControl", "(C)Z"⟩ jdk_89_method_88_code 1 (some .boolean) rmI1 #[.int c] h [] (fun v h' => v = some (.int 0) ∧ h' = h) := by
  have w : ∀ (i : Nat) {d : Jvm.Cond}, tables_1[i]? = some d → d.before a0 Z = true := fun i d q => hw d (List.mem_of_getElem? q)
  have hEL : EW Z a0 [] := EW.nil
  refine Met.of_walk (a0 := a0) pnC hEL hO all0 (L0 := #[.val (.int c)]) (fun m => by first | (simp [entryFrame, mkF, argsToLocals, Value.category, maxLocals]; done) | rfl) rfl ?_
  intro k H0
  have H1 := H0.iloadN 1 dI1_0 rfl
  obtain ⟨_, h1, ⟨rfl, e1⟩, K1, H2⟩ := H1.callS 4 (z := ⟨"java/lang/Character", "isISOControl", "(I)Z"⟩) (w 95 rfl) (w 96 rfl) (w 93 rfl) (w 97 rfl) (by decide) (argsL := [(.int c)]) (rest := []) (Paid.of_met (W := 0) (metI2 hw H1.oldO hc) (w 97 rfl) (w 93 rfl) hEL (by decide) (by decide)) (lenOf pd_8 rfl) rfl (Nat.le_of_eq rfl) dI1_1 (by decide) (by decide) all0
  subst e1
  exact H2.retI rfl rfl (by simp) dI1_4 (by decide) (by decide) ⟨rfl, rfl⟩
abbrev rmRq : Room := { frames := 4, cells := 0, slots := 0, locals := 54 }
set_option maxRecDepth 65536 in
set_option maxHeartbeats 4000000 in
theorem metRq1 {Z : State} {a0 : Array Value} {n0 : Nat} {h : Heap} (hw : ∀ d ∈ tables_1, d.before a0 Z = true) (hO : Old Z n0 h) {zc : Int32} (Sc : Sta Z Z.heap ST "COMPACT_STRINGS" "Z" (.int zc)) (hzc : ¬ zc = 0) {fm : Value} (Sf : Sta Z Z.heap "jdk/internal/util/Preconditions" "SIOOBE_FORMATTER" "Ljava/util/function/BiFunction;" fm) (rf : fm.isRef = true) {s t : Addr} {c0 : Int32} (d0 : Good c0) (S : Str Z h s [c0]) :
    Met Z [] n0 ⟨"com/example/austere_broker/austerebroker/ProviderName", "requirePart", "(Ljava/lang/String;Ljava/lang/String;)Ljava/lang/String;"⟩ prog_15_method_11_code 4 (some (.object "java/lang/String")) rmRq #[.ref s, .ref t] h [] (fun v h' => v = some (.ref s) ∧ h' = h) := by
  have w : ∀ (i : Nat) {d : Jvm.Cond}, tables_1[i]? = some d → d.before a0 Z = true := fun i d q => hw d (List.mem_of_getElem? q)
  have hEL : EW Z a0 [] := EW.nil
  have hem : ∀ d ∈ StrChars.Road.wordsEmp, d.before a0 Z = true := fun d hd => hw d ((by decide +kernel : ∀ d ∈ StrChars.Road.wordsEmp, d ∈ tables_1) d hd)
  have hln : ∀ d ∈ StrChars.Road.wordsLen, d.before a0 Z = true := fun d hd => hw d ((by decide +kernel : ∀ d ∈ StrChars.Road.wordsLen, d ∈ tables_1) d hd)
  have hch : ∀ d ∈ StrChars.Road.wordsChN, d.before a0 Z = true := fun d hd => hw d ((by decide +kernel : ∀ d ∈ StrChars.Road.wordsChN, d ∈ tables_1) d hd)
  have h8 : ∀ c ∈ ([c0] : List Int32), ¬ (255 : Int32) < c := by
    intro c hc; simp only [List.mem_cons, List.not_mem_nil, or_false] at hc
    subst hc; exact d0.c8.2
  have g0 : ¬ c0 = 47 := by rcases d0 with rfl | rfl | rfl | rfl <;> decide
  refine Met.of_walk (a0 := a0) pnP hEL hO all0 (L0 := #[.val (.ref s), .val (.ref t), .unset, .unset]) (fun m => by first | (simp [entryFrame, mkF, argsToLocals, Value.category, maxLocals]; done) | rfl) rfl ?_
  intro k H0
  have H1 := H0.aloadN 1 dRq_0 rfl
  have H2 := H1.aloadN 2 dRq_1 rfl
  obtain ⟨_, h1, ⟨rfl, e1⟩, K1, H3⟩ := H2.callS 5 (z := ⟨"java/util/Objects", "requireNonNull", "(Ljava/lang/Object;Ljava/lang/String;)Ljava/lang/Object;"⟩) (w 50 rfl) (w 51 rfl) (w 52 rfl) (w 53 rfl) (by decide) (argsL := [(.ref s), (.ref t)]) (rest := []) (Paid.of_met (W := 0) (metR hw H2.oldO) (w 53 rfl) (w 52 rfl) hEL (by decide) (by decide)) (lenOf pd_6 rfl) rfl (Nat.le_of_eq rfl) dRq_2 (by decide) (by decide) all0
  subst e1
  have H4 := H3.pop 6 dRq_5
  have H5 := H4.aloadN 7 dRq_6 rfl
  obtain ⟨_, h2, ⟨e2, rfl⟩, K2, H6⟩ := H5.callV 10 (z := ⟨"java/lang/String", "isEmpty", "()Z"⟩) (z1 := ⟨"java/lang/String", "isEmpty", "()Z"⟩) (C := "java/lang/String") (w 54 rfl) (w 55 rfl) (w 57 rfl) (w 56 rfl) (by decide) (a := s) S.1 (argsL := []) (rest := []) (payEmp (W := 0) hEL hem (w 12 rfl) S (by decide) (by decide)) (lenOf pd_12 rfl) rfl (Nat.le_of_eq rfl) dRq_7 (by decide) (by decide) all0
  subst e2
  rw [if_neg (by simp)] at H6
  have H7 := H6.ifYes 27 dRq_10 (XT.i0_eq_t rfl)
  have H8 := H7.iconst 28 (0 : Int32) dRq_27
  have H9 := H8.istoreN 29 dRq_28 (L' := #[.val (.ref s), .val (.ref t), .val (.int (0 : Int32)), .unset]) rfl
  have H10 := H9.iloadN 30 dRq_29 rfl
  have H11 := H10.aloadN 31 dRq_30 rfl
  obtain ⟨_, h3, ⟨e3, rfl⟩, K3, H12⟩ := H11.callV 34 (z := ⟨"java/lang/String", "length", "()I"⟩) (z1 := ⟨"java/lang/String", "length", "()I"⟩) (C := "java/lang/String") (w 59 rfl) (w 60 rfl) (w 62 rfl) (w 61 rfl) (by decide) (a := s) S.1 (argsL := []) (rest := [(.int (0 : Int32))]) (payLen (W := 1) hEL hln (w 12 rfl) H11.oldO S Sc hzc (by decide) (by decide)) (lenOf pd_11 rfl) rfl (Nat.le_of_eq rfl) dRq_31 (by decide) (by decide) all0
  subst e3
  rw [show Int32.ofNat ([c0] : List Int32).length = (1 : Int32) from rfl] at H12
  have H13 := H12.icmpNo 37 dRq_34 (by decide)
  have H14 := H13.aloadN 38 dRq_37 rfl
  have H15 := H14.iloadN 39 dRq_38 rfl
  obtain ⟨_, h4, ⟨e4, rfl⟩, K4, H16⟩ := H15.callV 42 (z := ⟨"java/lang/String", "charAt", "(I)C"⟩) (z1 := ⟨"java/lang/String", "charAt", "(I)C"⟩) (C := "java/lang/String") (w 69 rfl) (w 70 rfl) (w 72 rfl) (w 71 rfl) (by decide) (a := s) S.1 (argsL := [(.int (0 : Int32))]) (rest := []) (payCh (W := 0) hEL hch (w 12 rfl) H15.oldO S h8 Sc hzc Sf rf (i := 0) (by simp) rfl (by decide) (by decide)) (lenOf pd_10 rfl) rfl (Nat.le_of_eq rfl) dRq_39 (by decide) (by decide) all0
  subst e4
  have H17 := H16.istoreN 43 dRq_42 (L' := #[.val (.ref s), .val (.ref t), .val (.int (0 : Int32)), .val (.int c0)]) rfl
  have H18 := H17.iloadN 44 dRq_43 rfl
  have H19 := H18.bipush 46 (47 : Int32) dRq_44
  have H20 := H19.icmpNo 49 dRq_46 (XT.ii_eq_f g0)
  have H21 := H20.iloadN 50 dRq_49 rfl
  obtain ⟨_, h5, ⟨rfl, e5⟩, K5, H22⟩ := H21.callS 53 (z := ⟨"java/lang/Character", "isISOControl", "(C)Z"⟩) (w 91 rfl) (w 92 rfl) (w 93 rfl) (w 94 rfl) (by decide) (argsL := [(.int c0)]) (rest := []) (Paid.of_met (W := 0) (metI1 hw H21.oldO d0) (w 94 rfl) (w 93 rfl) hEL (by decide) (by decide)) (lenOf pd_7 rfl) rfl (Nat.le_of_eq rfl) dRq_50 (by decide) (by decide) all0
  subst e5
  have H23 := H22.ifYes 70 dRq_53 (XT.i0_eq_t rfl)
  have H24 := H23.iinc 73 (1 : Int32) dRq_70 rfl (L' := #[.val (.ref s), .val (.ref t), .val (.int (1 : Int32)), .val (.int c0)]) rfl
  have H25 := H24.goto 29 dRq_73
  have H26 := H25.iloadN 30 dRq_29 rfl
  have H27 := H26.aloadN 31 dRq_30 rfl
  obtain ⟨_, h3, ⟨e3, rfl⟩, K3, H28⟩ := H27.callV 34 (z := ⟨"java/lang/String", "length", "()I"⟩) (z1 := ⟨"java/lang/String", "length", "()I"⟩) (C := "java/lang/String") (w 59 rfl) (w 60 rfl) (w 62 rfl) (w 61 rfl) (by decide) (a := s) S.1 (argsL := []) (rest := [(.int (1 : Int32))]) (payLen (W := 1) hEL hln (w 12 rfl) H27.oldO S Sc hzc (by decide) (by decide)) (lenOf pd_11 rfl) rfl (Nat.le_of_eq rfl) dRq_31 (by decide) (by decide) all0
  subst e3
  rw [show Int32.ofNat ([c0] : List Int32).length = (1 : Int32) from rfl] at H28
  have H29 := H28.icmpYes 76 dRq_34 (by decide)
  have H30 := H29.aloadN 77 dRq_76 rfl
  exact H30.retA rfl rfl rfl dRq_77 (by decide) (by decide) ⟨rfl, rfl⟩
set_option maxRecDepth 65536 in
set_option maxHeartbeats 4000000 in
theorem metRq2 {Z : State} {a0 : Array Value} {n0 : Nat} {h : Heap} (hw : ∀ d ∈ tables_1, d.before a0 Z = true) (hO : Old Z n0 h) {zc : Int32} (Sc : Sta Z Z.heap ST "COMPACT_STRINGS" "Z" (.int zc)) (hzc : ¬ zc = 0) {fm : Value} (Sf : Sta Z Z.heap "jdk/internal/util/Preconditions" "SIOOBE_FORMATTER" "Ljava/util/function/BiFunction;" fm) (rf : fm.isRef = true) {s t : Addr} {c0 c1 : Int32} (d0 : Good c0) (d1 : Good c1) (S : Str Z h s [c0, c1]) :
    Met Z [] n0 ⟨"com/example/austere_broker/austerebroker/ProviderName", "requirePart", "(Ljava/lang/String;Ljava/lang/String;)Ljava/lang/String;"⟩ prog_15_method_11_code 4 (some (.object "java/lang/String")) rmRq #[.ref s, .ref t] h [] (fun v h' => v = some (.ref s) ∧ h' = h) := by
  have w : ∀ (i : Nat) {d : Jvm.Cond}, tables_1[i]? = some d → d.before a0 Z = true := fun i d q => hw d (List.mem_of_getElem? q)
  have hEL : EW Z a0 [] := EW.nil
  have hem : ∀ d ∈ StrChars.Road.wordsEmp, d.before a0 Z = true := fun d hd => hw d ((by decide +kernel : ∀ d ∈ StrChars.Road.wordsEmp, d ∈ tables_1) d hd)
  have hln : ∀ d ∈ StrChars.Road.wordsLen, d.before a0 Z = true := fun d hd => hw d ((by decide +kernel : ∀ d ∈ StrChars.Road.wordsLen, d ∈ tables_1) d hd)
  have hch : ∀ d ∈ StrChars.Road.wordsChN, d.before a0 Z = true := fun d hd => hw d ((by decide +kernel : ∀ d ∈ StrChars.Road.wordsChN, d ∈ tables_1) d hd)
  have h8 : ∀ c ∈ ([c0, c1] : List Int32), ¬ (255 : Int32) < c := by
    intro c hc; simp only [List.mem_cons, List.not_mem_nil, or_false] at hc
    rcases hc with rfl | rfl
    · exact d0.c8.2
    · exact d1.c8.2
  have g0 : ¬ c0 = 47 := by rcases d0 with rfl | rfl | rfl | rfl <;> decide
  have g1 : ¬ c1 = 47 := by rcases d1 with rfl | rfl | rfl | rfl <;> decide
  refine Met.of_walk (a0 := a0) pnP hEL hO all0 (L0 := #[.val (.ref s), .val (.ref t), .unset, .unset]) (fun m => by first | (simp [entryFrame, mkF, argsToLocals, Value.category, maxLocals]; done) | rfl) rfl ?_
  intro k H0
  have H1 := H0.aloadN 1 dRq_0 rfl
  have H2 := H1.aloadN 2 dRq_1 rfl
  obtain ⟨_, h1, ⟨rfl, e1⟩, K1, H3⟩ := H2.callS 5 (z := ⟨"java/util/Objects", "requireNonNull", "(Ljava/lang/Object;Ljava/lang/String;)Ljava/lang/Object;"⟩) (w 50 rfl) (w 51 rfl) (w 52 rfl) (w 53 rfl) (by decide) (argsL := [(.ref s), (.ref t)]) (rest := []) (Paid.of_met (W := 0) (metR hw H2.oldO) (w 53 rfl) (w 52 rfl) hEL (by decide) (by decide)) (lenOf pd_6 rfl) rfl (Nat.le_of_eq rfl) dRq_2 (by decide) (by decide) all0
  subst e1
  have H4 := H3.pop 6 dRq_5
  have H5 := H4.aloadN 7 dRq_6 rfl
  obtain ⟨_, h2, ⟨e2, rfl⟩, K2, H6⟩ := H5.callV 10 (z := ⟨"java/lang/String", "isEmpty", "()Z"⟩) (z1 := ⟨"java/lang/String", "isEmpty", "()Z"⟩) (C := "java/lang/String") (w 54 rfl) (w 55 rfl) (w 57 rfl) (w 56 rfl) (by decide) (a := s) S.1 (argsL := []) (rest := []) (payEmp (W := 0) hEL hem (w 12 rfl) S (by decide) (by decide)) (lenOf pd_12 rfl) rfl (Nat.le_of_eq rfl) dRq_7 (by decide) (by decide) all0
  subst e2
  rw [if_neg (by simp)] at H6
  have H7 := H6.ifYes 27 dRq_10 (XT.i0_eq_t rfl)
  have H8 := H7.iconst 28 (0 : Int32) dRq_27
  have H9 := H8.istoreN 29 dRq_28 (L' := #[.val (.ref s), .val (.ref t), .val (.int (0 : Int32)), .unset]) rfl
  have H10 := H9.iloadN 30 dRq_29 rfl
  have H11 := H10.aloadN 31 dRq_30 rfl
  obtain ⟨_, h3, ⟨e3, rfl⟩, K3, H12⟩ := H11.callV 34 (z := ⟨"java/lang/String", "length", "()I"⟩) (z1 := ⟨"java/lang/String", "length", "()I"⟩) (C := "java/lang/String") (w 59 rfl) (w 60 rfl) (w 62 rfl) (w 61 rfl) (by decide) (a := s) S.1 (argsL := []) (rest := [(.int (0 : Int32))]) (payLen (W := 1) hEL hln (w 12 rfl) H11.oldO S Sc hzc (by decide) (by decide)) (lenOf pd_11 rfl) rfl (Nat.le_of_eq rfl) dRq_31 (by decide) (by decide) all0
  subst e3
  rw [show Int32.ofNat ([c0, c1] : List Int32).length = (2 : Int32) from rfl] at H12
  have H13 := H12.icmpNo 37 dRq_34 (by decide)
  have H14 := H13.aloadN 38 dRq_37 rfl
  have H15 := H14.iloadN 39 dRq_38 rfl
  obtain ⟨_, h4, ⟨e4, rfl⟩, K4, H16⟩ := H15.callV 42 (z := ⟨"java/lang/String", "charAt", "(I)C"⟩) (z1 := ⟨"java/lang/String", "charAt", "(I)C"⟩) (C := "java/lang/String") (w 69 rfl) (w 70 rfl) (w 72 rfl) (w 71 rfl) (by decide) (a := s) S.1 (argsL := [(.int (0 : Int32))]) (rest := []) (payCh (W := 0) hEL hch (w 12 rfl) H15.oldO S h8 Sc hzc Sf rf (i := 0) (by simp) rfl (by decide) (by decide)) (lenOf pd_10 rfl) rfl (Nat.le_of_eq rfl) dRq_39 (by decide) (by decide) all0
  subst e4
  have H17 := H16.istoreN 43 dRq_42 (L' := #[.val (.ref s), .val (.ref t), .val (.int (0 : Int32)), .val (.int c0)]) rfl
  have H18 := H17.iloadN 44 dRq_43 rfl
  have H19 := H18.bipush 46 (47 : Int32) dRq_44
  have H20 := H19.icmpNo 49 dRq_46 (XT.ii_eq_f g0)
  have H21 := H20.iloadN 50 dRq_49 rfl
  obtain ⟨_, h5, ⟨rfl, e5⟩, K5, H22⟩ := H21.callS 53 (z := ⟨"java/lang/Character", "isISOControl", "(C)Z"⟩) (w 91 rfl) (w 92 rfl) (w 93 rfl) (w 94 rfl) (by decide) (argsL := [(.int c0)]) (rest := []) (Paid.of_met (W := 0) (metI1 hw H21.oldO d0) (w 94 rfl) (w 93 rfl) hEL (by decide) (by decide)) (lenOf pd_7 rfl) rfl (Nat.le_of_eq rfl) dRq_50 (by decide) (by decide) all0
  subst e5
  have H23 := H22.ifYes 70 dRq_53 (XT.i0_eq_t rfl)
  have H24 := H23.iinc 73 (1 : Int32) dRq_70 rfl (L' := #[.val (.ref s), .val (.ref t), .val (.int (1 : Int32)), .val (.int c0)]) rfl
  have H25 := H24.goto 29 dRq_73
  have H26 := H25.iloadN 30 dRq_29 rfl
  have H27 := H26.aloadN 31 dRq_30 rfl
  obtain ⟨_, h3, ⟨e3, rfl⟩, K3, H28⟩ := H27.callV 34 (z := ⟨"java/lang/String", "length", "()I"⟩) (z1 := ⟨"java/lang/String", "length", "()I"⟩) (C := "java/lang/String") (w 59 rfl) (w 60 rfl) (w 62 rfl) (w 61 rfl) (by decide) (a := s) S.1 (argsL := []) (rest := [(.int (1 : Int32))]) (payLen (W := 1) hEL hln (w 12 rfl) H27.oldO S Sc hzc (by decide) (by decide)) (lenOf pd_11 rfl) rfl (Nat.le_of_eq rfl) dRq_31 (by decide) (by decide) all0
  subst e3
  rw [show Int32.ofNat ([c0, c1] : List Int32).length = (2 : Int32) from rfl] at H28
  have H29 := H28.icmpNo 37 dRq_34 (by decide)
  have H30 := H29.aloadN 38 dRq_37 rfl
  have H31 := H30.iloadN 39 dRq_38 rfl
  obtain ⟨_, h4, ⟨e4, rfl⟩, K4, H32⟩ := H31.callV 42 (z := ⟨"java/lang/String", "charAt", "(I)C"⟩) (z1 := ⟨"java/lang/String", "charAt", "(I)C"⟩) (C := "java/lang/String") (w 69 rfl) (w 70 rfl) (w 72 rfl) (w 71 rfl) (by decide) (a := s) S.1 (argsL := [(.int (1 : Int32))]) (rest := []) (payCh (W := 0) hEL hch (w 12 rfl) H31.oldO S h8 Sc hzc Sf rf (i := 1) (by simp) rfl (by decide) (by decide)) (lenOf pd_10 rfl) rfl (Nat.le_of_eq rfl) dRq_39 (by decide) (by decide) all0
  subst e4
  have H33 := H32.istoreN 43 dRq_42 (L' := #[.val (.ref s), .val (.ref t), .val (.int (1 : Int32)), .val (.int c1)]) rfl
  have H34 := H33.iloadN 44 dRq_43 rfl
  have H35 := H34.bipush 46 (47 : Int32) dRq_44
  have H36 := H35.icmpNo 49 dRq_46 (XT.ii_eq_f g1)
  have H37 := H36.iloadN 50 dRq_49 rfl
  obtain ⟨_, h5, ⟨rfl, e5⟩, K5, H38⟩ := H37.callS 53 (z := ⟨"java/lang/Character", "isISOControl", "(C)Z"⟩) (w 91 rfl) (w 92 rfl) (w 93 rfl) (w 94 rfl) (by decide) (argsL := [(.int c1)]) (rest := []) (Paid.of_met (W := 0) (metI1 hw H37.oldO d1) (w 94 rfl) (w 93 rfl) hEL (by decide) (by decide)) (lenOf pd_7 rfl) rfl (Nat.le_of_eq rfl) dRq_50 (by decide) (by decide) all0
  subst e5
  have H39 := H38.ifYes 70 dRq_53 (XT.i0_eq_t rfl)
  have H40 := H39.iinc 73 (1 : Int32) dRq_70 rfl (L' := #[.val (.ref s), .val (.ref t), .val (.int (2 : Int32)), .val (.int c1)]) rfl
  have H41 := H40.goto 29 dRq_73
  have H42 := H41.iloadN 30 dRq_29 rfl
  have H43 := H42.aloadN 31 dRq_30 rfl
  obtain ⟨_, h3, ⟨e3, rfl⟩, K3, H44⟩ := H43.callV 34 (z := ⟨"java/lang/String", "length", "()I"⟩) (z1 := ⟨"java/lang/String", "length", "()I"⟩) (C := "java/lang/String") (w 59 rfl) (w 60 rfl) (w 62 rfl) (w 61 rfl) (by decide) (a := s) S.1 (argsL := []) (rest := [(.int (2 : Int32))]) (payLen (W := 1) hEL hln (w 12 rfl) H43.oldO S Sc hzc (by decide) (by decide)) (lenOf pd_11 rfl) rfl (Nat.le_of_eq rfl) dRq_31 (by decide) (by decide) all0
  subst e3
  rw [show Int32.ofNat ([c0, c1] : List Int32).length = (2 : Int32) from rfl] at H44
  have H45 := H44.icmpYes 76 dRq_34 (by decide)
  have H46 := H45.aloadN 77 dRq_76 rfl
  exact H46.retA rfl rfl rfl dRq_77 (by decide) (by decide) ⟨rfl, rfl⟩
abbrev yRq : MethodName := ⟨"com/example/austere_broker/austerebroker/ProviderName", "requirePart", "(Ljava/lang/String;Ljava/lang/String;)Ljava/lang/String;"⟩
theorem metRq {Z : State} {a0 : Array Value} {n0 : Nat} {h : Heap} (hw : ∀ d ∈ tables_1, d.before a0 Z = true) (hO : Old Z n0 h) {zc : Int32} (Sc : Sta Z Z.heap ST "COMPACT_STRINGS" "Z" (.int zc)) (hzc : ¬ zc = 0) {fm : Value} (Sf : Sta Z Z.heap "jdk/internal/util/Preconditions" "SIOOBE_FORMATTER" "Ljava/util/function/BiFunction;" fm) (rf : fm.isRef = true) {s t : Addr} (x : Int32) (S : Str Z h s (prt x)) : Met Z [] n0 yRq prog_15_method_11_code 4 (some (.object "java/lang/String")) rmRq #[.ref s, .ref t] h [] (fun v h' => v = some (.ref s) ∧ h' = h) := by
  unfold prt at S
  split at S
  · exact metRq1 hw hO Sc hzc Sf rf (chf_good _) S
  · exact metRq2 hw hO Sc hzc Sf rf (chf_good _) (chf_good _) S
def Prv (Z : State) (h : Heap) (g s0 s1 s2 : Addr) : Prop := Exa Z h g "com/example/austere_broker/austerebroker/ProviderName" ∧ Fld Z h g "com/example/austere_broker/austerebroker/ProviderName" "brokerName" "Ljava/lang/String;" (.ref s0) ∧ Fld Z h g "com/example/austere_broker/austerebroker/ProviderName" "poolId" "Ljava/lang/String;" (.ref s1) ∧ Fld Z h g "com/example/austere_broker/austerebroker/ProviderName" "providerId" "Ljava/lang/String;" (.ref s2)
theorem Prv.ext {Z : State} {h h' : Heap} {g s0 s1 s2 : Addr} (T : Prv Z h g s0 s1 s2) (E : Ext h h') : Prv Z h' g s0 s1 s2 := ⟨T.1.ext E, T.2.1.ext E, T.2.2.1.ext E, T.2.2.2.ext E⟩
abbrev rmIn : Room := { frames := 5, cells := 6, slots := 204, locals := 72 }
theorem OwnS.Str.keepX {Z : State} {h h' : Heap} {s g : Addr} {cs : List Int32} (S : Str Z h s cs) {a0 : Array Value} {n : Nat} (wi : (Jvm.Cond.instantiable "com/example/austere_broker/austerebroker/ProviderName" n).before a0 Z = true) (E : Exa Z h g "com/example/austere_broker/austerebroker/ProviderName") (K : Keep h h' [g]) : Str Z h' s cs := by
  obtain ⟨e, t, kb, cd, N2, vs, v, c, a, r⟩ := S
  have n1 : s ∉ [g] := ninS (e.ne E (by decide)) nin0
  have n2 : t ∉ [g] := ninS (fun q => by
    subst q
    obtain ⟨c1, k1, e1, f1, g1, -⟩ := E
    obtain ⟨c2, ⟨e2, hA, -⟩, -⟩ := a
    cases e1.symm.trans e2
    obtain ⟨-, kk, hk, comp, hkind⟩ := hA
    rw [g1] at hk; cases hk
    obtain ⟨c3, k3, i1, i2, i3, -⟩ := Cond.instantiable_spec wi
    cases f1.symm.trans i1
    cases g1.symm.trans i2
    rw [i3] at hkind; cases hkind) nin0
  exact ⟨e.keep K, t, kb, cd, N2, vs, v.keep K n1, c.keep K n1, a.keep K n2, r⟩
set_option maxRecDepth 65536 in
set_option maxHeartbeats 4000000 in
theorem metIn {Z : State} {a0 : Array Value} {n0 : Nat} {h : Heap} (hw : ∀ d ∈ tables_1, d.before a0 Z = true) (hO : Old Z n0 h) {zc : Int32} (Sc : Sta Z Z.heap ST "COMPACT_STRINGS" "Z" (.int zc)) (hzc : ¬ zc = 0) {fm : Value} (Sf : Sta Z Z.heap "jdk/internal/util/Preconditions" "SIOOBE_FORMATTER" "Ljava/util/function/BiFunction;" fm) (rf : fm.isRef = true) {g s0 s1 s2 : Addr} {x0 x1 x2 : Int32} {o0 o1 o2 : Value} (hg : n0 ≤ g) (E : Exa Z h g "com/example/austere_broker/austerebroker/ProviderName") (F0 : Fld Z h g "com/example/austere_broker/austerebroker/ProviderName" "brokerName" "Ljava/lang/String;" o0) (F1 : Fld Z h g "com/example/austere_broker/austerebroker/ProviderName" "poolId" "Ljava/lang/String;" o1) (F2 : Fld Z h g "com/example/austere_broker/austerebroker/ProviderName" "providerId" "Ljava/lang/String;" o2) (S0 : Str Z h s0 (prt x0)) (S1 : Str Z h s1 (prt x1)) (S2 : Str Z h s2 (prt x2)) (hs : ∀ hh : Heap, Keep h hh [g] → Str Z hh s0 (prt x0) ∧ Str Z hh s1 (prt x1) ∧ Str Z hh s2 (prt x2)) :
    Met Z [] n0 ⟨"com/example/austere_broker/austerebroker/ProviderName", "<init>", "(Ljava/lang/String;Ljava/lang/String;Ljava/lang/String;)V"⟩ prog_15_method_1_code 4 none rmIn #[.ref g, .ref s0, .ref s1, .ref s2] h [g] (fun v h' => v = none ∧ Prv Z h' g s0 s1 s2) := by
  have w : ∀ (i : Nat) {d : Jvm.Cond}, tables_1[i]? = some d → d.before a0 Z = true := fun i d q => hw d (List.mem_of_getElem? q)
  have hEL : EW Z a0 [] := EW.nil
  have wS : ∀ a ∈ Bundle.stringAtoms, a.before a0 Z = true := fun d hd => hw d ((by decide +kernel : ∀ d ∈ Bundle.stringAtoms, d ∈ tables_1) d hd)
  refine Met.of_walk (a0 := a0) pnP hEL hO (allS ⟨E.lt, hg⟩ all0) (L0 := #[.val (.ref g), .val (.ref s0), .val (.ref s1), .val (.ref s2)]) (fun m => by first | (simp [entryFrame, mkF, argsToLocals, Value.category, maxLocals]; done) | rfl) rfl ?_
  intro k H0
  have n01 : RoadKit.slotOf Z "com/example/austere_broker/austerebroker/ProviderName" "brokerName" "Ljava/lang/String;" ≠ RoadKit.slotOf Z "com/example/austere_broker/austerebroker/ProviderName" "poolId" "Ljava/lang/String;" := slot_ne (Or.inr (w 99 rfl)) (Or.inr (w 102 rfl)) (by decide) (t := .object "java/lang/String") (by decide) (t' := .object "java/lang/String") (by decide)
  have n02 : RoadKit.slotOf Z "com/example/austere_broker/austerebroker/ProviderName" "brokerName" "Ljava/lang/String;" ≠ RoadKit.slotOf Z "com/example/austere_broker/austerebroker/ProviderName" "providerId" "Ljava/lang/String;" := slot_ne (Or.inr (w 99 rfl)) (Or.inr (w 105 rfl)) (by decide) (t := .object "java/lang/String") (by decide) (t' := .object "java/lang/String") (by decide)
  have n12 : RoadKit.slotOf Z "com/example/austere_broker/austerebroker/ProviderName" "poolId" "Ljava/lang/String;" ≠ RoadKit.slotOf Z "com/example/austere_broker/austerebroker/ProviderName" "providerId" "Ljava/lang/String;" := slot_ne (Or.inr (w 102 rfl)) (Or.inr (w 105 rfl)) (by decide) (t := .object "java/lang/String") (by decide) (t' := .object "java/lang/String") (by decide)
  have H1 := H0.aloadN 1 dIn_0 rfl
  have H2 := H1.initO 4 (w 43 rfl) (w 22 rfl) (w 23 rfl) dIn_1 (by decide) (W := 0) (by decide) (by decide)
  have H3 := H2.aloadN 5 dIn_4 rfl
  have H4 := H3.aloadN 6 dIn_5 rfl
  obtain ⟨a40, h40, E40, H5⟩ := H4.ldcO 8 (w 44 rfl) wS hEL dIn_6 (n := 64) (by decide) (by decide) (by decide) (by decide)
  obtain ⟨_, h50, ⟨rfl, e5⟩, K50, H6⟩ := H5.callS 11 (z := ⟨"com/example/austere_broker/austerebroker/ProviderName", "requirePart", "(Ljava/lang/String;Ljava/lang/String;)Ljava/lang/String;"⟩) (w 47 rfl) (w 48 rfl) (w 2 rfl) (w 49 rfl) (by decide) (argsL := [(.ref s0), (.ref a40)]) (rest := [(.ref g)]) (Paid.of_met (W := 1) (metRq hw H5.oldO Sc hzc Sf rf x0 (hs _ H5.kept).1) (w 49 rfl) (w 2 rfl) hEL (by decide) (by decide)) (lenOf pd_4 rfl) rfl (Nat.le_of_eq rfl) dIn_8 (by decide) (by decide) all0
  subst e5
  obtain ⟨h60, W60, K60, E60, F60, H7⟩ := H6.putF 14 (w 98 rfl) (F0.ext E40) (E.ext E40) (Or.inr ⟨(w 99 rfl), rfl, rfl⟩) (w 1 rfl) (ty := .object "java/lang/String") (by decide) rfl rfl dIn_11 (by simp)
  have H8 := H7.aloadN 15 dIn_14 rfl
  have H9 := H8.aloadN 16 dIn_15 rfl
  obtain ⟨a41, h41, E41, H10⟩ := H9.ldcO 18 (w 100 rfl) wS hEL dIn_16 (n := 64) (by decide) (by decide) (by decide) (by decide)
  obtain ⟨_, h51, ⟨rfl, e5⟩, K51, H11⟩ := H10.callS 21 (z := ⟨"com/example/austere_broker/austerebroker/ProviderName", "requirePart", "(Ljava/lang/String;Ljava/lang/String;)Ljava/lang/String;"⟩) (w 47 rfl) (w 48 rfl) (w 2 rfl) (w 49 rfl) (by decide) (argsL := [(.ref s1), (.ref a41)]) (rest := [(.ref g)]) (Paid.of_met (W := 1) (metRq hw H10.oldO Sc hzc Sf rf x1 (hs _ H10.kept).2.1) (w 49 rfl) (w 2 rfl) hEL (by decide) (by decide)) (lenOf pd_4 rfl) rfl (Nat.le_of_eq rfl) dIn_18 (by decide) (by decide) all0
  subst e5
  obtain ⟨h61, W61, K61, E61, F61, H12⟩ := H11.putF 24 (w 101 rfl) (((F1.ext E40).other W60 (Or.inr (Ne.symm n01))).ext E41) (E60.ext E41) (Or.inr ⟨(w 102 rfl), rfl, rfl⟩) (w 1 rfl) (ty := .object "java/lang/String") (by decide) rfl rfl dIn_21 (by simp)
  have H13 := H12.aloadN 25 dIn_24 rfl
  have H14 := H13.aloadN 26 dIn_25 rfl
  obtain ⟨a42, h42, E42, H15⟩ := H14.ldcO 28 (w 103 rfl) wS hEL dIn_26 (n := 64) (by decide) (by decide) (by decide) (by decide)
  obtain ⟨_, h52, ⟨rfl, e5⟩, K52, H16⟩ := H15.callS 31 (z := ⟨"com/example/austere_broker/austerebroker/ProviderName", "requirePart", "(Ljava/lang/String;Ljava/lang/String;)Ljava/lang/String;"⟩) (w 47 rfl) (w 48 rfl) (w 2 rfl) (w 49 rfl) (by decide) (argsL := [(.ref s2), (.ref a42)]) (rest := [(.ref g)]) (Paid.of_met (W := 1) (metRq hw H15.oldO Sc hzc Sf rf x2 (hs _ H15.kept).2.2) (w 49 rfl) (w 2 rfl) hEL (by decide) (by decide)) (lenOf pd_4 rfl) rfl (Nat.le_of_eq rfl) dIn_28 (by decide) (by decide) all0
  subst e5
  obtain ⟨h62, W62, K62, E62, F62, H17⟩ := H16.putF 34 (w 104 rfl) (((((F2.ext E40).other W60 (Or.inr (Ne.symm n02))).ext E41).other W61 (Or.inr (Ne.symm n12))).ext E42) (E61.ext E42) (Or.inr ⟨(w 105 rfl), rfl, rfl⟩) (w 1 rfl) (ty := .object "java/lang/String") (by decide) rfl rfl dIn_31 (by simp)
  exact H17.retV rfl dIn_34 (by decide) (by decide) ⟨rfl, E62, ((((F60.ext E41).other W61 (Or.inr n01)).ext E42).other W62 (Or.inr n02)), ((F61.ext E42).other W62 (Or.inr n12)), F62⟩
def smf (x y : Int32) : Prop := lb x = lb y ∧ k0 x = k0 y ∧ (lb x = 0 ∨ k1 x = k1 y)
instance (x y : Int32) : Decidable (smf x y) := by unfold smf; infer_instance
set_option maxRecDepth 65536 in
set_option maxHeartbeats 4000000 in
theorem metSm {Z : State} {a0 : Array Value} {n0 : Nat} {h : Heap} (hw : ∀ d ∈ tables_1, d.before a0 Z = true) (hO : Old Z n0 h) (x y : Int32) :
    Met Z [] n0 ⟨"com/example/austere_broker/austerebroker/ProviderNameEqualsPinLaw", "same", "(II)Z"⟩ method_4_code 4 (some .boolean) rm0 #[.int x, .int y] h [] (fun v h' => v = some (.int (if smf x y then 1 else 0)) ∧ h' = h) := by
  have w : ∀ (i : Nat) {d : Jvm.Cond}, tables_1[i]? = some d → d.before a0 Z = true := fun i d q => hw d (List.mem_of_getElem? q)
  have hEL : EW Z a0 [] := EW.nil
  refine Met.of_walk (a0 := a0) pnL hEL hO all0 (L0 := #[.val (.int x), .val (.int y), .unset, .unset]) (fun m => by first | (simp [entryFrame, mkF, argsToLocals, Value.category, maxLocals]; done) | rfl) rfl ?_
  intro k H0
  have H1 := H0.iloadN 1 dSm_0 rfl
  have H2 := H1.iconst 2 (4 : Int32) dSm_1
  have H3 := H2.iushr 3 dSm_2
  have H4 := H3.iconst 4 (1 : Int32) dSm_3
  have H5 := H4.iand 5 dSm_4
  have H6 := H5.istoreN 6 dSm_5 (L' := #[.val (.int x), .val (.int y), .val (.int ((x.toUInt32 >>> ((4 : Int32) &&& 31).toUInt32).toInt32 &&& (1 : Int32))), .unset]) rfl
  have H7 := H6.iloadN 7 dSm_6 rfl
  have H8 := H7.iconst 8 (4 : Int32) dSm_7
  have H9 := H8.iushr 9 dSm_8
  have H10 := H9.iconst 10 (1 : Int32) dSm_9
  have H11 := H10.iand 11 dSm_10
  have H12 := H11.istoreN 12 dSm_11 (L' := #[.val (.int x), .val (.int y), .val (.int ((x.toUInt32 >>> ((4 : Int32) &&& 31).toUInt32).toInt32 &&& (1 : Int32))), .val (.int ((y.toUInt32 >>> ((4 : Int32) &&& 31).toUInt32).toInt32 &&& (1 : Int32)))]) rfl
  have H13 := H12.iloadN 13 dSm_12 rfl
  have H14 := H13.iloadN 14 dSm_13 rfl
  by_cases j0 : lb x = lb y
  · have H15 := H14.icmpYes 19 dSm_14 (XT.ii_eq_t (show ((x.toUInt32 >>> ((4 : Int32) &&& 31).toUInt32).toInt32 &&& (1 : Int32)) = ((y.toUInt32 >>> ((4 : Int32) &&& 31).toUInt32).toInt32 &&& (1 : Int32)) from j0))
    have H16 := H15.iloadN 20 dSm_19 rfl
    have H17 := H16.iconst 21 (3 : Int32) dSm_20
    have H18 := H17.iand 22 dSm_21
    have H19 := H18.iloadN 23 dSm_22 rfl
    have H20 := H19.iconst 24 (3 : Int32) dSm_23
    have H21 := H20.iand 25 dSm_24
    by_cases j1 : k0 x = k0 y
    · have H22 := H21.icmpYes 30 dSm_25 (XT.ii_eq_t (show (x &&& (3 : Int32)) = (y &&& (3 : Int32)) from j1))
      have H23 := H22.iloadN 31 dSm_30 rfl
      by_cases j2 : lb x = 0
      · have H24 := H23.ifNo 34 dSm_31 (XT.i0_ne_f (show ((x.toUInt32 >>> ((4 : Int32) &&& 31).toUInt32).toInt32 &&& (1 : Int32)) = 0 from j2))
        have H25 := H24.iconst 35 (1 : Int32) dSm_34
        exact H25.retI rfl rfl (by simp) dSm_35 (by decide) (by decide) ⟨by rw [if_pos ⟨j0, j1, Or.inl j2⟩], rfl⟩
      · have H26 := H23.ifYes 36 dSm_31 (XT.i0_ne_t (show ¬ ((x.toUInt32 >>> ((4 : Int32) &&& 31).toUInt32).toInt32 &&& (1 : Int32)) = 0 from j2))
        have H27 := H26.iloadN 37 dSm_36 rfl
        have H28 := H27.iconst 38 (2 : Int32) dSm_37
        have H29 := H28.iushr 39 dSm_38
        have H30 := H29.iconst 40 (3 : Int32) dSm_39
        have H31 := H30.iand 41 dSm_40
        have H32 := H31.iloadN 42 dSm_41 rfl
        have H33 := H32.iconst 43 (2 : Int32) dSm_42
        have H34 := H33.iushr 44 dSm_43
        have H35 := H34.iconst 45 (3 : Int32) dSm_44
        have H36 := H35.iand 46 dSm_45
        by_cases j3 : k1 x = k1 y
        · have H37 := H36.icmpNo 49 dSm_46 (XT.ii_ne_f (show ((x.toUInt32 >>> ((2 : Int32) &&& 31).toUInt32).toInt32 &&& (3 : Int32)) = ((y.toUInt32 >>> ((2 : Int32) &&& 31).toUInt32).toInt32 &&& (3 : Int32)) from j3))
          have H38 := H37.iconst 50 (1 : Int32) dSm_49
          have H39 := H38.goto 54 dSm_50
          exact H39.retI rfl rfl (by simp) dSm_54 (by decide) (by decide) ⟨by rw [if_pos ⟨j0, j1, Or.inr j3⟩], rfl⟩
        · have H40 := H36.icmpYes 53 dSm_46 (XT.ii_ne_t (show ¬ ((x.toUInt32 >>> ((2 : Int32) &&& 31).toUInt32).toInt32 &&& (3 : Int32)) = ((y.toUInt32 >>> ((2 : Int32) &&& 31).toUInt32).toInt32 &&& (3 : Int32)) from j3))
          have H41 := H40.iconst 54 (0 : Int32) dSm_53
          exact H41.retI rfl rfl (by simp) dSm_54 (by decide) (by decide) ⟨by rw [if_neg (fun q => q.2.2.elim j2 j3)], rfl⟩
    · have H42 := H21.icmpNo 28 dSm_25 (XT.ii_eq_f (show ¬ (x &&& (3 : Int32)) = (y &&& (3 : Int32)) from j1))
      have H43 := H42.iconst 29 (0 : Int32) dSm_28
      exact H43.retI rfl rfl (by simp) dSm_29 (by decide) (by decide) ⟨by rw [if_neg (fun q => j1 q.2.1)], rfl⟩
  · have H44 := H14.icmpNo 17 dSm_14 (XT.ii_eq_f (show ¬ ((x.toUInt32 >>> ((4 : Int32) &&& 31).toUInt32).toInt32 &&& (1 : Int32)) = ((y.toUInt32 >>> ((4 : Int32) &&& 31).toUInt32).toInt32 &&& (1 : Int32)) from j0))
    have H45 := H44.iconst 18 (0 : Int32) dSm_17
    exact H45.retI rfl rfl (by simp) dSm_18 (by decide) (by decide) ⟨by rw [if_neg (fun q => j0 q.1)], rfl⟩
theorem mask1 (p : Int32) : (p &&& (1 : Int32)) = 0 ∨ (p &&& (1 : Int32)) = 1 := and_one p
theorem prt_eq (x y : Int32) : prt x = prt y ↔ smf x y := by
  have hx := mask1 ((x.toUInt32 >>> ((4 : Int32) &&& 31).toUInt32).toInt32)
  have hy := mask1 ((y.toUInt32 >>> ((4 : Int32) &&& 31).toUInt32).toInt32)
  have a0 : In4 (k0 x) := mask3 _
  have b0 : In4 (k0 y) := mask3 _
  have a1 : In4 (k1 x) := mask3 _
  have b1 : In4 (k1 y) := mask3 _
  have hx' : lb x = 0 ∨ lb x = 1 := hx
  have hy' : lb y = 0 ∨ lb y = 1 := hy
  unfold prt smf
  rcases hx' with q | q <;> rcases hy' with r | r <;> rw [q, r] <;> simp [chf_inj a0 b0, chf_inj a1 b1]
abbrev rmEq : Room := { frames := 3, cells := 0, slots := 0, locals := 45 }
theorem prvStr {Z : State} {h : Heap} : True := trivial
set_option maxRecDepth 65536 in
set_option maxHeartbeats 4000000 in
theorem metE1 {Z : State} {a0 : Array Value} {n0 : Nat} {h : Heap} (hw : ∀ d ∈ tables_1, d.before a0 Z = true) (hO : Old Z n0 h) {zc : Int32} (Sc : Sta Z Z.heap ST "COMPACT_STRINGS" "Z" (.int zc)) (hzc : ¬ zc = 0) {g : Addr} :
    Met Z [] n0 ⟨"com/example/austere_broker/austerebroker/ProviderName", "equals", "(Ljava/lang/Object;)Z"⟩ prog_15_method_7_code 3 (some .boolean) rmEq #[.ref g, .ref g] h [] (fun v h' => h' = h ∧ v = some (.int 1)) := by
  have w : ∀ (i : Nat) {d : Jvm.Cond}, tables_1[i]? = some d → d.before a0 Z = true := fun i d q => hw d (List.mem_of_getElem? q)
  have hEL : EW Z a0 [] := EW.nil
  have heq : ∀ d ∈ StrChars.Road.wordsEq, d.before a0 Z = true := fun d hd => hw d ((by decide +kernel : ∀ d ∈ StrChars.Road.wordsEq, d ∈ tables_1) d hd)
  refine Met.of_walk (a0 := a0) pnP hEL hO all0 (L0 := #[.val (.ref g), .val (.ref g), .unset]) (fun m => by first | (simp [entryFrame, mkF, argsToLocals, Value.category, maxLocals]; done) | rfl) rfl ?_
  intro k H0
  have H1 := H0.aloadN 1 dEq_0 rfl
  have H2 := H1.aloadN 2 dEq_1 rfl
  have H3 := H2.acmpNo 5 dEq_2 (XT.aa_ne_f rfl)
  have H4 := H3.iconst 6 (1 : Int32) dEq_5
  exact H4.retI rfl rfl (by simp) dEq_6 (by decide) (by decide) ⟨rfl, rfl⟩
set_option maxRecDepth 65536 in
set_option maxHeartbeats 4000000 in
theorem metE2 {Z : State} {a0 : Array Value} {n0 : Nat} {h : Heap} (hw : ∀ d ∈ tables_1, d.before a0 Z = true) (hO : Old Z n0 h) {zc : Int32} (Sc : Sta Z Z.heap ST "COMPACT_STRINGS" "Z" (.int zc)) (hzc : ¬ zc = 0) {g : Addr} :
    Met Z [] n0 ⟨"com/example/austere_broker/austerebroker/ProviderName", "equals", "(Ljava/lang/Object;)Z"⟩ prog_15_method_7_code 3 (some .boolean) rmEq #[.ref g, .null] h [] (fun v h' => h' = h ∧ v = some (.int 0)) := by
  have w : ∀ (i : Nat) {d : Jvm.Cond}, tables_1[i]? = some d → d.before a0 Z = true := fun i d q => hw d (List.mem_of_getElem? q)
  have hEL : EW Z a0 [] := EW.nil
  have heq : ∀ d ∈ StrChars.Road.wordsEq, d.before a0 Z = true := fun d hd => hw d ((by decide +kernel : ∀ d ∈ StrChars.Road.wordsEq, d ∈ tables_1) d hd)
  refine Met.of_walk (a0 := a0) pnP hEL hO all0 (L0 := #[.val (.ref g), .val .null, .unset]) (fun m => by first | (simp [entryFrame, mkF, argsToLocals, Value.category, maxLocals]; done) | rfl) rfl ?_
  intro k H0
  have H1 := H0.aloadN 1 dEq_0 rfl
  have H2 := H1.aloadN 2 dEq_1 rfl
  have H3 := H2.acmpYes 7 dEq_2 (XT.aa_ne_t (fun q => by cases q))
  have H4 := H3.aloadN 8 dEq_7 rfl
  have H5 := H4.instNull 11 dEq_8
  have H6 := H5.ifNo 14 dEq_11 (XT.i0_ne_f rfl)
  have H7 := H6.iconst 15 (0 : Int32) dEq_14
  exact H7.retI rfl rfl (by simp) dEq_15 (by decide) (by decide) ⟨rfl, rfl⟩
set_option maxRecDepth 65536 in
set_option maxHeartbeats 4000000 in
theorem metE3 {Z : State} {a0 : Array Value} {n0 : Nat} {h : Heap} (hw : ∀ d ∈ tables_1, d.before a0 Z = true) (hO : Old Z n0 h) {zc : Int32} (Sc : Sta Z Z.heap ST "COMPACT_STRINGS" "Z" (.int zc)) (hzc : ¬ zc = 0) {g o : Addr} (hne : g ≠ o) (E : Exa Z h o ST) (N : NoIns Z ST "com/example/austere_broker/austerebroker/ProviderName") :
    Met Z [] n0 ⟨"com/example/austere_broker/austerebroker/ProviderName", "equals", "(Ljava/lang/Object;)Z"⟩ prog_15_method_7_code 3 (some .boolean) rmEq #[.ref g, .ref o] h [] (fun v h' => h' = h ∧ v = some (.int 0)) := by
  have w : ∀ (i : Nat) {d : Jvm.Cond}, tables_1[i]? = some d → d.before a0 Z = true := fun i d q => hw d (List.mem_of_getElem? q)
  have hEL : EW Z a0 [] := EW.nil
  have heq : ∀ d ∈ StrChars.Road.wordsEq, d.before a0 Z = true := fun d hd => hw d ((by decide +kernel : ∀ d ∈ StrChars.Road.wordsEq, d ∈ tables_1) d hd)
  refine Met.of_walk (a0 := a0) pnP hEL hO all0 (L0 := #[.val (.ref g), .val (.ref o), .unset]) (fun m => by first | (simp [entryFrame, mkF, argsToLocals, Value.category, maxLocals]; done) | rfl) rfl ?_
  intro k H0
  have H1 := H0.aloadN 1 dEq_0 rfl
  have H2 := H1.aloadN 2 dEq_1 rfl
  have H3 := H2.acmpYes 7 dEq_2 (XT.aa_ne_t (fun q => hne (by injection q)))
  have H4 := H3.aloadN 8 dEq_7 rfl
  have H5 := H4.instNo 11 (w 114 rfl) E N dEq_8
  have H6 := H5.ifNo 14 dEq_11 (XT.i0_ne_f rfl)
  have H7 := H6.iconst 15 (0 : Int32) dEq_14
  exact H7.retI rfl rfl (by simp) dEq_15 (by decide) (by decide) ⟨rfl, rfl⟩
set_option maxRecDepth 65536 in
set_option maxHeartbeats 4000000 in
theorem metE4 {Z : State} {a0 : Array Value} {n0 : Nat} {h : Heap} (hw : ∀ d ∈ tables_1, d.before a0 Z = true) (hO : Old Z n0 h) {zc : Int32} (Sc : Sta Z Z.heap ST "COMPACT_STRINGS" "Z" (.int zc)) (hzc : ¬ zc = 0) {g o s0 s1 s2 u0 u1 u2 : Addr} {c0 c1 c2 e0 e1 e2 : List Int32} (hne : g ≠ o) (T : Prv Z h g s0 s1 s2) (U : Prv Z h o u0 u1 u2) (S0 : Str Z h s0 c0) (S1 : Str Z h s1 c1) (S2 : Str Z h s2 c2) (R0 : Str Z h u0 e0) (R1 : Str Z h u1 e1) (R2 : Str Z h u2 e2) :
    Met Z [] n0 ⟨"com/example/austere_broker/austerebroker/ProviderName", "equals", "(Ljava/lang/Object;)Z"⟩ prog_15_method_7_code 3 (some .boolean) rmEq #[.ref g, .ref o] h [] (fun v h' => h' = h ∧ v = some (.int (if c0 = e0 ∧ c1 = e1 ∧ c2 = e2 then 1 else 0))) := by
  have w : ∀ (i : Nat) {d : Jvm.Cond}, tables_1[i]? = some d → d.before a0 Z = true := fun i d q => hw d (List.mem_of_getElem? q)
  have hEL : EW Z a0 [] := EW.nil
  have heq : ∀ d ∈ StrChars.Road.wordsEq, d.before a0 Z = true := fun d hd => hw d ((by decide +kernel : ∀ d ∈ StrChars.Road.wordsEq, d ∈ tables_1) d hd)
  refine Met.of_walk (a0 := a0) pnP hEL hO all0 (L0 := #[.val (.ref g), .val (.ref o), .unset]) (fun m => by first | (simp [entryFrame, mkF, argsToLocals, Value.category, maxLocals]; done) | rfl) rfl ?_
  intro k H0
  have H1 := H0.aloadN 1 dEq_0 rfl
  have H2 := H1.aloadN 2 dEq_1 rfl
  have H3 := H2.acmpYes 7 dEq_2 (XT.aa_ne_t (fun q => hne (by injection q)))
  have H4 := H3.aloadN 8 dEq_7 rfl
  have H5 := H4.instY 11 (w 114 rfl) (Ins.self U.1) dEq_8
  have H6 := H5.ifYes 16 dEq_11 (XT.i0_ne_t (by decide))
  have H7 := H6.aloadN 17 dEq_16 rfl
  have H8 := H7.castY 20 (w 114 rfl) (Ins.self U.1) dEq_17
  have H9 := H8.astoreN 21 dEq_20 (L' := #[.val (.ref g), .val (.ref o), .val (.ref o)]) rfl
  have H10 := H9.aloadN 22 dEq_21 rfl
  have H11 := H10.getF 25 (w 98 rfl) T.2.1 dEq_22
  have H12 := H11.aloadN 26 dEq_25 rfl
  have H13 := H12.getF 29 (w 98 rfl) U.2.1 dEq_26
  obtain ⟨_, h3, ⟨e3, rfl⟩, K3, H14⟩ := H13.callV 32 (z := ⟨"java/lang/String", "equals", "(Ljava/lang/Object;)Z"⟩) (z1 := ⟨"java/lang/String", "equals", "(Ljava/lang/Object;)Z"⟩) (C := "java/lang/String") (w 116 rfl) (w 117 rfl) (w 119 rfl) (w 118 rfl) (by decide) (a := s0) S0.1 (argsL := [(.ref u0)]) (rest := []) (payEq (W := 0) hEL heq (w 12 rfl) H13.oldO S0 R0 Sc hzc (by decide) (by decide)) (lenOf pd_9 rfl) rfl (Nat.le_of_eq rfl) dEq_29 (by decide) (by decide) all0
  subst e3
  by_cases j0 : c0 = e0
  · rw [if_pos j0] at H14
    have H17 := H14.ifNo 35 dEq_32 (XT.i0_eq_f (by decide))
    have H18 := H17.aloadN 36 dEq_35 rfl
    have H19 := H18.getF 39 (w 101 rfl) T.2.2.1 dEq_36
    have H20 := H19.aloadN 40 dEq_39 rfl
    have H21 := H20.getF 43 (w 101 rfl) U.2.2.1 dEq_40
    obtain ⟨_, h3, ⟨e3, rfl⟩, K3, H22⟩ := H21.callV 46 (z := ⟨"java/lang/String", "equals", "(Ljava/lang/Object;)Z"⟩) (z1 := ⟨"java/lang/String", "equals", "(Ljava/lang/Object;)Z"⟩) (C := "java/lang/String") (w 116 rfl) (w 117 rfl) (w 119 rfl) (w 118 rfl) (by decide) (a := s1) S1.1 (argsL := [(.ref u1)]) (rest := []) (payEq (W := 0) hEL heq (w 12 rfl) H21.oldO S1 R1 Sc hzc (by decide) (by decide)) (lenOf pd_9 rfl) rfl (Nat.le_of_eq rfl) dEq_43 (by decide) (by decide) all0
    subst e3
    by_cases j1 : c1 = e1
    · rw [if_pos j1] at H22
      have H25 := H22.ifNo 49 dEq_46 (XT.i0_eq_f (by decide))
      have H26 := H25.aloadN 50 dEq_49 rfl
      have H27 := H26.getF 53 (w 104 rfl) T.2.2.2 dEq_50
      have H28 := H27.aloadN 54 dEq_53 rfl
      have H29 := H28.getF 57 (w 104 rfl) U.2.2.2 dEq_54
      obtain ⟨_, h3, ⟨e3, rfl⟩, K3, H30⟩ := H29.callV 60 (z := ⟨"java/lang/String", "equals", "(Ljava/lang/Object;)Z"⟩) (z1 := ⟨"java/lang/String", "equals", "(Ljava/lang/Object;)Z"⟩) (C := "java/lang/String") (w 116 rfl) (w 117 rfl) (w 119 rfl) (w 118 rfl) (by decide) (a := s2) S2.1 (argsL := [(.ref u2)]) (rest := []) (payEq (W := 0) hEL heq (w 12 rfl) H29.oldO S2 R2 Sc hzc (by decide) (by decide)) (lenOf pd_9 rfl) rfl (Nat.le_of_eq rfl) dEq_57 (by decide) (by decide) all0
      subst e3
      by_cases j2 : c2 = e2
      · rw [if_pos j2] at H30
        have H33 := H30.ifNo 63 dEq_60 (XT.i0_eq_f (by decide))
        have H34 := H33.iconst 64 (1 : Int32) dEq_63
        have H35 := H34.goto 68 dEq_64
        exact H35.retI rfl rfl (by simp) dEq_68 (by decide) (by decide) ⟨rfl, by rw [if_pos ⟨j0, j1, j2⟩]⟩
      · rw [if_neg j2] at H30
        have H31 := H30.ifYes 67 dEq_60 (XT.i0_eq_t rfl)
        have H32 := H31.iconst 68 (0 : Int32) dEq_67
        exact H32.retI rfl rfl (by simp) dEq_68 (by decide) (by decide) ⟨rfl, by rw [if_neg (fun q => j2 q.2.2)]⟩
    · rw [if_neg j1] at H22
      have H23 := H22.ifYes 67 dEq_46 (XT.i0_eq_t rfl)
      have H24 := H23.iconst 68 (0 : Int32) dEq_67
      exact H24.retI rfl rfl (by simp) dEq_68 (by decide) (by decide) ⟨rfl, by rw [if_neg (fun q => j1 q.2.1)]⟩
  · rw [if_neg j0] at H14
    have H15 := H14.ifYes 67 dEq_32 (XT.i0_eq_t rfl)
    have H16 := H15.iconst 68 (0 : Int32) dEq_67
    exact H16.retI rfl rfl (by simp) dEq_68 (by decide) (by decide) ⟨rfl, by rw [if_neg (fun q => j0 q.1)]⟩
set_option maxRecDepth 65536 in
set_option maxHeartbeats 4000000 in
theorem metL {Z : State} {a0 : Array Value} {n0 : Nat} {h : Heap} (hw : ∀ d ∈ tables_1, d.before a0 Z = true) (hO : Old Z n0 h) {zc : Int32} (Sc : Sta Z Z.heap ST "COMPACT_STRINGS" "Z" (.int zc)) (hzc : ¬ zc = 0) {fm : Value} (Sf : Sta Z Z.heap "jdk/internal/util/Preconditions" "SIOOBE_FORMATTER" "Ljava/util/function/BiFunction;" fm) (rf : fm.isRef = true) (p0 p1 p2 p3 p4 p5 : Int32) :
    Met Z [] n0 x code maxLocals ret room_1 #[.int p0, .int p1, .int p2, .int p3, .int p4, .int p5] h [] (fun v _ => v = some (.int 1)) := by
  have w : ∀ (i : Nat) {d : Jvm.Cond}, tables_1[i]? = some d → d.before a0 Z = true := fun i d q => hw d (List.mem_of_getElem? q)
  have hEL : EW Z a0 [] := EW.nil
  refine Met.of_walk (a0 := a0) pnL hEL hO all0 (L0 := #[.val (.int p0), .val (.int p1), .val (.int p2), .val (.int p3), .val (.int p4), .val (.int p5), .unset, .unset, .unset, .unset]) (fun m => by first | (simp [entryFrame, mkF, argsToLocals, Value.category, maxLocals]; done) | rfl) rfl ?_
  intro k H0
  have nS : NoIns Z ST "com/example/austere_broker/austerebroker/ProviderName" := (ns_no (w 125 rfl) (w 1 rfl) (NS.step (w 125 rfl) (ns_root (w 126 rfl) (w 1 rfl) (by decide)) (by decide)) (by decide))
  obtain ⟨b1, h1, g1, E1, A1, D1, H1⟩ := H0.newO 3 (w 0 rfl) (w 1 rfl) (w 2 rfl) at_0 (by decide) (by decide)
  have F10 : Fld Z h1 b1 "com/example/austere_broker/austerebroker/ProviderName" "brokerName" "Ljava/lang/String;" .null := D1 (Or.inr (w 99 rfl)) (ty := .object "java/lang/String") (by decide)
  have F11 : Fld Z h1 b1 "com/example/austere_broker/austerebroker/ProviderName" "poolId" "Ljava/lang/String;" .null := D1 (Or.inr (w 102 rfl)) (ty := .object "java/lang/String") (by decide)
  have F12 : Fld Z h1 b1 "com/example/austere_broker/austerebroker/ProviderName" "providerId" "Ljava/lang/String;" .null := D1 (Or.inr (w 105 rfl)) (ty := .object "java/lang/String") (by decide)
  have H2 := H1.dup 4 at_3
  have H3 := H2.iloadN 5 at_4 rfl
  obtain ⟨_, h1_0, ⟨s0, rfl, S10⟩, K1_0, H4⟩ := H3.callS 8 (z := ⟨"com/example/austere_broker/austerebroker/ProviderNameEqualsPinLaw", "part", "(I)Ljava/lang/String;"⟩) (w 3 rfl) (w 4 rfl) (w 5 rfl) (w 6 rfl) (by decide) (argsL := [(.int p0)]) (rest := [(.ref b1), (.ref b1)]) (Paid.of_met (W := 2) (metPt hw H3.oldO Sc hzc p0) (w 6 rfl) (w 5 rfl) hEL (by decide) (by decide)) (lenOf pd_0 rfl) rfl (Nat.le_of_eq rfl) at_5 (by decide) (by decide) all0
  have X10 := keepExt K1_0
  have H5 := H4.iloadN 9 at_8 rfl
  obtain ⟨_, h1_1, ⟨s1, rfl, S11⟩, K1_1, H6⟩ := H5.callS 12 (z := ⟨"com/example/austere_broker/austerebroker/ProviderNameEqualsPinLaw", "part", "(I)Ljava/lang/String;"⟩) (w 3 rfl) (w 4 rfl) (w 5 rfl) (w 6 rfl) (by decide) (argsL := [(.int p1)]) (rest := [(.ref s0), (.ref b1), (.ref b1)]) (Paid.of_met (W := 3) (metPt hw H5.oldO Sc hzc p1) (w 6 rfl) (w 5 rfl) hEL (by decide) (by decide)) (lenOf pd_0 rfl) rfl (Nat.le_of_eq rfl) at_9 (by decide) (by decide) all0
  have X11 := keepExt K1_1
  have H7 := H6.iloadN 13 at_12 rfl
  obtain ⟨_, h1_2, ⟨s2, rfl, S12⟩, K1_2, H8⟩ := H7.callS 16 (z := ⟨"com/example/austere_broker/austerebroker/ProviderNameEqualsPinLaw", "part", "(I)Ljava/lang/String;"⟩) (w 3 rfl) (w 4 rfl) (w 5 rfl) (w 6 rfl) (by decide) (argsL := [(.int p2)]) (rest := [(.ref s1), (.ref s0), (.ref b1), (.ref b1)]) (Paid.of_met (W := 4) (metPt hw H7.oldO Sc hzc p2) (w 6 rfl) (w 5 rfl) hEL (by decide) (by decide)) (lenOf pd_0 rfl) rfl (Nat.le_of_eq rfl) at_13 (by decide) (by decide) all0
  have X12 := keepExt K1_2
  have Y1 := Ext.trans' X10 (Ext.trans' X11 X12)
  have Q10 := (S10.ext X11).ext X12
  have Q11 := S11.ext X12
  have N1 : ∀ hh : Heap, Keep h1_2 hh [b1] → Str Z hh s0 (prt p0) ∧ Str Z hh s1 (prt p1) ∧ Str Z hh s2 (prt p2) := fun hh K => ⟨Q10.keepX (w 1 rfl) (A1.ext Y1) K, Q11.keepX (w 1 rfl) (A1.ext Y1) K, S12.keepX (w 1 rfl) (A1.ext Y1) K⟩
  obtain ⟨_, h1b, ⟨rfl, T1⟩, K1b, H9⟩ := H8.callI 19 (z := ⟨"com/example/austere_broker/austerebroker/ProviderName", "<init>", "(Ljava/lang/String;Ljava/lang/String;Ljava/lang/String;)V"⟩) rfl (w 40 rfl) (w 41 rfl) (w 42 rfl) (by decide) (a := b1) (argsL := [(.ref s0), (.ref s1), (.ref s2)]) (rest := [(.ref b1)]) (Paid.of_met (W := 1) (metIn hw H8.oldO Sc hzc Sf rf (H8.sf_lt (by simp)).2 (A1.ext Y1) (F10.ext Y1) (F11.ext Y1) (F12.ext Y1) Q10 Q11 S12 N1) (w 42 rfl) (w 2 rfl) hEL (by decide) (by decide)) (lenOf pd_3 rfl) rfl (Nat.le_of_eq rfl) at_16 (by decide) (by decide) (by simp)
  obtain ⟨R10, R11, R12⟩ := N1 _ K1b
  have H10 := H9.astore 21 at_19 (L' := #[.val (.int p0), .val (.int p1), .val (.int p2), .val (.int p3), .val (.int p4), .val (.int p5), .val (.ref b1), .unset, .unset, .unset]) rfl
  have H11 := H10.iload 23 at_21 rfl
  have H12 := H11.iconst 24 (5 : Int32) at_23
  have H13 := H12.iushr 25 at_24
  have H14 := H13.bipush 27 (7 : Int32) at_25
  have H15 := H14.iand 28 at_27
  generalize hmd : ((p5.toUInt32 >>> ((5 : Int32) &&& 31).toUInt32).toInt32 &&& (7 : Int32)) = md at H15
  have H16 := H15.istore 30 at_28 (L' := #[.val (.int p0), .val (.int p1), .val (.int p2), .val (.int p3), .val (.int p4), .val (.int p5), .val (.ref b1), .val (.int md), .unset, .unset]) rfl
  have H17 := H16.iload 32 at_30 rfl
  have H18 := H17.iconst 33 (1 : Int32) at_32
  by_cases m1 : md = 1
  · have H19 := H18.icmpNo 36 at_33 (XT.ii_ne_f m1)
    have H20 := H19.aload 38 at_36 rfl
    have H21 := H20.aload 40 at_38 rfl
    obtain ⟨_, h8, ⟨e8, rfl⟩, K8, H22⟩ := H21.callV 43 (z := ⟨"com/example/austere_broker/austerebroker/ProviderName", "equals", "(Ljava/lang/Object;)Z"⟩) (z1 := ⟨"com/example/austere_broker/austerebroker/ProviderName", "equals", "(Ljava/lang/Object;)Z"⟩) (C := "com/example/austere_broker/austerebroker/ProviderName") (w 109 rfl) (w 110 rfl) (w 112 rfl) (w 111 rfl) (by decide) (a := b1) T1.1 (argsL := [(.ref b1)]) (rest := []) (Paid.of_met (W := 0) (metE1 hw H21.oldO Sc hzc) (w 113 rfl) (w 2 rfl) hEL (by decide) (by decide)) (lenOf pd_5 rfl) rfl (Nat.le_of_eq rfl) at_40 (by decide) (by decide) all0
    subst e8
    exact H22.retI rfl rfl (by simp) at_43 (by decide) (by decide) rfl
  · have H23 := H18.icmpYes 44 at_33 (XT.ii_ne_t m1)
    have H24 := H23.iload 46 at_44 rfl
    have H25 := H24.iconst 47 (2 : Int32) at_46
    by_cases m2 : md = 2
    · have H26 := H25.icmpNo 50 at_47 (XT.ii_ne_f m2)
      have H27 := H26.aload 52 at_50 rfl
      have H28 := H27.anull 53 at_52
      obtain ⟨_, h8, ⟨e8, rfl⟩, K8, H29⟩ := H28.callV 56 (z := ⟨"com/example/austere_broker/austerebroker/ProviderName", "equals", "(Ljava/lang/Object;)Z"⟩) (z1 := ⟨"com/example/austere_broker/austerebroker/ProviderName", "equals", "(Ljava/lang/Object;)Z"⟩) (C := "com/example/austere_broker/austerebroker/ProviderName") (w 109 rfl) (w 110 rfl) (w 112 rfl) (w 111 rfl) (by decide) (a := b1) T1.1 (argsL := [.null]) (rest := []) (Paid.of_met (W := 0) (metE2 hw H28.oldO Sc hzc) (w 113 rfl) (w 2 rfl) hEL (by decide) (by decide)) (lenOf pd_5 rfl) rfl (Nat.le_of_eq rfl) at_53 (by decide) (by decide) all0
      subst e8
      have H30 := H29.ifNo 59 at_56 (XT.i0_ne_f rfl)
      have H31 := H30.iconst 60 (1 : Int32) at_59
      have H32 := H31.goto 64 at_60
      exact H32.retI rfl rfl (by simp) at_64 (by decide) (by decide) rfl
    · have H33 := H25.icmpYes 65 at_47 (XT.ii_ne_t m2)
      have H34 := H33.iload 67 at_65 rfl
      have H35 := H34.iconst 68 (3 : Int32) at_67
      by_cases m3 : md = 3
      · have H36 := H35.icmpNo 71 at_68 (XT.ii_ne_f m3)
        have H37 := H36.iloadN 72 at_71 rfl
        obtain ⟨_, h7, ⟨u, rfl, Su⟩, K7, H38⟩ := H37.callS 75 (z := ⟨"com/example/austere_broker/austerebroker/ProviderNameEqualsPinLaw", "part", "(I)Ljava/lang/String;"⟩) (w 3 rfl) (w 4 rfl) (w 5 rfl) (w 6 rfl) (by decide) (argsL := [(.int p3)]) (rest := []) (Paid.of_met (W := 0) (metPt hw H37.oldO Sc hzc p3) (w 6 rfl) (w 5 rfl) hEL (by decide) (by decide)) (lenOf pd_0 rfl) rfl (Nat.le_of_eq rfl) at_72 (by decide) (by decide) all0
        have T1' := T1.ext (keepExt K7)
        have H39 := H38.astore 77 at_75 (L' := #[.val (.int p0), .val (.int p1), .val (.int p2), .val (.int p3), .val (.int p4), .val (.int p5), .val (.ref b1), .val (.int md), .val (.ref u), .unset]) rfl
        have H40 := H39.aload 79 at_77 rfl
        have H41 := H40.aload 81 at_79 rfl
        obtain ⟨_, h8, ⟨e8, rfl⟩, K8, H42⟩ := H41.callV 84 (z := ⟨"com/example/austere_broker/austerebroker/ProviderName", "equals", "(Ljava/lang/Object;)Z"⟩) (z1 := ⟨"com/example/austere_broker/austerebroker/ProviderName", "equals", "(Ljava/lang/Object;)Z"⟩) (C := "com/example/austere_broker/austerebroker/ProviderName") (w 109 rfl) (w 110 rfl) (w 112 rfl) (w 111 rfl) (by decide) (a := b1) T1'.1 (argsL := [(.ref u)]) (rest := []) (Paid.of_met (W := 0) (metE3 hw H41.oldO Sc hzc (T1'.1.ne Su.1 (by decide)) Su.1 nS) (w 113 rfl) (w 2 rfl) hEL (by decide) (by decide)) (lenOf pd_5 rfl) rfl (Nat.le_of_eq rfl) at_81 (by decide) (by decide) all0
        subst e8
        have H43 := H42.ifNo 87 at_84 (XT.i0_ne_f rfl)
        have H44 := H43.iconst 88 (1 : Int32) at_87
        have H45 := H44.goto 92 at_88
        exact H45.retI rfl rfl (by simp) at_92 (by decide) (by decide) rfl
      · have H46 := H35.icmpYes 93 at_68 (XT.ii_ne_t m3)
        obtain ⟨b2, h2, g2, E2, A2, D2, H47⟩ := H46.newO 96 (w 0 rfl) (w 1 rfl) (w 2 rfl) at_93 (by decide) (by decide)
        have F20 : Fld Z h2 b2 "com/example/austere_broker/austerebroker/ProviderName" "brokerName" "Ljava/lang/String;" .null := D2 (Or.inr (w 99 rfl)) (ty := .object "java/lang/String") (by decide)
        have F21 : Fld Z h2 b2 "com/example/austere_broker/austerebroker/ProviderName" "poolId" "Ljava/lang/String;" .null := D2 (Or.inr (w 102 rfl)) (ty := .object "java/lang/String") (by decide)
        have F22 : Fld Z h2 b2 "com/example/austere_broker/austerebroker/ProviderName" "providerId" "Ljava/lang/String;" .null := D2 (Or.inr (w 105 rfl)) (ty := .object "java/lang/String") (by decide)
        have H48 := H47.dup 97 at_96
        have H49 := H48.iloadN 98 at_97 rfl
        obtain ⟨_, h2_0, ⟨u0, rfl, S20⟩, K2_0, H50⟩ := H49.callS 101 (z := ⟨"com/example/austere_broker/austerebroker/ProviderNameEqualsPinLaw", "part", "(I)Ljava/lang/String;"⟩) (w 3 rfl) (w 4 rfl) (w 5 rfl) (w 6 rfl) (by decide) (argsL := [(.int p3)]) (rest := [(.ref b2), (.ref b2)]) (Paid.of_met (W := 2) (metPt hw H49.oldO Sc hzc p3) (w 6 rfl) (w 5 rfl) hEL (by decide) (by decide)) (lenOf pd_0 rfl) rfl (Nat.le_of_eq rfl) at_98 (by decide) (by decide) all0
        have X20 := keepExt K2_0
        have H51 := H50.iload 103 at_101 rfl
        obtain ⟨_, h2_1, ⟨u1, rfl, S21⟩, K2_1, H52⟩ := H51.callS 106 (z := ⟨"com/example/austere_broker/austerebroker/ProviderNameEqualsPinLaw", "part", "(I)Ljava/lang/String;"⟩) (w 3 rfl) (w 4 rfl) (w 5 rfl) (w 6 rfl) (by decide) (argsL := [(.int p4)]) (rest := [(.ref u0), (.ref b2), (.ref b2)]) (Paid.of_met (W := 3) (metPt hw H51.oldO Sc hzc p4) (w 6 rfl) (w 5 rfl) hEL (by decide) (by decide)) (lenOf pd_0 rfl) rfl (Nat.le_of_eq rfl) at_103 (by decide) (by decide) all0
        have X21 := keepExt K2_1
        have H53 := H52.iload 108 at_106 rfl
        obtain ⟨_, h2_2, ⟨u2, rfl, S22⟩, K2_2, H54⟩ := H53.callS 111 (z := ⟨"com/example/austere_broker/austerebroker/ProviderNameEqualsPinLaw", "part", "(I)Ljava/lang/String;"⟩) (w 3 rfl) (w 4 rfl) (w 5 rfl) (w 6 rfl) (by decide) (argsL := [(.int p5)]) (rest := [(.ref u1), (.ref u0), (.ref b2), (.ref b2)]) (Paid.of_met (W := 4) (metPt hw H53.oldO Sc hzc p5) (w 6 rfl) (w 5 rfl) hEL (by decide) (by decide)) (lenOf pd_0 rfl) rfl (Nat.le_of_eq rfl) at_108 (by decide) (by decide) all0
        have X22 := keepExt K2_2
        have Y2 := Ext.trans' X20 (Ext.trans' X21 X22)
        have Q20 := (S20.ext X21).ext X22
        have Q21 := S21.ext X22
        have N2 : ∀ hh : Heap, Keep h2_2 hh [b2] → Str Z hh u0 (prt p3) ∧ Str Z hh u1 (prt p4) ∧ Str Z hh u2 (prt p5) := fun hh K => ⟨Q20.keepX (w 1 rfl) (A2.ext Y2) K, Q21.keepX (w 1 rfl) (A2.ext Y2) K, S22.keepX (w 1 rfl) (A2.ext Y2) K⟩
        obtain ⟨_, h2b, ⟨rfl, T2⟩, K2b, H55⟩ := H54.callI 114 (z := ⟨"com/example/austere_broker/austerebroker/ProviderName", "<init>", "(Ljava/lang/String;Ljava/lang/String;Ljava/lang/String;)V"⟩) rfl (w 40 rfl) (w 41 rfl) (w 42 rfl) (by decide) (a := b2) (argsL := [(.ref u0), (.ref u1), (.ref u2)]) (rest := [(.ref b2)]) (Paid.of_met (W := 1) (metIn hw H54.oldO Sc hzc Sf rf (H54.sf_lt (by simp)).2 (A2.ext Y2) (F20.ext Y2) (F21.ext Y2) (F22.ext Y2) Q20 Q21 S22 N2) (w 42 rfl) (w 2 rfl) hEL (by decide) (by decide)) (lenOf pd_3 rfl) rfl (Nat.le_of_eq rfl) at_111 (by decide) (by decide) (by simp)
        obtain ⟨R20, R21, R22⟩ := N2 _ K2b
        have Z2 : Ext h1b h2b := Ext.keep' (Ext.trans' E2 Y2) K2b (allS (Nat.le_of_eq g2.symm) all0)
        have T1' := T1.ext Z2
        have W0 := R10.ext Z2
        have W1 := R11.ext Z2
        have W2 := R12.ext Z2
        have hne : b1 ≠ b2 := Nat.ne_of_lt (g2 ▸ T1.1.lt)
        have H56 := H55.astore 116 at_114 (L' := #[.val (.int p0), .val (.int p1), .val (.int p2), .val (.int p3), .val (.int p4), .val (.int p5), .val (.ref b1), .val (.int md), .val (.ref b2), .unset]) rfl
        have H57 := H56.iloadN 117 at_116 rfl
        have H58 := H57.iloadN 118 at_117 rfl
        obtain ⟨_, h3, ⟨rfl, e3⟩, K3, H59⟩ := H58.callS 121 (z := ⟨"com/example/austere_broker/austerebroker/ProviderNameEqualsPinLaw", "same", "(II)Z"⟩) (w 106 rfl) (w 107 rfl) (w 5 rfl) (w 108 rfl) (by decide) (argsL := [(.int p0), (.int p3)]) (rest := []) (Paid.of_met (W := 0) (metSm hw H58.oldO p0 p3) (w 108 rfl) (w 5 rfl) hEL (by decide) (by decide)) (lenOf pd_2 rfl) rfl (Nat.le_of_eq rfl) at_118 (by decide) (by decide) all0
        subst e3
        obtain ⟨ex, hex, HJ⟩ : ∃ ex : Int32, ex = (if smf p0 p3 ∧ smf p1 p4 ∧ smf p2 p5 then 1 else 0) ∧ ∃ ce sl, ce ≤ 50 ∧ sl ≤ 3000 ∧ Here k room_1 Z [] n0 x code ret h [] h3 147 #[.val (.int p0), .val (.int p1), .val (.int p2), .val (.int p3), .val (.int p4), .val (.int p5), .val (.ref b1), .val (.int md), .val (.ref b2), .unset] [(.int ex)] ce sl [b2, b1] := by
          by_cases j0 : smf p0 p3
          · rw [if_pos j0] at H59
            have H62 := H59.ifNo 124 at_121 (XT.i0_eq_f (by decide))
            have H63 := H62.iloadN 125 at_124 rfl
            have H64 := H63.iload 127 at_125 rfl
            obtain ⟨_, h3, ⟨rfl, e3⟩, K3, H65⟩ := H64.callS 130 (z := ⟨"com/example/austere_broker/austerebroker/ProviderNameEqualsPinLaw", "same", "(II)Z"⟩) (w 106 rfl) (w 107 rfl) (w 5 rfl) (w 108 rfl) (by decide) (argsL := [(.int p1), (.int p4)]) (rest := []) (Paid.of_met (W := 0) (metSm hw H64.oldO p1 p4) (w 108 rfl) (w 5 rfl) hEL (by decide) (by decide)) (lenOf pd_2 rfl) rfl (Nat.le_of_eq rfl) at_127 (by decide) (by decide) all0
            subst e3
            by_cases j1 : smf p1 p4
            · rw [if_pos j1] at H65
              have H68 := H65.ifNo 133 at_130 (XT.i0_eq_f (by decide))
              have H69 := H68.iloadN 134 at_133 rfl
              have H70 := H69.iload 136 at_134 rfl
              obtain ⟨_, h3, ⟨rfl, e3⟩, K3, H71⟩ := H70.callS 139 (z := ⟨"com/example/austere_broker/austerebroker/ProviderNameEqualsPinLaw", "same", "(II)Z"⟩) (w 106 rfl) (w 107 rfl) (w 5 rfl) (w 108 rfl) (by decide) (argsL := [(.int p2), (.int p5)]) (rest := []) (Paid.of_met (W := 0) (metSm hw H70.oldO p2 p5) (w 108 rfl) (w 5 rfl) hEL (by decide) (by decide)) (lenOf pd_2 rfl) rfl (Nat.le_of_eq rfl) at_136 (by decide) (by decide) all0
              subst e3
              by_cases j2 : smf p2 p5
              · rw [if_pos j2] at H71
                have H74 := H71.ifNo 142 at_139 (XT.i0_eq_f (by decide))
                have H75 := H74.iconst 143 (1 : Int32) at_142
                have H76 := H75.goto 147 at_143
                exact ⟨(1 : Int32), (by rw [if_pos ⟨j0, j1, j2⟩]), _, _, by decide, by decide, H76⟩
              · rw [if_neg j2] at H71
                have H72 := H71.ifYes 146 at_139 (XT.i0_eq_t rfl)
                have H73 := H72.iconst 147 (0 : Int32) at_146
                exact ⟨(0 : Int32), (by rw [if_neg (fun q => j2 q.2.2)]), _, _, by decide, by decide, H73⟩
            · rw [if_neg j1] at H65
              have H66 := H65.ifYes 146 at_130 (XT.i0_eq_t rfl)
              have H67 := H66.iconst 147 (0 : Int32) at_146
              exact ⟨(0 : Int32), (by rw [if_neg (fun q => j1 q.2.1)]), _, _, by decide, by decide, H67⟩
          · rw [if_neg j0] at H59
            have H60 := H59.ifYes 146 at_121 (XT.i0_eq_t rfl)
            have H61 := H60.iconst 147 (0 : Int32) at_146
            exact ⟨(0 : Int32), (by rw [if_neg (fun q => j0 q.1)]), _, _, by decide, by decide, H61⟩
        obtain ⟨ce, sl, hce, hsl, HJ⟩ := HJ
        have H77 := HJ.more (ce' := 50) (sl' := 3000) hce hsl (fun _ q => q)
        have H78 := H77.istore 149 at_147 (L' := #[.val (.int p0), .val (.int p1), .val (.int p2), .val (.int p3), .val (.int p4), .val (.int p5), .val (.ref b1), .val (.int md), .val (.ref b2), .val (.int ex)]) rfl
        have H79 := H78.aload 151 at_149 rfl
        have H80 := H79.aload 153 at_151 rfl
        obtain ⟨_, h8, ⟨e8, rfl⟩, K8, H81⟩ := H80.callV 156 (z := ⟨"com/example/austere_broker/austerebroker/ProviderName", "equals", "(Ljava/lang/Object;)Z"⟩) (z1 := ⟨"com/example/austere_broker/austerebroker/ProviderName", "equals", "(Ljava/lang/Object;)Z"⟩) (C := "com/example/austere_broker/austerebroker/ProviderName") (w 109 rfl) (w 110 rfl) (w 112 rfl) (w 111 rfl) (by decide) (a := b1) T1'.1 (argsL := [(.ref b2)]) (rest := []) (Paid.of_met (W := 0) (metE4 hw H80.oldO Sc hzc hne T1' T2 W0 W1 W2 R20 R21 R22) (w 113 rfl) (w 2 rfl) hEL (by decide) (by decide)) (lenOf pd_5 rfl) rfl (Nat.le_of_eq rfl) at_153 (by decide) (by decide) all0
        subst e8
        rw [← (show ex = (if prt p0 = prt p3 ∧ prt p1 = prt p4 ∧ prt p2 = prt p5 then 1 else 0) by rw [hex]; simp only [prt_eq])] at H81
        have H82 := H81.iload 158 at_156 rfl
        have H83 := H82.icmpNo 161 at_158 (XT.ii_ne_f rfl)
        have H84 := H83.aload 163 at_161 rfl
        have H85 := H84.aload 165 at_163 rfl
        obtain ⟨_, h9, ⟨e9, rfl⟩, K9, H86⟩ := H85.callV 168 (z := ⟨"com/example/austere_broker/austerebroker/ProviderName", "equals", "(Ljava/lang/Object;)Z"⟩) (z1 := ⟨"com/example/austere_broker/austerebroker/ProviderName", "equals", "(Ljava/lang/Object;)Z"⟩) (C := "com/example/austere_broker/austerebroker/ProviderName") (w 109 rfl) (w 110 rfl) (w 112 rfl) (w 111 rfl) (by decide) (a := b2) T2.1 (argsL := [(.ref b1)]) (rest := []) (Paid.of_met (W := 0) (metE4 hw H85.oldO Sc hzc (Ne.symm hne) T2 T1' R20 R21 R22 W0 W1 W2) (w 113 rfl) (w 2 rfl) hEL (by decide) (by decide)) (lenOf pd_5 rfl) rfl (Nat.le_of_eq rfl) at_165 (by decide) (by decide) all0
        subst e9
        rw [← (show ex = (if prt p3 = prt p0 ∧ prt p4 = prt p1 ∧ prt p5 = prt p2 then 1 else 0) by rw [hex]; simp only [← prt_eq, @eq_comm _ (prt p0), @eq_comm _ (prt p1), @eq_comm _ (prt p2)])] at H86
        have H87 := H86.iload 170 at_168 rfl
        have H88 := H87.icmpNo 173 at_170 (XT.ii_ne_f rfl)
        have H89 := H88.iconst 174 (1 : Int32) at_173
        have H90 := H89.goto 178 at_174
        exact H90.retI rfl rfl (by simp) at_178 (by decide) (by decide) rfl

set_option maxRecDepth 65536 in
set_option maxHeartbeats 4000000 in
theorem comes_1 {Post : Tables → Env → Array Value → State → Outcome → State → Prop} (hpost : ∀ tb e args s v u, (limb_1_1.after args s (.returned v) u = true ∧ limb_1_2.after args s (.returned v) u = true ∧ True) → FramedW s (.returned v) u (Jvm.fieldLocs frame_1_writes args s ++ Jvm.arrayLocs frame_1_arrays args s ++ Jvm.staticLocs frame_1_statics s) 56 3264 → Post tb e args s (.returned v) u) :
    ArmFor flags0 classFile x code maxLocals ret World_1 tables_1 room_1 Calls_1 rest_1 Pre_1 Post := by
  intro l hfl _ _ p e ha hc hk s m args below hf hA hF happ hP
  obtain ⟨hcalls, hrest, hpre⟩ := hP
  obtain ⟨-, -, -, hnamed, -, -, -, hat⟩ := (Spec.applies_iff hf).mp happ
  obtain ⟨hg, hn⟩ := and_e (Cond.before_iff.mp (show (Jvm.Cond.and given_1 narrow_1).before args s = true from hpre))
  obtain ⟨a0, b0⟩ := and_e hg
  obtain ⟨a1, b1⟩ := and_e b0
  obtain ⟨a2, b2⟩ := and_e b1
  obtain ⟨a3, b3⟩ := and_e b2
  obtain ⟨a4, b4⟩ := and_e b3
  obtain ⟨a5, b5⟩ := and_e b4
  obtain ⟨w0, w1, w2, w3, w4, w5, rfl⟩ : ∃ w0 w1 w2 w3 w4 w5 : Value, args = #[w0, w1, w2, w3, w4, w5] := by
    have hs : args.size = 6 := by simpa [Cond.value, given_1] using a0
    obtain ⟨L⟩ := args
    match L, hs with
    | [w0, w1, w2, w3, w4, w5], _ => exact ⟨w0, w1, w2, w3, w4, w5, rfl⟩
  obtain ⟨i0, f0⟩ := is_v a1
  obtain rfl : w0 = (.int i0) := Option.some.inj f0
  obtain ⟨i1, f1⟩ := is_v a2
  obtain rfl : w1 = (.int i1) := Option.some.inj f1
  obtain ⟨i2, f2⟩ := is_v a3
  obtain rfl : w2 = (.int i2) := Option.some.inj f2
  obtain ⟨i3, f3⟩ := is_v a4
  obtain rfl : w3 = (.int i3) := Option.some.inj f3
  obtain ⟨i4, f4⟩ := is_v a5
  obtain rfl : w4 = (.int i4) := Option.some.inj f4
  obtain ⟨i5, f5⟩ := is_v b5
  obtain rfl : w5 = (.int i5) := Option.some.inj f5
  have hw := fun d (hd : d ∈ tables_1) => atoms_spec (ws := Jvm.Cond.code x code maxLocals ret :: tables_1) hat d (List.mem_cons_of_mem _ hd)
  have w : ∀ (i : Nat) {d : Jvm.Cond}, tables_1[i]? = some d → d.before _ s = true := fun i d q => hw d (List.mem_of_getElem? q)
  obtain ⟨hsets, hown0⟩ := atoms_of _ (rest_1_c_eq ▸ (show rest_1_c.before _ s = true from hrest))
  have n5 := not_v (Cond.before_iff.mp (hsets _ (List.mem_of_getElem? (i := 2) rfl)))
  obtain ⟨zc, e10⟩ := is_v (Cond.before_iff.mp (hsets _ (List.mem_of_getElem? (i := 1) rfl)))
  have Sc : Sta s s.heap "java/lang/String" "COMPACT_STRINGS" "Z" (.int zc) := Sta.start e10 (Or.inl (hsets _ (List.mem_of_getElem? (i := 0) rfl)))
  have hzc : ¬ (zc = (0 : Int32)) := gotF (Cond.eq_ints e10 (Term.int_eval (0))) n5
  obtain ⟨fm, e14, rf⟩ := isR_v (Cond.before_iff.mp (hsets _ (List.mem_of_getElem? (i := 8) rfl)))
  have Sf : Sta s s.heap "jdk/internal/util/Preconditions" "SIOOBE_FORMATTER" "Ljava/util/function/BiFunction;" fm := Sta.start e14 (Or.inl (hsets _ (List.mem_of_getElem? (i := 7) rfl)))
  obtain ⟨n, o, h1, h2, h3, v, L, rfl, ⟨rfl, hK, N⟩, hCr, hq⟩ := (metL hw (Old.start s) Sc hzc Sf rf i0 i1 i2 i3 i4 i5) l tables_1 p e ha hc hk s m _ below hf ((Spec.applies_iff_loose hf).mp happ).1 ⟨rfl, State.Warmed39.refl s, rfl, (fun p hp => nomatch hp), all0⟩ trivial
  refine ⟨n, _, h1, h2, h3, hpost _ _ _ _ _ _ ⟨Cond.after_iff.mpr rfl, Cond.after_iff.mpr (eq_i res_at (Term.int_eval (1)) rfl), trivial⟩ ⟨hq.1, hq.2.1, hq.2.2.1, (hq.2.2.2.sift fun y hy => Or.inr (N y hy)).mono (by decide) (by decide)⟩⟩
theorem main_1_1 : Claimed_1_1 := comes_1 fun _ _ _ _ _ _ h hF => ⟨h.1, hF⟩
theorem main_1_2 : Claimed_1_2 := comes_1 fun _ _ _ _ _ _ h hF => ⟨h.2.1, hF⟩
end Jvm.Pilot.@@N@@
namespace Jvm.Pilot.@@N@@
open Jvm Jvm.ClassFile Sem Op Lib Jvm.Free Jvm.Stand Jvm.Pilot.@@N@@.Jvm.D
/-! MADE BY PROGRAM (witnessworld.py) out of the Statement's table words and the real class files: 22 classes; the members and pool entries that the words name. The judged class is class 1, her method 4. -/
namespace start1
open Jvm.ClassFile
def u (s : String) : CpInfo := .utf8 (stringToUtf16 s)
/-- a pool by its gaps: so many unusable entries, then the entry; so many at the end -/
def gap : Nat → List CpInfo → List CpInfo
  | 0, r => r
  | n + 1, r => .unusable :: gap n r
def poolList (es : List (Nat × CpInfo)) (last : Nat) : List CpInfo := es.foldr (fun e r => gap e.1 (e.2 :: r)) (gap last [])
def pool (es : List (Nat × CpInfo)) (last : Nat) : Array CpInfo := ⟨poolList es last⟩
def fileOf (pool : Array CpInfo) (this : Nat) (attrs : Array Attribute := #[]) (ms : Array MethodInfo := #[]) (fl : Nat := 33) (sup : Nat := 0) (ifs : Array Nat := #[]) (fds : Array FieldInfo := #[]) : ClassFile where
  minorVersion := 0
  majorVersion := 65
  constantPool := pool
  accessFlags := fl
  thisClass := this
  superClass := sup
  interfaces := ifs
  fields := fds
  methods := ms
  attributes := attrs
def plain (name : String) (sup : Option ClassId) : Class where
  name := name
  kind := .ordinary
  loader := none
  accessFlags := 33
  super := sup
  interfaces := #[]
  cf := none
  fields := #[]
  methods := #[]
  instanceTypes := #[]
  staticTypes := #[]
  resolved := #[]
  callSites := []
  init := .initialized
  statics := none
  mirror := none

def pool0 : Array CpInfo := pool [(5, u "<init>"), (0, u "()V"), (1, .class_ 10), (1, u "java/lang/Object")] 113

def k0c0 : Code := { maxStack := 0, maxLocals := 1, code := object_method_1_code, exceptionTable := #[], attributes := #[] }
def k0m0 : Method := { name := "<init>", desc := "()V", sig := { parameters := [], returnType := none }, accessFlags := 1, code := some k0c0 }
/-- java/lang/Object -/
def k0 : Class := { plain "java/lang/Object" none with
  accessFlags := 33
  interfaces := #[]
  cf := some (fileOf pool0 8 #[] #[{ accessFlags := 1, nameIndex := 5, descriptorIndex := 6, attributes := #[] }] 33 0 #[] #[])
  fields := #[]
  methods := #[k0m0]
  instanceTypes := #[]
  staticTypes := #[]
  resolved := Array.replicate 124 none
  statics := none }

def pool1 : Array CpInfo := pool [(2, .class_ 4), (1, u "java/lang/Object"), (0, u "<init>"), (0, u "()V"), (0, .methodref 8 9), (0, .class_ 10), (0, .nameAndType 11 12), (0, u "com/example/austere_broker/austerebroker/ProviderNameEqualsPinLaw"), (0, u "ch"), (0, u "(I)C"), (0, .class_ 14), (0, u "java/lang/String"), (0, .methodref 13 16), (0, .nameAndType 5 17), (0, u "([C)V"), (0, .class_ 19), (0, u "com/example/austere_broker/austerebroker/ProviderName"), (0, .methodref 8 21), (0, .nameAndType 22 23), (0, u "part"), (0, u "(I)Ljava/lang/String;"), (0, .methodref 18 25), (0, .nameAndType 5 26), (0, u "(Ljava/lang/String;Ljava/lang/String;Ljava/lang/String;)V"), (0, .methodref 18 28), (0, .nameAndType 29 30), (0, u "equals"), (0, u "(Ljava/lang/Object;)Z"), (0, .methodref 8 32), (0, .nameAndType 33 34), (0, u "same"), (0, u "(II)Z"), (3, u "law"), (0, u "(IIIIII)Z")] 2

def k1m0 : Method := { name := "<init>", desc := "()V", sig := { parameters := [], returnType := none }, accessFlags := 1, code := none }
def k1c1 : Code := { maxStack := 2, maxLocals := 1, code := method_2_code, exceptionTable := #[], attributes := #[] }
def k1m1 : Method := { name := "ch", desc := "(I)C", sig := { parameters := [.int], returnType := some .char }, accessFlags := 10, code := some k1c1 }
def k1c2 : Code := { maxStack := 3, maxLocals := 4, code := method_3_code, exceptionTable := #[], attributes := #[] }
def k1m2 : Method := { name := "part", desc := "(I)Ljava/lang/String;", sig := { parameters := [.int], returnType := some (.object "java/lang/String") }, accessFlags := 10, code := some k1c2 }
def k1c3 : Code := { maxStack := 3, maxLocals := 4, code := method_4_code, exceptionTable := #[], attributes := #[] }
def k1m3 : Method := { name := "same", desc := "(II)Z", sig := { parameters := [.int, .int], returnType := some .boolean }, accessFlags := 10, code := some k1c3 }
def k1c4 : Code := { maxStack := 5, maxLocals := 10, code := code, exceptionTable := #[], attributes := #[] }
def k1m4 : Method := { name := "law", desc := "(IIIIII)Z", sig := { parameters := [.int, .int, .int, .int, .int, .int], returnType := some .boolean }, accessFlags := 9, code := some k1c4 }
/-- com/example/austere_broker/austerebroker/ProviderNameEqualsPinLaw -/
def k1 : Class := { plain "com/example/austere_broker/austerebroker/ProviderNameEqualsPinLaw" (some 0) with
  accessFlags := 49
  interfaces := #[]
  cf := some (fileOf pool1 8 #[] #[{ accessFlags := 1, nameIndex := 5, descriptorIndex := 6, attributes := #[] }, { accessFlags := 10, nameIndex := 11, descriptorIndex := 12, attributes := #[] }, { accessFlags := 10, nameIndex := 22, descriptorIndex := 23, attributes := #[] }, { accessFlags := 10, nameIndex := 33, descriptorIndex := 34, attributes := #[] }, { accessFlags := 9, nameIndex := 38, descriptorIndex := 39, attributes := #[] }] 49 2 #[] #[])
  fields := #[]
  methods := #[k1m0, k1m1, k1m2, k1m3, k1m4]
  instanceTypes := #[]
  staticTypes := #[]
  resolved := Array.replicate 42 none
  statics := none }

def pool2 : Array CpInfo := pool [(1, .methodref 2 3), (0, .class_ 4), (0, .nameAndType 5 6), (0, u "java/lang/Object"), (0, u "<init>"), (0, u "()V"), (0, .string 8), (0, u "broker name"), (0, .methodref 10 11), (0, .class_ 12), (0, .nameAndType 13 14), (0, u "com/example/austere_broker/austerebroker/ProviderName"), (0, u "requirePart"), (0, u "(Ljava/lang/String;Ljava/lang/String;)Ljava/lang/String;"), (0, .fieldref 10 16), (0, .nameAndType 17 18), (0, u "brokerName"), (0, u "Ljava/lang/String;"), (0, .string 20), (0, u "pool id"), (0, .fieldref 10 22), (0, .nameAndType 23 18), (0, u "poolId"), (0, .string 25), (0, u "provider id"), (0, .fieldref 10 27), (0, .nameAndType 28 18), (0, u "providerId"), (2, .methodref 32 33), (0, .class_ 34), (0, .nameAndType 35 36), (0, u "java/util/Objects"), (0, u "requireNonNull"), (0, u "(Ljava/lang/Object;Ljava/lang/String;)Ljava/lang/Object;"), (3, .class_ 42), (1, u "java/lang/String"), (21, .methodref 40 65), (0, .nameAndType 66 67), (0, u "equals"), (0, u "(Ljava/lang/Object;)Z"), (4, u "(Ljava/lang/String;Ljava/lang/String;Ljava/lang/String;)V"), (16, .methodref 40 90), (0, .nameAndType 91 92), (0, u "isEmpty"), (0, u "()Z"), (1, .methodref 40 95), (0, .nameAndType 96 97), (0, u "length"), (0, u "()I"), (0, .methodref 40 99), (0, .nameAndType 100 101), (0, u "charAt"), (0, u "(I)C"), (0, .methodref 103 104), (0, .class_ 105), (0, .nameAndType 106 107), (0, u "java/lang/Character"), (0, u "isISOControl"), (0, u "(C)Z"), (1, u "WRONG_SHAPE")] 39

def k2c0 : Code := { maxStack := 3, maxLocals := 4, code := prog_15_method_1_code, exceptionTable := #[], attributes := #[] }
def k2m0 : Method := { name := "<init>", desc := "(Ljava/lang/String;Ljava/lang/String;Ljava/lang/String;)V", sig := { parameters := [(.object "java/lang/String"), (.object "java/lang/String"), (.object "java/lang/String")], returnType := none }, accessFlags := 1, code := some k2c0 }
def k2c1 : Code := { maxStack := 2, maxLocals := 3, code := prog_15_method_7_code, exceptionTable := #[], attributes := #[] }
def k2m1 : Method := { name := "equals", desc := "(Ljava/lang/Object;)Z", sig := { parameters := [(.object "java/lang/Object")], returnType := some .boolean }, accessFlags := 1, code := some k2c1 }
def k2c2 : Code := { maxStack := 3, maxLocals := 4, code := prog_15_method_11_code, exceptionTable := #[], attributes := #[] }
def k2m2 : Method := { name := "requirePart", desc := "(Ljava/lang/String;Ljava/lang/String;)Ljava/lang/String;", sig := { parameters := [(.object "java/lang/String"), (.object "java/lang/String")], returnType := some (.object "java/lang/String") }, accessFlags := 10, code := some k2c2 }
/-- com/example/austere_broker/austerebroker/ProviderName -/
def k2 : Class := { plain "com/example/austere_broker/austerebroker/ProviderName" (some 0) with
  accessFlags := 49
  interfaces := #[]
  cf := some (fileOf pool2 10 #[] #[{ accessFlags := 1, nameIndex := 5, descriptorIndex := 72, attributes := #[] }, { accessFlags := 1, nameIndex := 66, descriptorIndex := 67, attributes := #[] }, { accessFlags := 10, nameIndex := 13, descriptorIndex := 14, attributes := #[] }] 49 2 #[] #[{ accessFlags := 26, nameIndex := 109, descriptorIndex := 18, attributes := #[] }, { accessFlags := 18, nameIndex := 17, descriptorIndex := 18, attributes := #[] }, { accessFlags := 18, nameIndex := 23, descriptorIndex := 18, attributes := #[] }, { accessFlags := 18, nameIndex := 28, descriptorIndex := 18, attributes := #[] }])
  fields := #[{ name := "WRONG_SHAPE", type := (.object "java/lang/String"), accessFlags := 26, slot := 0, constantValue := 0 }, { name := "brokerName", type := (.object "java/lang/String"), accessFlags := 18, slot := 0, constantValue := 0 }, { name := "poolId", type := (.object "java/lang/String"), accessFlags := 18, slot := 1, constantValue := 0 }, { name := "providerId", type := (.object "java/lang/String"), accessFlags := 18, slot := 2, constantValue := 0 }]
  methods := #[k2m0, k2m1, k2m2]
  instanceTypes := #[(.object "java/lang/String"), (.object "java/lang/String"), (.object "java/lang/String")]
  staticTypes := #[(.object "java/lang/String")]
  resolved := Array.replicate 149 none
  statics := none }

def pool3 : Array CpInfo := pool [(1, .class_ 2), (0, u "java/io/Serializable"), (0, .class_ 4), (0, u "java/lang/Object")] 2

/-- java/io/Serializable -/
def k3 : Class := { plain "java/io/Serializable" (some 0) with
  accessFlags := 1537
  interfaces := #[]
  cf := some (fileOf pool3 1 #[] #[] 1537 3 #[] #[])
  fields := #[]
  methods := #[]
  instanceTypes := #[]
  staticTypes := #[]
  resolved := Array.replicate 7 none
  statics := none }

def pool4 : Array CpInfo := pool [(1, .class_ 2), (0, u "java/lang/Comparable"), (0, .class_ 4), (0, u "java/lang/Object")] 7

/-- java/lang/Comparable -/
def k4 : Class := { plain "java/lang/Comparable" (some 0) with
  accessFlags := 1537
  interfaces := #[]
  cf := some (fileOf pool4 1 #[] #[] 1537 3 #[] #[])
  fields := #[]
  methods := #[]
  instanceTypes := #[]
  staticTypes := #[]
  resolved := Array.replicate 12 none
  statics := none }

def pool5 : Array CpInfo := pool [(2, .class_ 4), (1, u "java/lang/CharSequence"), (42, .class_ 48), (0, u "java/lang/CharSequence$1CodePointIterator"), (10, .class_ 60), (0, u "java/lang/CharSequence$1CharIterator"), (5, .class_ 67), (0, u "java/lang/Object")] 63

/-- java/lang/CharSequence -/
def k5 : Class := { plain "java/lang/CharSequence" (some 0) with
  accessFlags := 1537
  interfaces := #[]
  cf := some (fileOf pool5 2 #[.nestMembers #[47, 59]] #[] 1537 66 #[] #[])
  fields := #[]
  methods := #[]
  instanceTypes := #[]
  staticTypes := #[]
  resolved := Array.replicate 131 none
  statics := none }

def pool6 : Array CpInfo := pool [(1, .class_ 2), (0, u "java/lang/constant/Constable"), (0, .class_ 4), (0, u "java/lang/Object")] 6

/-- java/lang/constant/Constable -/
def k6 : Class := { plain "java/lang/constant/Constable" (some 0) with
  accessFlags := 1537
  interfaces := #[]
  cf := some (fileOf pool6 1 #[] #[] 1537 3 #[] #[])
  fields := #[]
  methods := #[]
  instanceTypes := #[]
  staticTypes := #[]
  resolved := Array.replicate 11 none
  statics := none }

def pool7 : Array CpInfo := pool [(1, .class_ 2), (0, u "java/lang/constant/ConstantDesc"), (0, .class_ 4), (0, u "java/lang/Object")] 32

/-- java/lang/constant/ConstantDesc -/
def k7 : Class := { plain "java/lang/constant/ConstantDesc" (some 0) with
  accessFlags := 1537
  interfaces := #[]
  cf := some (fileOf pool7 1 #[] #[] 1537 3 #[] #[])
  fields := #[]
  methods := #[]
  instanceTypes := #[]
  staticTypes := #[]
  resolved := Array.replicate 37 none
  statics := none }

def pool8 : Array CpInfo := pool [(1, .methodref 2 3), (0, .class_ 4), (0, .nameAndType 5 6), (0, u "java/lang/Object"), (0, u "<init>"), (0, u "()V"), (2, .fieldref 10 11), (0, .class_ 12), (0, .nameAndType 13 14), (0, u "java/lang/String"), (0, u "value"), (0, u "[B"), (0, .fieldref 10 16), (0, .nameAndType 17 18), (0, u "coder"), (0, u "B"), (2, u "hash"), (0, u "I"), (2, u "hashIsZero"), (0, u "Z"), (0, .methodref 10 28), (0, .nameAndType 5 29), (0, u "([CIILjava/lang/Void;)V"), (8, .fieldref 10 39), (0, .nameAndType 40 26), (0, u "COMPACT_STRINGS"), (1, .class_ 44), (1, u "java/lang/StringUTF16"), (0, u "compress"), (1, .methodref 42 48), (0, .nameAndType 49 50), (0, u "coderFromArrayLen"), (0, u "([BI)B"), (56, .class_ 109), (1, u "java/lang/StringLatin1"), (32, u "()Z"), (34, .methodref 42 178), (0, .nameAndType 45 179), (0, u "([CII)[B"), (154, u "()I"), (0, .methodref 10 336), (0, .nameAndType 17 337), (0, u "()B"), (25, u "([BI)C"), (27, u "(II)V"), (35, u "(I)C"), (64, .methodref 10 493), (0, .nameAndType 494 142), (0, u "isLatin1"), (0, .methodref 107 496), (0, .nameAndType 497 363), (0, u "charAt"), (3, u "checkIndex"), (5, u "length"), (33, .methodref 107 542), (0, .nameAndType 543 544), (0, u "equals"), (0, u "([B[B)Z"), (28, u "(Ljava/lang/Object;)Z"), (1, .class_ 576), (0, u "java/lang/CharSequence"), (22, u "CASE_INSENSITIVE_ORDER"), (0, u "Ljava/util/Comparator;"), (91, u "isEmpty"), (317, u "([C)V"), (42, .fieldref 1054 1055), (0, .class_ 1056), (0, .nameAndType 1057 1058), (0, u "jdk/internal/util/Preconditions"), (0, u "SIOOBE_FORMATTER"), (0, u "Ljava/util/function/BiFunction;"), (0, .methodref 1054 1060), (0, .nameAndType 501 1061), (0, u "(IILjava/util/function/BiFunction;)I"), (39, u "serialPersistentFields"), (0, u "[Ljava/io/ObjectStreamField;"), (0, .class_ 1104), (0, u "java/lang/String$CaseInsensitiveComparator"), (1, .class_ 1107), (0, u "java/io/Serializable"), (0, .class_ 1109), (0, u "java/lang/Comparable"), (0, .class_ 1111), (0, u "java/lang/constant/Constable"), (0, .class_ 1113), (0, u "java/lang/constant/ConstantDesc"), (2, u "serialVersionUID"), (0, u "J"), (3, u "REPL"), (0, u "C"), (2, u "LATIN1"), (1, u "UTF16")] 323

def k8m0 : Method := { name := "<init>", desc := "()V", sig := { parameters := [], returnType := none }, accessFlags := 1, code := none }
def k8c1 : Code := { maxStack := 5, maxLocals := 2, code := jdk_42_method_3_code, exceptionTable := #[], attributes := #[] }
def k8m1 : Method := { name := "<init>", desc := "([C)V", sig := { parameters := [(.array .char)], returnType := none }, accessFlags := 1, code := some k8c1 }
def k8c2 : Code := { maxStack := 2, maxLocals := 1, code := jdk_42_method_54_code, exceptionTable := #[], attributes := #[] }
def k8m2 : Method := { name := "length", desc := "()I", sig := { parameters := [], returnType := some .int }, accessFlags := 1, code := some k8c2 }
def k8c3 : Code := { maxStack := 1, maxLocals := 1, code := jdk_42_method_55_code, exceptionTable := #[], attributes := #[] }
def k8m3 : Method := { name := "isEmpty", desc := "()Z", sig := { parameters := [], returnType := some .boolean }, accessFlags := 1, code := some k8c3 }
def k8c4 : Code := { maxStack := 2, maxLocals := 2, code := jdk_42_method_56_code, exceptionTable := #[], attributes := #[] }
def k8m4 : Method := { name := "charAt", desc := "(I)C", sig := { parameters := [.int], returnType := some .char }, accessFlags := 1, code := some k8c4 }
def k8c5 : Code := { maxStack := 2, maxLocals := 3, code := jdk_42_method_66_code, exceptionTable := #[], attributes := #[] }
def k8m5 : Method := { name := "equals", desc := "(Ljava/lang/Object;)Z", sig := { parameters := [(.object "java/lang/Object")], returnType := some .boolean }, accessFlags := 1, code := some k8c5 }
def k8c6 : Code := { maxStack := 4, maxLocals := 6, code := jdk_42_method_149_code, exceptionTable := #[], attributes := #[] }
def k8m6 : Method := { name := "<init>", desc := "([CIILjava/lang/Void;)V", sig := { parameters := [(.array .char), .int, .int, (.object "java/lang/Void")], returnType := none }, accessFlags := 2, code := some k8c6 }
def k8c7 : Code := { maxStack := 1, maxLocals := 1, code := jdk_42_method_152_code, exceptionTable := #[], attributes := #[] }
def k8m7 : Method := { name := "coder", desc := "()B", sig := { parameters := [], returnType := some .byte }, accessFlags := 0, code := some k8c7 }
def k8c8 : Code := { maxStack := 1, maxLocals := 1, code := jdk_42_method_154_code, exceptionTable := #[], attributes := #[] }
def k8m8 : Method := { name := "isLatin1", desc := "()Z", sig := { parameters := [], returnType := some .boolean }, accessFlags := 0, code := some k8c8 }
def k8c9 : Code := { maxStack := 3, maxLocals := 2, code := jdk_42_method_155_code, exceptionTable := #[], attributes := #[] }
def k8m9 : Method := { name := "checkIndex", desc := "(II)V", sig := { parameters := [.int, .int], returnType := none }, accessFlags := 8, code := some k8c9 }
/-- java/lang/String -/
def k8 : Class := { plain "java/lang/String" (some 0) with
  accessFlags := 49
  interfaces := #[3, 4, 5, 6, 7]
  cf := some (fileOf pool8 10 #[.nestMembers #[1103]] #[{ accessFlags := 1, nameIndex := 5, descriptorIndex := 6, attributes := #[] }, { accessFlags := 1, nameIndex := 5, descriptorIndex := 1010, attributes := #[] }, { accessFlags := 1, nameIndex := 507, descriptorIndex := 334, attributes := #[] }, { accessFlags := 1, nameIndex := 692, descriptorIndex := 142, attributes := #[] }, { accessFlags := 1, nameIndex := 497, descriptorIndex := 427, attributes := #[] }, { accessFlags := 1, nameIndex := 543, descriptorIndex := 573, attributes := #[] }, { accessFlags := 2, nameIndex := 5, descriptorIndex := 29, attributes := #[] }, { accessFlags := 0, nameIndex := 17, descriptorIndex := 337, attributes := #[] }, { accessFlags := 0, nameIndex := 494, descriptorIndex := 142, attributes := #[] }, { accessFlags := 8, nameIndex := 501, descriptorIndex := 391, attributes := #[] }] 49 2 #[1106, 1108, 575, 1110, 1112] #[{ accessFlags := 18, nameIndex := 13, descriptorIndex := 14, attributes := #[] }, { accessFlags := 18, nameIndex := 17, descriptorIndex := 18, attributes := #[] }, { accessFlags := 2, nameIndex := 21, descriptorIndex := 22, attributes := #[] }, { accessFlags := 2, nameIndex := 25, descriptorIndex := 26, attributes := #[] }, { accessFlags := 26, nameIndex := 1116, descriptorIndex := 1117, attributes := #[] }, { accessFlags := 24, nameIndex := 40, descriptorIndex := 26, attributes := #[] }, { accessFlags := 26, nameIndex := 1101, descriptorIndex := 1102, attributes := #[] }, { accessFlags := 26, nameIndex := 1121, descriptorIndex := 1122, attributes := #[] }, { accessFlags := 25, nameIndex := 599, descriptorIndex := 600, attributes := #[] }, { accessFlags := 24, nameIndex := 1125, descriptorIndex := 18, attributes := #[] }, { accessFlags := 24, nameIndex := 1127, descriptorIndex := 18, attributes := #[] }])
  fields := #[{ name := "value", type := (.array .byte), accessFlags := 18, slot := 0, constantValue := 0 }, { name := "coder", type := .byte, accessFlags := 18, slot := 1, constantValue := 0 }, { name := "hash", type := .int, accessFlags := 2, slot := 2, constantValue := 0 }, { name := "hashIsZero", type := .boolean, accessFlags := 2, slot := 3, constantValue := 0 }, { name := "serialVersionUID", type := .long, accessFlags := 26, slot := 0, constantValue := 0 }, { name := "COMPACT_STRINGS", type := .boolean, accessFlags := 24, slot := 1, constantValue := 0 }, { name := "serialPersistentFields", type := (.array (.object "java/io/ObjectStreamField")), accessFlags := 26, slot := 2, constantValue := 0 }, { name := "REPL", type := .char, accessFlags := 26, slot := 3, constantValue := 0 }, { name := "CASE_INSENSITIVE_ORDER", type := (.object "java/util/Comparator"), accessFlags := 25, slot := 4, constantValue := 0 }, { name := "LATIN1", type := .byte, accessFlags := 24, slot := 5, constantValue := 0 }, { name := "UTF16", type := .byte, accessFlags := 24, slot := 6, constantValue := 0 }]
  methods := #[k8m0, k8m1, k8m2, k8m3, k8m4, k8m5, k8m6, k8m7, k8m8, k8m9]
  instanceTypes := #[(.array .byte), .byte, .int, .boolean]
  staticTypes := #[.long, .boolean, (.array (.object "java/io/ObjectStreamField")), .char, (.object "java/util/Comparator"), .byte, .byte]
  resolved := Array.replicate 1451 none
  statics := some 0 }

def pool9 : Array CpInfo := pool [(6, .class_ 8), (1, u "java/lang/Object"), (0, u "<init>"), (0, u "()V"), (1, .class_ 14), (1, u "java/lang/StringUTF16"), (31, u "$assertionsDisabled"), (0, u "Z"), (13, u "HI_BYTE_SHIFT"), (0, u "I"), (2, u "LO_BYTE_SHIFT"), (49, .methodref 12 116), (0, .nameAndType 117 118), (0, u "compress"), (0, u "([CI[BII)I"), (3, u "([CII)[B"), (138, u "coderFromArrayLen"), (0, u "([BI)B"), (106, .class_ 371), (1, u "java/lang/StringUTF16$LinesSpliterator"), (58, u "MAX_LENGTH"), (196, .class_ 628), (0, u "java/lang/StringUTF16$CodePointsSpliterator"), (0, .class_ 630), (0, u "java/lang/StringUTF16$CharsSpliterator")] 4

def k9m0 : Method := { name := "<init>", desc := "()V", sig := { parameters := [], returnType := none }, accessFlags := 0, code := none }
def k9c1 : Code := { maxStack := 2, maxLocals := 2, code := jdk_52_method_15_code, exceptionTable := #[], attributes := #[] }
def k9m1 : Method := { name := "coderFromArrayLen", desc := "([BI)B", sig := { parameters := [(.array .byte), .int], returnType := some .byte }, accessFlags := 8, code := some k9c1 }
def k9c2 : Code := { maxStack := 5, maxLocals := 6, code := jdk_52_method_16_code, exceptionTable := #[], attributes := #[] }
def k9m2 : Method := { name := "compress", desc := "([CII)[B", sig := { parameters := [(.array .char), .int, .int], returnType := some (.array .byte) }, accessFlags := 9, code := some k9c2 }
def k9c3 : Code := { maxStack := 3, maxLocals := 7, code := jdk_52_method_21_code, exceptionTable := #[], attributes := #[] }
def k9m3 : Method := { name := "compress", desc := "([CI[BII)I", sig := { parameters := [(.array .char), .int, (.array .byte), .int, .int], returnType := some .int }, accessFlags := 9, code := some k9c3 }
/-- java/lang/StringUTF16 -/
def k9 : Class := { plain "java/lang/StringUTF16" (some 0) with
  accessFlags := 48
  interfaces := #[]
  cf := some (fileOf pool9 12 #[.nestMembers #[627, 629, 369]] #[{ accessFlags := 0, nameIndex := 9, descriptorIndex := 10, attributes := #[] }, { accessFlags := 8, nameIndex := 261, descriptorIndex := 262, attributes := #[] }, { accessFlags := 9, nameIndex := 117, descriptorIndex := 122, attributes := #[] }, { accessFlags := 9, nameIndex := 117, descriptorIndex := 118, attributes := #[] }] 48 6 #[] #[{ accessFlags := 26, nameIndex := 61, descriptorIndex := 62, attributes := #[] }, { accessFlags := 26, nameIndex := 65, descriptorIndex := 62, attributes := #[] }, { accessFlags := 24, nameIndex := 430, descriptorIndex := 62, attributes := #[] }, { accessFlags := 4120, nameIndex := 46, descriptorIndex := 47, attributes := #[] }])
  fields := #[{ name := "HI_BYTE_SHIFT", type := .int, accessFlags := 26, slot := 0, constantValue := 0 }, { name := "LO_BYTE_SHIFT", type := .int, accessFlags := 26, slot := 1, constantValue := 0 }, { name := "MAX_LENGTH", type := .int, accessFlags := 24, slot := 2, constantValue := 0 }, { name := "$assertionsDisabled", type := .boolean, accessFlags := 4120, slot := 3, constantValue := 0 }]
  methods := #[k9m0, k9m1, k9m2, k9m3]
  instanceTypes := #[]
  staticTypes := #[.int, .int, .int, .boolean]
  resolved := Array.replicate 635 none
  statics := none }

def pool10 : Array CpInfo := pool [(2, .class_ 4), (1, u "java/lang/Object"), (0, u "<init>"), (0, u "()V"), (35, .class_ 44), (1, u "java/util/Objects"), (0, u "requireNonNull"), (48, u "(Ljava/lang/Object;Ljava/lang/String;)Ljava/lang/Object;")] 89

def k10m0 : Method := { name := "<init>", desc := "()V", sig := { parameters := [], returnType := none }, accessFlags := 2, code := none }
def k10c1 : Code := { maxStack := 3, maxLocals := 2, code := jdk_31_method_11_code, exceptionTable := #[], attributes := #[] }
def k10m1 : Method := { name := "requireNonNull", desc := "(Ljava/lang/Object;Ljava/lang/String;)Ljava/lang/Object;", sig := { parameters := [(.object "java/lang/Object"), (.object "java/lang/String")], returnType := some (.object "java/lang/Object") }, accessFlags := 9, code := some k10c1 }
/-- java/util/Objects -/
def k10 : Class := { plain "java/util/Objects" (some 0) with
  accessFlags := 49
  interfaces := #[]
  cf := some (fileOf pool10 42 #[] #[{ accessFlags := 2, nameIndex := 5, descriptorIndex := 6, attributes := #[] }, { accessFlags := 9, nameIndex := 45, descriptorIndex := 94, attributes := #[] }] 49 2 #[] #[])
  fields := #[]
  methods := #[k10m0, k10m1]
  instanceTypes := #[]
  staticTypes := #[]
  resolved := Array.replicate 184 none
  statics := none }

def pool11 : Array CpInfo := pool [(1, .class_ 2), (0, u "java/lang/String"), (1, .class_ 6), (1, u "java/lang/Object"), (0, u "<init>"), (0, u "()V"), (0, .methodref 1 10), (0, .nameAndType 11 12), (0, u "checkIndex"), (0, u "(II)V"), (1, .class_ 16), (1, u "java/lang/StringLatin1"), (36, u "([BI)C"), (67, u "$assertionsDisabled"), (0, u "Z"), (98, .class_ 223), (1, u "java/lang/StringLatin1$LinesSpliterator"), (28, u "charAt"), (28, u "equals"), (0, u "([B[B)Z"), (107, .class_ 391), (0, u "java/lang/StringLatin1$CharsSpliterator")] 3

def k11m0 : Method := { name := "<init>", desc := "()V", sig := { parameters := [], returnType := none }, accessFlags := 0, code := none }
def k11c1 : Code := { maxStack := 2, maxLocals := 2, code := jdk_43_method_2_code, exceptionTable := #[], attributes := #[] }
def k11m1 : Method := { name := "charAt", desc := "([BI)C", sig := { parameters := [(.array .byte), .int], returnType := some .char }, accessFlags := 9, code := some k11c1 }
def k11c2 : Code := { maxStack := 3, maxLocals := 3, code := jdk_43_method_13_code, exceptionTable := #[], attributes := #[] }
def k11m2 : Method := { name := "equals", desc := "([B[B)Z", sig := { parameters := [(.array .byte), (.array .byte)], returnType := some .boolean }, accessFlags := 9, code := some k11c2 }
/-- java/lang/StringLatin1 -/
def k11 : Class := { plain "java/lang/StringLatin1" (some 0) with
  accessFlags := 48
  interfaces := #[]
  cf := some (fileOf pool11 14 #[.nestMembers #[390, 221]] #[{ accessFlags := 0, nameIndex := 7, descriptorIndex := 8, attributes := #[] }, { accessFlags := 9, nameIndex := 252, descriptorIndex := 53, attributes := #[] }, { accessFlags := 9, nameIndex := 281, descriptorIndex := 282, attributes := #[] }] 48 4 #[] #[{ accessFlags := 4120, nameIndex := 121, descriptorIndex := 122, attributes := #[] }])
  fields := #[{ name := "$assertionsDisabled", type := .boolean, accessFlags := 4120, slot := 0, constantValue := 0 }]
  methods := #[k11m0, k11m1, k11m2]
  instanceTypes := #[]
  staticTypes := #[.boolean]
  resolved := Array.replicate 395 none
  statics := none }

def pool12 : Array CpInfo := pool [(2, .class_ 4), (1, u "java/lang/Object"), (0, u "<init>"), (0, u "()V"), (17, .class_ 26), (1, u "jdk/internal/util/Preconditions"), (6, u "checkIndex"), (21, .class_ 56), (0, u "jdk/internal/util/Preconditions$4"), (57, .class_ 115), (0, u "jdk/internal/util/Preconditions$1"), (7, u "SIOOBE_FORMATTER"), (0, u "Ljava/util/function/BiFunction;"), (0, .class_ 126), (0, u "jdk/internal/util/Preconditions$2"), (3, u "AIOOBE_FORMATTER"), (0, .class_ 132), (0, u "jdk/internal/util/Preconditions$3"), (3, u "IOOBE_FORMATTER"), (41, u "(IILjava/util/function/BiFunction;)I")] 15

def k12m0 : Method := { name := "<init>", desc := "()V", sig := { parameters := [], returnType := none }, accessFlags := 1, code := none }
def k12c1 : Code := { maxStack := 3, maxLocals := 3, code := jdk_41_method_11_code, exceptionTable := #[], attributes := #[] }
def k12m1 : Method := { name := "checkIndex", desc := "(IILjava/util/function/BiFunction;)I", sig := { parameters := [.int, .int, (.object "java/util/function/BiFunction")], returnType := some .int }, accessFlags := 9, code := some k12c1 }
/-- jdk/internal/util/Preconditions -/
def k12 : Class := { plain "jdk/internal/util/Preconditions" (some 0) with
  accessFlags := 33
  interfaces := #[]
  cf := some (fileOf pool12 24 #[.nestMembers #[55, 131, 125, 114]] #[{ accessFlags := 1, nameIndex := 5, descriptorIndex := 6, attributes := #[] }, { accessFlags := 9, nameIndex := 33, descriptorIndex := 178, attributes := #[] }] 33 2 #[] #[{ accessFlags := 25, nameIndex := 123, descriptorIndex := 124, attributes := #[] }, { accessFlags := 25, nameIndex := 130, descriptorIndex := 124, attributes := #[] }, { accessFlags := 25, nameIndex := 136, descriptorIndex := 124, attributes := #[] }])
  fields := #[{ name := "SIOOBE_FORMATTER", type := (.object "java/util/function/BiFunction"), accessFlags := 25, slot := 0, constantValue := 0 }, { name := "AIOOBE_FORMATTER", type := (.object "java/util/function/BiFunction"), accessFlags := 25, slot := 1, constantValue := 0 }, { name := "IOOBE_FORMATTER", type := (.object "java/util/function/BiFunction"), accessFlags := 25, slot := 2, constantValue := 0 }]
  methods := #[k12m0, k12m1]
  instanceTypes := #[]
  staticTypes := #[(.object "java/util/function/BiFunction"), (.object "java/util/function/BiFunction"), (.object "java/util/function/BiFunction")]
  resolved := Array.replicate 194 none
  statics := some 1 }

def pool13 : Array CpInfo := pool [(1, .class_ 2), (0, u "java/lang/Character"), (18, u "value"), (0, u "C"), (19, .class_ 44), (1, u "java/lang/Object"), (3, .class_ 50), (1, u "java/lang/Character$CharacterCache"), (30, u "(C)Z"), (32, u "(I)Z"), (151, .methodref 1 267), (0, .nameAndType 268 114), (0, u "isISOControl"), (15, u "$assertionsDisabled"), (0, u "Z"), (21, .class_ 309), (1, u "java/lang/Character$UnicodeBlock"), (73, u "TYPE"), (0, u "Ljava/lang/Class;"), (0, .class_ 386), (0, u "java/io/Serializable"), (0, .class_ 388), (0, u "java/lang/Comparable"), (0, .class_ 390), (0, u "java/lang/constant/Constable"), (0, u "MIN_RADIX"), (0, u "I"), (2, u "MAX_RADIX"), (1, u "MIN_VALUE"), (1, u "MAX_VALUE"), (3, u "UNASSIGNED"), (0, u "B"), (0, u "UPPERCASE_LETTER"), (1, u "LOWERCASE_LETTER"), (0, u "TITLECASE_LETTER"), (1, u "MODIFIER_LETTER"), (1, u "OTHER_LETTER"), (1, u "NON_SPACING_MARK"), (1, u "ENCLOSING_MARK"), (1, u "COMBINING_SPACING_MARK"), (1, u "DECIMAL_DIGIT_NUMBER"), (1, u "LETTER_NUMBER"), (1, u "OTHER_NUMBER"), (1, u "SPACE_SEPARATOR"), (1, u "LINE_SEPARATOR"), (1, u "PARAGRAPH_SEPARATOR"), (1, u "CONTROL"), (1, u "FORMAT"), (1, u "PRIVATE_USE"), (1, u "SURROGATE"), (1, u "DASH_PUNCTUATION"), (1, u "START_PUNCTUATION"), (1, u "END_PUNCTUATION"), (1, u "CONNECTOR_PUNCTUATION"), (1, u "OTHER_PUNCTUATION"), (1, u "MATH_SYMBOL"), (1, u "CURRENCY_SYMBOL"), (1, u "MODIFIER_SYMBOL"), (1, u "OTHER_SYMBOL"), (1, u "INITIAL_QUOTE_PUNCTUATION"), (1, u "FINAL_QUOTE_PUNCTUATION"), (1, u "ERROR"), (1, u "DIRECTIONALITY_UNDEFINED"), (0, u "DIRECTIONALITY_LEFT_TO_RIGHT"), (0, u "DIRECTIONALITY_RIGHT_TO_LEFT"), (0, u "DIRECTIONALITY_RIGHT_TO_LEFT_ARABIC"), (0, u "DIRECTIONALITY_EUROPEAN_NUMBER"), (0, u "DIRECTIONALITY_EUROPEAN_NUMBER_SEPARATOR"), (0, u "DIRECTIONALITY_EUROPEAN_NUMBER_TERMINATOR"), (0, u "DIRECTIONALITY_ARABIC_NUMBER"), (0, u "DIRECTIONALITY_COMMON_NUMBER_SEPARATOR"), (0, u "DIRECTIONALITY_NONSPACING_MARK"), (0, u "DIRECTIONALITY_BOUNDARY_NEUTRAL"), (0, u "DIRECTIONALITY_PARAGRAPH_SEPARATOR"), (0, u "DIRECTIONALITY_SEGMENT_SEPARATOR"), (0, u "DIRECTIONALITY_WHITESPACE"), (0, u "DIRECTIONALITY_OTHER_NEUTRALS"), (0, u "DIRECTIONALITY_LEFT_TO_RIGHT_EMBEDDING"), (0, u "DIRECTIONALITY_LEFT_TO_RIGHT_OVERRIDE"), (0, u "DIRECTIONALITY_RIGHT_TO_LEFT_EMBEDDING"), (0, u "DIRECTIONALITY_RIGHT_TO_LEFT_OVERRIDE"), (1, u "DIRECTIONALITY_POP_DIRECTIONAL_FORMAT"), (0, u "DIRECTIONALITY_LEFT_TO_RIGHT_ISOLATE"), (0, u "DIRECTIONALITY_RIGHT_TO_LEFT_ISOLATE"), (0, u "DIRECTIONALITY_FIRST_STRONG_ISOLATE"), (0, u "DIRECTIONALITY_POP_DIRECTIONAL_ISOLATE"), (0, u "MIN_HIGH_SURROGATE"), (0, u "MAX_HIGH_SURROGATE"), (1, u "MIN_LOW_SURROGATE"), (0, u "MAX_LOW_SURROGATE"), (1, u "MIN_SURROGATE"), (0, u "MAX_SURROGATE"), (0, u "MIN_SUPPLEMENTARY_CODE_POINT"), (0, u "MIN_CODE_POINT"), (0, u "MAX_CODE_POINT"), (1, u "serialVersionUID"), (0, u "J"), (2, u "SIZE"), (0, u "BYTES"), (88, .class_ 596), (0, u "java/lang/Character$UnicodeScript"), (0, .class_ 598), (0, u "java/lang/Character$Subset")] 5

def k13c0 : Code := { maxStack := 1, maxLocals := 1, code := jdk_89_method_88_code, exceptionTable := #[], attributes := #[] }
def k13m0 : Method := { name := "isISOControl", desc := "(C)Z", sig := { parameters := [.char], returnType := some .boolean }, accessFlags := 9, code := some k13c0 }
def k13c1 : Code := { maxStack := 2, maxLocals := 1, code := jdk_89_method_89_code, exceptionTable := #[], attributes := #[] }
def k13m1 : Method := { name := "isISOControl", desc := "(I)Z", sig := { parameters := [.int], returnType := some .boolean }, accessFlags := 9, code := some k13c1 }
/-- java/lang/Character -/
def k13 : Class := { plain "java/lang/Character" (some 0) with
  accessFlags := 49
  interfaces := #[3, 4, 6]
  cf := some (fileOf pool13 1 #[.nestMembers #[48, 595, 307, 597]] #[{ accessFlags := 9, nameIndex := 268, descriptorIndex := 81, attributes := #[] }, { accessFlags := 9, nameIndex := 268, descriptorIndex := 114, attributes := #[] }] 49 42 #[385, 387, 389] #[{ accessFlags := 25, nameIndex := 391, descriptorIndex := 392, attributes := #[] }, { accessFlags := 25, nameIndex := 395, descriptorIndex := 392, attributes := #[] }, { accessFlags := 25, nameIndex := 397, descriptorIndex := 22, attributes := #[] }, { accessFlags := 25, nameIndex := 399, descriptorIndex := 22, attributes := #[] }, { accessFlags := 25, nameIndex := 383, descriptorIndex := 384, attributes := #[] }, { accessFlags := 25, nameIndex := 403, descriptorIndex := 404, attributes := #[] }, { accessFlags := 25, nameIndex := 405, descriptorIndex := 404, attributes := #[] }, { accessFlags := 25, nameIndex := 407, descriptorIndex := 404, attributes := #[] }, { accessFlags := 25, nameIndex := 408, descriptorIndex := 404, attributes := #[] }, { accessFlags := 25, nameIndex := 410, descriptorIndex := 404, attributes := #[] }, { accessFlags := 25, nameIndex := 412, descriptorIndex := 404, attributes := #[] }, { accessFlags := 25, nameIndex := 414, descriptorIndex := 404, attributes := #[] }, { accessFlags := 25, nameIndex := 416, descriptorIndex := 404, attributes := #[] }, { accessFlags := 25, nameIndex := 418, descriptorIndex := 404, attributes := #[] }, { accessFlags := 25, nameIndex := 420, descriptorIndex := 404, attributes := #[] }, { accessFlags := 25, nameIndex := 422, descriptorIndex := 404, attributes := #[] }, { accessFlags := 25, nameIndex := 424, descriptorIndex := 404, attributes := #[] }, { accessFlags := 25, nameIndex := 426, descriptorIndex := 404, attributes := #[] }, { accessFlags := 25, nameIndex := 428, descriptorIndex := 404, attributes := #[] }, { accessFlags := 25, nameIndex := 430, descriptorIndex := 404, attributes := #[] }, { accessFlags := 25, nameIndex := 432, descriptorIndex := 404, attributes := #[] }, { accessFlags := 25, nameIndex := 434, descriptorIndex := 404, attributes := #[] }, { accessFlags := 25, nameIndex := 436, descriptorIndex := 404, attributes := #[] }, { accessFlags := 25, nameIndex := 438, descriptorIndex := 404, attributes := #[] }, { accessFlags := 25, nameIndex := 440, descriptorIndex := 404, attributes := #[] }, { accessFlags := 25, nameIndex := 442, descriptorIndex := 404, attributes := #[] }, { accessFlags := 25, nameIndex := 444, descriptorIndex := 404, attributes := #[] }, { accessFlags := 25, nameIndex := 446, descriptorIndex := 404, attributes := #[] }, { accessFlags := 25, nameIndex := 448, descriptorIndex := 404, attributes := #[] }, { accessFlags := 25, nameIndex := 450, descriptorIndex := 404, attributes := #[] }, { accessFlags := 25, nameIndex := 452, descriptorIndex := 404, attributes := #[] }, { accessFlags := 25, nameIndex := 454, descriptorIndex := 404, attributes := #[] }, { accessFlags := 25, nameIndex := 456, descriptorIndex := 404, attributes := #[] }, { accessFlags := 25, nameIndex := 458, descriptorIndex := 404, attributes := #[] }, { accessFlags := 25, nameIndex := 460, descriptorIndex := 404, attributes := #[] }, { accessFlags := 24, nameIndex := 462, descriptorIndex := 392, attributes := #[] }, { accessFlags := 25, nameIndex := 464, descriptorIndex := 404, attributes := #[] }, { accessFlags := 25, nameIndex := 465, descriptorIndex := 404, attributes := #[] }, { accessFlags := 25, nameIndex := 466, descriptorIndex := 404, attributes := #[] }, { accessFlags := 25, nameIndex := 467, descriptorIndex := 404, attributes := #[] }, { accessFlags := 25, nameIndex := 468, descriptorIndex := 404, attributes := #[] }, { accessFlags := 25, nameIndex := 469, descriptorIndex := 404, attributes := #[] }, { accessFlags := 25, nameIndex := 470, descriptorIndex := 404, attributes := #[] }, { accessFlags := 25, nameIndex := 471, descriptorIndex := 404, attributes := #[] }, { accessFlags := 25, nameIndex := 472, descriptorIndex := 404, attributes := #[] }, { accessFlags := 25, nameIndex := 473, descriptorIndex := 404, attributes := #[] }, { accessFlags := 25, nameIndex := 474, descriptorIndex := 404, attributes := #[] }, { accessFlags := 25, nameIndex := 475, descriptorIndex := 404, attributes := #[] }, { accessFlags := 25, nameIndex := 476, descriptorIndex := 404, attributes := #[] }, { accessFlags := 25, nameIndex := 477, descriptorIndex := 404, attributes := #[] }, { accessFlags := 25, nameIndex := 478, descriptorIndex := 404, attributes := #[] }, { accessFlags := 25, nameIndex := 479, descriptorIndex := 404, attributes := #[] }, { accessFlags := 25, nameIndex := 480, descriptorIndex := 404, attributes := #[] }, { accessFlags := 25, nameIndex := 481, descriptorIndex := 404, attributes := #[] }, { accessFlags := 25, nameIndex := 482, descriptorIndex := 404, attributes := #[] }, { accessFlags := 25, nameIndex := 484, descriptorIndex := 404, attributes := #[] }, { accessFlags := 25, nameIndex := 485, descriptorIndex := 404, attributes := #[] }, { accessFlags := 25, nameIndex := 486, descriptorIndex := 404, attributes := #[] }, { accessFlags := 25, nameIndex := 487, descriptorIndex := 404, attributes := #[] }, { accessFlags := 25, nameIndex := 488, descriptorIndex := 404, attributes := #[] }, { accessFlags := 25, nameIndex := 489, descriptorIndex := 22, attributes := #[] }, { accessFlags := 25, nameIndex := 490, descriptorIndex := 22, attributes := #[] }, { accessFlags := 25, nameIndex := 492, descriptorIndex := 22, attributes := #[] }, { accessFlags := 25, nameIndex := 493, descriptorIndex := 22, attributes := #[] }, { accessFlags := 25, nameIndex := 495, descriptorIndex := 22, attributes := #[] }, { accessFlags := 25, nameIndex := 496, descriptorIndex := 22, attributes := #[] }, { accessFlags := 25, nameIndex := 497, descriptorIndex := 392, attributes := #[] }, { accessFlags := 25, nameIndex := 498, descriptorIndex := 392, attributes := #[] }, { accessFlags := 25, nameIndex := 499, descriptorIndex := 392, attributes := #[] }, { accessFlags := 18, nameIndex := 21, descriptorIndex := 22, attributes := #[] }, { accessFlags := 26, nameIndex := 501, descriptorIndex := 502, attributes := #[] }, { accessFlags := 25, nameIndex := 505, descriptorIndex := 392, attributes := #[] }, { accessFlags := 25, nameIndex := 506, descriptorIndex := 392, attributes := #[] }, { accessFlags := 4120, nameIndex := 284, descriptorIndex := 285, attributes := #[] }])
  fields := #[{ name := "MIN_RADIX", type := .int, accessFlags := 25, slot := 0, constantValue := 0 }, { name := "MAX_RADIX", type := .int, accessFlags := 25, slot := 1, constantValue := 0 }, { name := "MIN_VALUE", type := .char, accessFlags := 25, slot := 2, constantValue := 0 }, { name := "MAX_VALUE", type := .char, accessFlags := 25, slot := 3, constantValue := 0 }, { name := "TYPE", type := (.object "java/lang/Class"), accessFlags := 25, slot := 4, constantValue := 0 }, { name := "UNASSIGNED", type := .byte, accessFlags := 25, slot := 5, constantValue := 0 }, { name := "UPPERCASE_LETTER", type := .byte, accessFlags := 25, slot := 6, constantValue := 0 }, { name := "LOWERCASE_LETTER", type := .byte, accessFlags := 25, slot := 7, constantValue := 0 }, { name := "TITLECASE_LETTER", type := .byte, accessFlags := 25, slot := 8, constantValue := 0 }, { name := "MODIFIER_LETTER", type := .byte, accessFlags := 25, slot := 9, constantValue := 0 }, { name := "OTHER_LETTER", type := .byte, accessFlags := 25, slot := 10, constantValue := 0 }, { name := "NON_SPACING_MARK", type := .byte, accessFlags := 25, slot := 11, constantValue := 0 }, { name := "ENCLOSING_MARK", type := .byte, accessFlags := 25, slot := 12, constantValue := 0 }, { name := "COMBINING_SPACING_MARK", type := .byte, accessFlags := 25, slot := 13, constantValue := 0 }, { name := "DECIMAL_DIGIT_NUMBER", type := .byte, accessFlags := 25, slot := 14, constantValue := 0 }, { name := "LETTER_NUMBER", type := .byte, accessFlags := 25, slot := 15, constantValue := 0 }, { name := "OTHER_NUMBER", type := .byte, accessFlags := 25, slot := 16, constantValue := 0 }, { name := "SPACE_SEPARATOR", type := .byte, accessFlags := 25, slot := 17, constantValue := 0 }, { name := "LINE_SEPARATOR", type := .byte, accessFlags := 25, slot := 18, constantValue := 0 }, { name := "PARAGRAPH_SEPARATOR", type := .byte, accessFlags := 25, slot := 19, constantValue := 0 }, { name := "CONTROL", type := .byte, accessFlags := 25, slot := 20, constantValue := 0 }, { name := "FORMAT", type := .byte, accessFlags := 25, slot := 21, constantValue := 0 }, { name := "PRIVATE_USE", type := .byte, accessFlags := 25, slot := 22, constantValue := 0 }, { name := "SURROGATE", type := .byte, accessFlags := 25, slot := 23, constantValue := 0 }, { name := "DASH_PUNCTUATION", type := .byte, accessFlags := 25, slot := 24, constantValue := 0 }, { name := "START_PUNCTUATION", type := .byte, accessFlags := 25, slot := 25, constantValue := 0 }, { name := "END_PUNCTUATION", type := .byte, accessFlags := 25, slot := 26, constantValue := 0 }, { name := "CONNECTOR_PUNCTUATION", type := .byte, accessFlags := 25, slot := 27, constantValue := 0 }, { name := "OTHER_PUNCTUATION", type := .byte, accessFlags := 25, slot := 28, constantValue := 0 }, { name := "MATH_SYMBOL", type := .byte, accessFlags := 25, slot := 29, constantValue := 0 }, { name := "CURRENCY_SYMBOL", type := .byte, accessFlags := 25, slot := 30, constantValue := 0 }, { name := "MODIFIER_SYMBOL", type := .byte, accessFlags := 25, slot := 31, constantValue := 0 }, { name := "OTHER_SYMBOL", type := .byte, accessFlags := 25, slot := 32, constantValue := 0 }, { name := "INITIAL_QUOTE_PUNCTUATION", type := .byte, accessFlags := 25, slot := 33, constantValue := 0 }, { name := "FINAL_QUOTE_PUNCTUATION", type := .byte, accessFlags := 25, slot := 34, constantValue := 0 }, { name := "ERROR", type := .int, accessFlags := 24, slot := 35, constantValue := 0 }, { name := "DIRECTIONALITY_UNDEFINED", type := .byte, accessFlags := 25, slot := 36, constantValue := 0 }, { name := "DIRECTIONALITY_LEFT_TO_RIGHT", type := .byte, accessFlags := 25, slot := 37, constantValue := 0 }, { name := "DIRECTIONALITY_RIGHT_TO_LEFT", type := .byte, accessFlags := 25, slot := 38, constantValue := 0 }, { name := "DIRECTIONALITY_RIGHT_TO_LEFT_ARABIC", type := .byte, accessFlags := 25, slot := 39, constantValue := 0 }, { name := "DIRECTIONALITY_EUROPEAN_NUMBER", type := .byte, accessFlags := 25, slot := 40, constantValue := 0 }, { name := "DIRECTIONALITY_EUROPEAN_NUMBER_SEPARATOR", type := .byte, accessFlags := 25, slot := 41, constantValue := 0 }, { name := "DIRECTIONALITY_EUROPEAN_NUMBER_TERMINATOR", type := .byte, accessFlags := 25, slot := 42, constantValue := 0 }, { name := "DIRECTIONALITY_ARABIC_NUMBER", type := .byte, accessFlags := 25, slot := 43, constantValue := 0 }, { name := "DIRECTIONALITY_COMMON_NUMBER_SEPARATOR", type := .byte, accessFlags := 25, slot := 44, constantValue := 0 }, { name := "DIRECTIONALITY_NONSPACING_MARK", type := .byte, accessFlags := 25, slot := 45, constantValue := 0 }, { name := "DIRECTIONALITY_BOUNDARY_NEUTRAL", type := .byte, accessFlags := 25, slot := 46, constantValue := 0 }, { name := "DIRECTIONALITY_PARAGRAPH_SEPARATOR", type := .byte, accessFlags := 25, slot := 47, constantValue := 0 }, { name := "DIRECTIONALITY_SEGMENT_SEPARATOR", type := .byte, accessFlags := 25, slot := 48, constantValue := 0 }, { name := "DIRECTIONALITY_WHITESPACE", type := .byte, accessFlags := 25, slot := 49, constantValue := 0 }, { name := "DIRECTIONALITY_OTHER_NEUTRALS", type := .byte, accessFlags := 25, slot := 50, constantValue := 0 }, { name := "DIRECTIONALITY_LEFT_TO_RIGHT_EMBEDDING", type := .byte, accessFlags := 25, slot := 51, constantValue := 0 }, { name := "DIRECTIONALITY_LEFT_TO_RIGHT_OVERRIDE", type := .byte, accessFlags := 25, slot := 52, constantValue := 0 }, { name := "DIRECTIONALITY_RIGHT_TO_LEFT_EMBEDDING", type := .byte, accessFlags := 25, slot := 53, constantValue := 0 }, { name := "DIRECTIONALITY_RIGHT_TO_LEFT_OVERRIDE", type := .byte, accessFlags := 25, slot := 54, constantValue := 0 }, { name := "DIRECTIONALITY_POP_DIRECTIONAL_FORMAT", type := .byte, accessFlags := 25, slot := 55, constantValue := 0 }, { name := "DIRECTIONALITY_LEFT_TO_RIGHT_ISOLATE", type := .byte, accessFlags := 25, slot := 56, constantValue := 0 }, { name := "DIRECTIONALITY_RIGHT_TO_LEFT_ISOLATE", type := .byte, accessFlags := 25, slot := 57, constantValue := 0 }, { name := "DIRECTIONALITY_FIRST_STRONG_ISOLATE", type := .byte, accessFlags := 25, slot := 58, constantValue := 0 }, { name := "DIRECTIONALITY_POP_DIRECTIONAL_ISOLATE", type := .byte, accessFlags := 25, slot := 59, constantValue := 0 }, { name := "MIN_HIGH_SURROGATE", type := .char, accessFlags := 25, slot := 60, constantValue := 0 }, { name := "MAX_HIGH_SURROGATE", type := .char, accessFlags := 25, slot := 61, constantValue := 0 }, { name := "MIN_LOW_SURROGATE", type := .char, accessFlags := 25, slot := 62, constantValue := 0 }, { name := "MAX_LOW_SURROGATE", type := .char, accessFlags := 25, slot := 63, constantValue := 0 }, { name := "MIN_SURROGATE", type := .char, accessFlags := 25, slot := 64, constantValue := 0 }, { name := "MAX_SURROGATE", type := .char, accessFlags := 25, slot := 65, constantValue := 0 }, { name := "MIN_SUPPLEMENTARY_CODE_POINT", type := .int, accessFlags := 25, slot := 66, constantValue := 0 }, { name := "MIN_CODE_POINT", type := .int, accessFlags := 25, slot := 67, constantValue := 0 }, { name := "MAX_CODE_POINT", type := .int, accessFlags := 25, slot := 68, constantValue := 0 }, { name := "value", type := .char, accessFlags := 18, slot := 0, constantValue := 0 }, { name := "serialVersionUID", type := .long, accessFlags := 26, slot := 69, constantValue := 0 }, { name := "SIZE", type := .int, accessFlags := 25, slot := 70, constantValue := 0 }, { name := "BYTES", type := .int, accessFlags := 25, slot := 71, constantValue := 0 }, { name := "$assertionsDisabled", type := .boolean, accessFlags := 4120, slot := 72, constantValue := 0 }]
  methods := #[k13m0, k13m1]
  instanceTypes := #[.char]
  staticTypes := #[.int, .int, .char, .char, (.object "java/lang/Class"), .byte, .byte, .byte, .byte, .byte, .byte, .byte, .byte, .byte, .byte, .byte, .byte, .byte, .byte, .byte, .byte, .byte, .byte, .byte, .byte, .byte, .byte, .byte, .byte, .byte, .byte, .byte, .byte, .byte, .byte, .int, .byte, .byte, .byte, .byte, .byte, .byte, .byte, .byte, .byte, .byte, .byte, .byte, .byte, .byte, .byte, .byte, .byte, .byte, .byte, .byte, .byte, .byte, .byte, .byte, .char, .char, .char, .char, .char, .char, .int, .int, .int, .long, .int, .int, .boolean]
  resolved := Array.replicate 604 none
  statics := none }

def pool14 : Array CpInfo := pool [(9, u "<init>"), (6, .class_ 18), (1, u "java/lang/Object"), (0, u "()V"), (1, .class_ 23), (1, u "jdk/internal/util/ArraysSupport"), (0, u "LOG2_ARRAY_LONG_INDEX_SCALE"), (0, u "I"), (2, u "U"), (0, u "Ljdk/internal/misc/Unsafe;"), (8, u "BIG_ENDIAN"), (0, u "Z"), (8, u "LOG2_BYTE_BIT_SIZE"), (4, u "LOG2_ARRAY_INT_INDEX_SCALE"), (54, u "JLA"), (0, u "Ljdk/internal/access/JavaLangAccess;"), (11, u "LOG2_ARRAY_BOOLEAN_INDEX_SCALE"), (9, u "LOG2_ARRAY_BYTE_INDEX_SCALE"), (5, u "LOG2_ARRAY_CHAR_INDEX_SCALE"), (5, u "LOG2_ARRAY_SHORT_INDEX_SCALE"), (18, u "LOG2_ARRAY_FLOAT_INDEX_SCALE"), (24, u "LOG2_ARRAY_DOUBLE_INDEX_SCALE"), (89, u "T_BOOLEAN"), (2, u "T_CHAR"), (1, u "T_FLOAT"), (1, u "T_DOUBLE"), (1, u "T_BYTE"), (1, u "T_SHORT"), (1, u "T_INT"), (1, u "T_LONG"), (1, u "SOFT_MAX_ARRAY_LENGTH")] 83

def k14m0 : Method := { name := "<init>", desc := "()V", sig := { parameters := [], returnType := none }, accessFlags := 2, code := none }
/-- jdk/internal/util/ArraysSupport -/
def k14 : Class := { plain "jdk/internal/util/ArraysSupport" (some 0) with
  accessFlags := 33
  interfaces := #[]
  cf := some (fileOf pool14 21 #[] #[{ accessFlags := 2, nameIndex := 9, descriptorIndex := 19, attributes := #[] }] 33 16 #[] #[{ accessFlags := 24, nameIndex := 28, descriptorIndex := 29, attributes := #[] }, { accessFlags := 26, nameIndex := 38, descriptorIndex := 39, attributes := #[] }, { accessFlags := 25, nameIndex := 121, descriptorIndex := 25, attributes := #[] }, { accessFlags := 25, nameIndex := 131, descriptorIndex := 25, attributes := #[] }, { accessFlags := 25, nameIndex := 137, descriptorIndex := 25, attributes := #[] }, { accessFlags := 25, nameIndex := 143, descriptorIndex := 25, attributes := #[] }, { accessFlags := 25, nameIndex := 53, descriptorIndex := 25, attributes := #[] }, { accessFlags := 25, nameIndex := 24, descriptorIndex := 25, attributes := #[] }, { accessFlags := 25, nameIndex := 162, descriptorIndex := 25, attributes := #[] }, { accessFlags := 25, nameIndex := 187, descriptorIndex := 25, attributes := #[] }, { accessFlags := 26, nameIndex := 48, descriptorIndex := 25, attributes := #[] }, { accessFlags := 25, nameIndex := 277, descriptorIndex := 25, attributes := #[] }, { accessFlags := 25, nameIndex := 280, descriptorIndex := 25, attributes := #[] }, { accessFlags := 25, nameIndex := 282, descriptorIndex := 25, attributes := #[] }, { accessFlags := 25, nameIndex := 284, descriptorIndex := 25, attributes := #[] }, { accessFlags := 25, nameIndex := 286, descriptorIndex := 25, attributes := #[] }, { accessFlags := 25, nameIndex := 288, descriptorIndex := 25, attributes := #[] }, { accessFlags := 25, nameIndex := 290, descriptorIndex := 25, attributes := #[] }, { accessFlags := 25, nameIndex := 292, descriptorIndex := 25, attributes := #[] }, { accessFlags := 26, nameIndex := 108, descriptorIndex := 109, attributes := #[] }, { accessFlags := 25, nameIndex := 294, descriptorIndex := 25, attributes := #[] }])
  fields := #[{ name := "U", type := (.object "jdk/internal/misc/Unsafe"), accessFlags := 24, slot := 0, constantValue := 0 }, { name := "BIG_ENDIAN", type := .boolean, accessFlags := 26, slot := 1, constantValue := 0 }, { name := "LOG2_ARRAY_BOOLEAN_INDEX_SCALE", type := .int, accessFlags := 25, slot := 2, constantValue := 0 }, { name := "LOG2_ARRAY_BYTE_INDEX_SCALE", type := .int, accessFlags := 25, slot := 3, constantValue := 0 }, { name := "LOG2_ARRAY_CHAR_INDEX_SCALE", type := .int, accessFlags := 25, slot := 4, constantValue := 0 }, { name := "LOG2_ARRAY_SHORT_INDEX_SCALE", type := .int, accessFlags := 25, slot := 5, constantValue := 0 }, { name := "LOG2_ARRAY_INT_INDEX_SCALE", type := .int, accessFlags := 25, slot := 6, constantValue := 0 }, { name := "LOG2_ARRAY_LONG_INDEX_SCALE", type := .int, accessFlags := 25, slot := 7, constantValue := 0 }, { name := "LOG2_ARRAY_FLOAT_INDEX_SCALE", type := .int, accessFlags := 25, slot := 8, constantValue := 0 }, { name := "LOG2_ARRAY_DOUBLE_INDEX_SCALE", type := .int, accessFlags := 25, slot := 9, constantValue := 0 }, { name := "LOG2_BYTE_BIT_SIZE", type := .int, accessFlags := 26, slot := 10, constantValue := 0 }, { name := "T_BOOLEAN", type := .int, accessFlags := 25, slot := 11, constantValue := 0 }, { name := "T_CHAR", type := .int, accessFlags := 25, slot := 12, constantValue := 0 }, { name := "T_FLOAT", type := .int, accessFlags := 25, slot := 13, constantValue := 0 }, { name := "T_DOUBLE", type := .int, accessFlags := 25, slot := 14, constantValue := 0 }, { name := "T_BYTE", type := .int, accessFlags := 25, slot := 15, constantValue := 0 }, { name := "T_SHORT", type := .int, accessFlags := 25, slot := 16, constantValue := 0 }, { name := "T_INT", type := .int, accessFlags := 25, slot := 17, constantValue := 0 }, { name := "T_LONG", type := .int, accessFlags := 25, slot := 18, constantValue := 0 }, { name := "JLA", type := (.object "jdk/internal/access/JavaLangAccess"), accessFlags := 26, slot := 19, constantValue := 0 }, { name := "SOFT_MAX_ARRAY_LENGTH", type := .int, accessFlags := 25, slot := 20, constantValue := 0 }]
  methods := #[k14m0]
  instanceTypes := #[]
  staticTypes := #[(.object "jdk/internal/misc/Unsafe"), .boolean, .int, .int, .int, .int, .int, .int, .int, .int, .int, .int, .int, .int, .int, .int, .int, .int, .int, (.object "jdk/internal/access/JavaLangAccess"), .int]
  resolved := Array.replicate 378 none
  statics := none }

def pool15 : Array CpInfo := pool [(1, u "java/lang/Cloneable"), (0, .class_ 1), (0, u "java/lang/Object"), (0, .class_ 3)] 3

/-- java/lang/Cloneable -/
def k15 : Class := { plain "java/lang/Cloneable" (some 0) with
  accessFlags := 1537
  interfaces := #[]
  cf := some (fileOf pool15 2 #[] #[] 1537 4 #[] #[])
  fields := #[]
  methods := #[]
  instanceTypes := #[]
  staticTypes := #[]
  resolved := Array.replicate 8 none
  statics := none }

/-- the primitive byte -/
def k16 : Class := { plain "byte" none with kind := .primitive 'B', accessFlags := 0x411 }
/-- [B -/
def k17 : Class := { plain "[B" (some 0) with kind := .array 16 .byte, interfaces := #[15, 3], accessFlags := 1041 }

/-- the primitive char -/
def k18 : Class := { plain "char" none with kind := .primitive 'C', accessFlags := 0x411 }
/-- [C -/
def k19 : Class := { plain "[C" (some 0) with kind := .array 18 .char, interfaces := #[15, 3], accessFlags := 1041 }

/-- the primitive int -/
def k20 : Class := { plain "int" none with kind := .primitive 'I', accessFlags := 0x411 }
/-- [I -/
def k21 : Class := { plain "[I" (some 0) with kind := .array 20 .int, interfaces := #[15, 3], accessFlags := 1041 }

def heap : Heap := #[{ cls := 8, slots := #[.long 0, .int 1, .null, .int 0, .null, .int 0, .int 0], vm := .statics 8 },
  { cls := 12, slots := #[.null, .null, .null], vm := .statics 12 }]
def classes : Array Class := #[k0, k1, k2, k3, k4, k5, k6, k7, k8, k9, k10, k11, k12, k13, k14, k15, k16, k17, k18, k19, k20, k21]
def interned : List (Array UInt16 × Addr) := []
def slotsUsed : Nat := 10
def theMethod : MethodId := ⟨1, 4⟩
def args0 : Array Value := #[.int 3, .int 5, .int 9, .int 8, .int 7, .int 6]
def aboutOver (below : List Frame) : State where
  vm := { classes := classes, interned := interned.toArray }
  heap := heap
  slotsUsed := slotsUsed
  threads := #[{ frames := .invoking theMethod args0 :: below }]
def below0 : List Frame := [.native { method := ⟨0, 0⟩, args := #[] }]
def about1 : State := aboutOver below0
def p0 : Program := .bare "" "" ""
def e0 : Env := launch0.env 0 0 0
theorem w_frames : about1.frames = Frame.invoking theMethod args0 :: below0 := rfl
set_option maxRecDepth 65536 in
theorem w_args : argsFit about1.vm theMethod args0 = true := by decide +kernel
set_option maxRecDepth 65536 in
theorem w_heap : heapFits about1 = true := by decide +kernel
set_option maxRecDepth 65536 in
theorem w_runnable : about1.curStatus? = some .runnable := by decide +kernel
set_option maxRecDepth 65536 in
theorem w_alone : about1.alone = true := by decide +kernel
set_option maxRecDepth 65536 in
theorem w_named : about1.methodNamed? x = some theMethod := by decide +kernel
set_option maxRecDepth 65536 in
theorem w_hears : about1.hears theMethod below0 = true := by decide +kernel
set_option maxRecDepth 65536 in
theorem w_ripe : about1.ripe theMethod args0 below0 = true := by decide +kernel
theorem w_running : about1.status = .running := rfl
set_option maxRecDepth 65536 in
theorem w_room : about1.hasRoom e0.platform room_1 = true :=
  launch0.hasRoom_least _ room_1 (by decide +kernel) (by decide +kernel) (by decide +kernel) (by decide +kernel) (by decide +kernel) (by decide +kernel)
theorem allAtoms_all (ts : List Jvm.Cond) (a : Array Jvm.Value) (st : Jvm.State) : (allAtoms ts).before a st = ts.all (fun c => c.before a st) := by
  induction ts with
  | nil => rfl
  | cons c t ih =>
    show (Jvm.Cond.and c (allAtoms t)).before a st = _
    rw [Jvm.Cond.before_and, ih, List.all_cons]
def words1 : List Jvm.Cond := Jvm.Cond.code x code maxLocals ret :: tables_1
/-- a 'code' word, met by the world's own term for the bytes: nothing is compared byte by byte -/
theorem code_word {y : MethodName} {bytes : ByteArray} {mx : Nat} {rt : Option FieldType} {a : Array Value} {s : State} {m : MethodId} {meth : Method} {c : Code} (h1 : s.methodNamed? y = some m) (h2 : s.vm.method? m = some meth) (h3 : meth.code = some c) (h4 : c.code = bytes)
    (h5 : (c.maxLocals == mx && c.exceptionTable.isEmpty && decide (c.maxStack ≤ mostOperands) && decide (meth.sig.returnType = rt) && !meth.locks && decide (parseMethodDescriptor y.desc = some meth.sig)) = true) : (Jvm.Cond.code y bytes mx rt).before a s = true := by
  simp only [Bool.and_eq_true, beq_iff_eq, Bool.not_eq_true', decide_eq_true_eq] at h5
  obtain ⟨⟨⟨⟨⟨g1, g2⟩, g3⟩, g4⟩, g5⟩, g6⟩ := h5
  simp [Cond.before, Cond.holds, Cond.value, h1, h2, h3, h4, g1, g2, g3, g4, g5, g6]
def isCode : Jvm.Cond → Bool
  | .code _ _ _ _ => true
  | _ => false
theorem all_split {L : List Jvm.Cond} {P : Jvm.Cond → Bool} (h1 : L.all (fun c => isCode c || P c) = true) (h2 : ∀ c ∈ L.filter isCode, P c = true) : L.all P = true := by
  refine List.all_eq_true.mpr fun c hc => ?_
  have h := List.all_eq_true.mp h1 c hc
  rcases Bool.eq_false_or_eq_true (isCode c) with hi | hi
  · exact h2 c (List.mem_filter.mpr ⟨hc, hi⟩)
  · simpa [hi] using h
set_option maxRecDepth 65536 in
theorem w_c0 : (Jvm.Cond.code x code maxLocals ret).before args0 about1 = true := code_word (m := ⟨1, 4⟩) (meth := k1m4) (c := k1c4) (by decide +kernel) rfl rfl rfl (by decide +kernel)
set_option maxRecDepth 65536 in
theorem w_c1 : (Jvm.Cond.code ({ cls := "com/example/austere_broker/austerebroker/ProviderNameEqualsPinLaw", name := "part", desc := "(I)Ljava/lang/String;" } : Jvm.MethodName) method_3_code (4 : Nat) (Option.some (Jvm.ClassFile.FieldType.object "java/lang/String"))).before args0 about1 = true := code_word (m := ⟨1, 2⟩) (meth := k1m2) (c := k1c2) (by decide +kernel) rfl rfl rfl (by decide +kernel)
set_option maxRecDepth 65536 in
theorem w_c2 : (Jvm.Cond.code ({ cls := "com/example/austere_broker/austerebroker/ProviderNameEqualsPinLaw", name := "ch", desc := "(I)C" } : Jvm.MethodName) method_2_code (1 : Nat) (Option.some Jvm.ClassFile.FieldType.char)).before args0 about1 = true := code_word (m := ⟨1, 1⟩) (meth := k1m1) (c := k1c1) (by decide +kernel) rfl rfl rfl (by decide +kernel)
set_option maxRecDepth 65536 in
theorem w_c3 : (Jvm.Cond.code ({ cls := "java/lang/String", name := "<init>", desc := "([C)V" } : Jvm.MethodName) jdk_42_method_3_code (2 : Nat) (Option.none : Option Jvm.ClassFile.FieldType)).before args0 about1 = true := code_word (m := ⟨8, 1⟩) (meth := k8m1) (c := k8c1) (by decide +kernel) rfl rfl rfl (by decide +kernel)
set_option maxRecDepth 65536 in
theorem w_c4 : (Jvm.Cond.code ({ cls := "java/lang/String", name := "<init>", desc := "([CIILjava/lang/Void;)V" } : Jvm.MethodName) jdk_42_method_149_code (6 : Nat) (Option.none : Option Jvm.ClassFile.FieldType)).before args0 about1 = true := code_word (m := ⟨8, 6⟩) (meth := k8m6) (c := k8c6) (by decide +kernel) rfl rfl rfl (by decide +kernel)
set_option maxRecDepth 65536 in
theorem w_c5 : (Jvm.Cond.code ({ cls := "java/lang/Object", name := "<init>", desc := "()V" } : Jvm.MethodName) object_method_1_code (1 : Nat) (Option.none : Option Jvm.ClassFile.FieldType)).before args0 about1 = true := code_word (m := ⟨0, 0⟩) (meth := k0m0) (c := k0c0) (by decide +kernel) rfl rfl rfl (by decide +kernel)
set_option maxRecDepth 65536 in
theorem w_c6 : (Jvm.Cond.code ({ cls := "java/lang/StringUTF16", name := "compress", desc := "([CII)[B" } : Jvm.MethodName) jdk_52_method_16_code (6 : Nat) (Option.some (Jvm.ClassFile.FieldType.array Jvm.ClassFile.FieldType.byte))).before args0 about1 = true := code_word (m := ⟨9, 2⟩) (meth := k9m2) (c := k9c2) (by decide +kernel) rfl rfl rfl (by decide +kernel)
set_option maxRecDepth 65536 in
theorem w_c7 : (Jvm.Cond.code ({ cls := "java/lang/StringUTF16", name := "compress", desc := "([CI[BII)I" } : Jvm.MethodName) jdk_52_method_21_code (7 : Nat) (Option.some Jvm.ClassFile.FieldType.int)).before args0 about1 = true := code_word (m := ⟨9, 3⟩) (meth := k9m3) (c := k9c3) (by decide +kernel) rfl rfl rfl (by decide +kernel)
set_option maxRecDepth 65536 in
theorem w_c8 : (Jvm.Cond.code ({ cls := "java/lang/StringUTF16", name := "coderFromArrayLen", desc := "([BI)B" } : Jvm.MethodName) jdk_52_method_15_code (2 : Nat) (Option.some Jvm.ClassFile.FieldType.byte)).before args0 about1 = true := code_word (m := ⟨9, 1⟩) (meth := k9m1) (c := k9c1) (by decide +kernel) rfl rfl rfl (by decide +kernel)
set_option maxRecDepth 65536 in
theorem w_c9 : (Jvm.Cond.code ({ cls := "com/example/austere_broker/austerebroker/ProviderName", name := "<init>", desc := "(Ljava/lang/String;Ljava/lang/String;Ljava/lang/String;)V" } : Jvm.MethodName) prog_15_method_1_code (4 : Nat) (Option.none : Option Jvm.ClassFile.FieldType)).before args0 about1 = true := code_word (m := ⟨2, 0⟩) (meth := k2m0) (c := k2c0) (by decide +kernel) rfl rfl rfl (by decide +kernel)
set_option maxRecDepth 65536 in
theorem w_c10 : (Jvm.Cond.code ({ cls := "com/example/austere_broker/austerebroker/ProviderName", name := "requirePart", desc := "(Ljava/lang/String;Ljava/lang/String;)Ljava/lang/String;" } : Jvm.MethodName) prog_15_method_11_code (4 : Nat) (Option.some (Jvm.ClassFile.FieldType.object "java/lang/String"))).before args0 about1 = true := code_word (m := ⟨2, 2⟩) (meth := k2m2) (c := k2c2) (by decide +kernel) rfl rfl rfl (by decide +kernel)
set_option maxRecDepth 65536 in
theorem w_c11 : (Jvm.Cond.code ({ cls := "java/util/Objects", name := "requireNonNull", desc := "(Ljava/lang/Object;Ljava/lang/String;)Ljava/lang/Object;" } : Jvm.MethodName) jdk_31_method_11_code (2 : Nat) (Option.some (Jvm.ClassFile.FieldType.object "java/lang/Object"))).before args0 about1 = true := code_word (m := ⟨10, 1⟩) (meth := k10m1) (c := k10c1) (by decide +kernel) rfl rfl rfl (by decide +kernel)
set_option maxRecDepth 65536 in
theorem w_c12 : (Jvm.Cond.code ({ cls := "java/lang/String", name := "isEmpty", desc := "()Z" } : Jvm.MethodName) jdk_42_method_55_code (1 : Nat) (Option.some Jvm.ClassFile.FieldType.boolean)).before args0 about1 = true := code_word (m := ⟨8, 3⟩) (meth := k8m3) (c := k8c3) (by decide +kernel) rfl rfl rfl (by decide +kernel)
set_option maxRecDepth 65536 in
theorem w_c13 : (Jvm.Cond.code ({ cls := "java/lang/String", name := "length", desc := "()I" } : Jvm.MethodName) jdk_42_method_54_code (1 : Nat) (Option.some Jvm.ClassFile.FieldType.int)).before args0 about1 = true := code_word (m := ⟨8, 2⟩) (meth := k8m2) (c := k8c2) (by decide +kernel) rfl rfl rfl (by decide +kernel)
set_option maxRecDepth 65536 in
theorem w_c14 : (Jvm.Cond.code ({ cls := "java/lang/String", name := "coder", desc := "()B" } : Jvm.MethodName) jdk_42_method_152_code (1 : Nat) (Option.some Jvm.ClassFile.FieldType.byte)).before args0 about1 = true := code_word (m := ⟨8, 7⟩) (meth := k8m7) (c := k8c7) (by decide +kernel) rfl rfl rfl (by decide +kernel)
set_option maxRecDepth 65536 in
theorem w_c15 : (Jvm.Cond.code ({ cls := "java/lang/String", name := "charAt", desc := "(I)C" } : Jvm.MethodName) jdk_42_method_56_code (2 : Nat) (Option.some Jvm.ClassFile.FieldType.char)).before args0 about1 = true := code_word (m := ⟨8, 4⟩) (meth := k8m4) (c := k8c4) (by decide +kernel) rfl rfl rfl (by decide +kernel)
set_option maxRecDepth 65536 in
theorem w_c16 : (Jvm.Cond.code ({ cls := "java/lang/String", name := "isLatin1", desc := "()Z" } : Jvm.MethodName) jdk_42_method_154_code (1 : Nat) (Option.some Jvm.ClassFile.FieldType.boolean)).before args0 about1 = true := code_word (m := ⟨8, 8⟩) (meth := k8m8) (c := k8c8) (by decide +kernel) rfl rfl rfl (by decide +kernel)
set_option maxRecDepth 65536 in
theorem w_c17 : (Jvm.Cond.code ({ cls := "java/lang/StringLatin1", name := "charAt", desc := "([BI)C" } : Jvm.MethodName) jdk_43_method_2_code (2 : Nat) (Option.some Jvm.ClassFile.FieldType.char)).before args0 about1 = true := code_word (m := ⟨11, 1⟩) (meth := k11m1) (c := k11c1) (by decide +kernel) rfl rfl rfl (by decide +kernel)
set_option maxRecDepth 65536 in
theorem w_c18 : (Jvm.Cond.code ({ cls := "java/lang/String", name := "checkIndex", desc := "(II)V" } : Jvm.MethodName) jdk_42_method_155_code (2 : Nat) (Option.none : Option Jvm.ClassFile.FieldType)).before args0 about1 = true := code_word (m := ⟨8, 9⟩) (meth := k8m9) (c := k8c9) (by decide +kernel) rfl rfl rfl (by decide +kernel)
set_option maxRecDepth 65536 in
theorem w_c19 : (Jvm.Cond.code ({ cls := "jdk/internal/util/Preconditions", name := "checkIndex", desc := "(IILjava/util/function/BiFunction;)I" } : Jvm.MethodName) jdk_41_method_11_code (3 : Nat) (Option.some Jvm.ClassFile.FieldType.int)).before args0 about1 = true := code_word (m := ⟨12, 1⟩) (meth := k12m1) (c := k12c1) (by decide +kernel) rfl rfl rfl (by decide +kernel)
set_option maxRecDepth 65536 in
theorem w_c20 : (Jvm.Cond.code ({ cls := "java/lang/Character", name := "isISOControl", desc := "(C)Z" } : Jvm.MethodName) jdk_89_method_88_code (1 : Nat) (Option.some Jvm.ClassFile.FieldType.boolean)).before args0 about1 = true := code_word (m := ⟨13, 0⟩) (meth := k13m0) (c := k13c0) (by decide +kernel) rfl rfl rfl (by decide +kernel)
set_option maxRecDepth 65536 in
theorem w_c21 : (Jvm.Cond.code ({ cls := "java/lang/Character", name := "isISOControl", desc := "(I)Z" } : Jvm.MethodName) jdk_89_method_89_code (1 : Nat) (Option.some Jvm.ClassFile.FieldType.boolean)).before args0 about1 = true := code_word (m := ⟨13, 1⟩) (meth := k13m1) (c := k13c1) (by decide +kernel) rfl rfl rfl (by decide +kernel)
set_option maxRecDepth 65536 in
theorem w_c22 : (Jvm.Cond.code ({ cls := "com/example/austere_broker/austerebroker/ProviderNameEqualsPinLaw", name := "same", desc := "(II)Z" } : Jvm.MethodName) method_4_code (4 : Nat) (Option.some Jvm.ClassFile.FieldType.boolean)).before args0 about1 = true := code_word (m := ⟨1, 3⟩) (meth := k1m3) (c := k1c3) (by decide +kernel) rfl rfl rfl (by decide +kernel)
set_option maxRecDepth 65536 in
theorem w_c23 : (Jvm.Cond.code ({ cls := "com/example/austere_broker/austerebroker/ProviderName", name := "equals", desc := "(Ljava/lang/Object;)Z" } : Jvm.MethodName) prog_15_method_7_code (3 : Nat) (Option.some Jvm.ClassFile.FieldType.boolean)).before args0 about1 = true := code_word (m := ⟨2, 1⟩) (meth := k2m1) (c := k2c1) (by decide +kernel) rfl rfl rfl (by decide +kernel)
set_option maxRecDepth 65536 in
theorem w_c24 : (Jvm.Cond.code ({ cls := "java/lang/String", name := "equals", desc := "(Ljava/lang/Object;)Z" } : Jvm.MethodName) jdk_42_method_66_code (3 : Nat) (Option.some Jvm.ClassFile.FieldType.boolean)).before args0 about1 = true := code_word (m := ⟨8, 5⟩) (meth := k8m5) (c := k8c5) (by decide +kernel) rfl rfl rfl (by decide +kernel)
set_option maxRecDepth 65536 in
theorem w_c25 : (Jvm.Cond.code ({ cls := "java/lang/StringLatin1", name := "equals", desc := "([B[B)Z" } : Jvm.MethodName) jdk_43_method_13_code (3 : Nat) (Option.some Jvm.ClassFile.FieldType.boolean)).before args0 about1 = true := code_word (m := ⟨11, 2⟩) (meth := k11m2) (c := k11c2) (by decide +kernel) rfl rfl rfl (by decide +kernel)
def codes1 : List Jvm.Cond := [Jvm.Cond.code x code maxLocals ret, Jvm.Cond.code ({ cls := "com/example/austere_broker/austerebroker/ProviderNameEqualsPinLaw", name := "part", desc := "(I)Ljava/lang/String;" } : Jvm.MethodName) method_3_code (4 : Nat) (Option.some (Jvm.ClassFile.FieldType.object "java/lang/String")), Jvm.Cond.code ({ cls := "com/example/austere_broker/austerebroker/ProviderNameEqualsPinLaw", name := "ch", desc := "(I)C" } : Jvm.MethodName) method_2_code (1 : Nat) (Option.some Jvm.ClassFile.FieldType.char), Jvm.Cond.code ({ cls := "java/lang/String", name := "<init>", desc := "([C)V" } : Jvm.MethodName) jdk_42_method_3_code (2 : Nat) (Option.none : Option Jvm.ClassFile.FieldType), Jvm.Cond.code ({ cls := "java/lang/String", name := "<init>", desc := "([CIILjava/lang/Void;)V" } : Jvm.MethodName) jdk_42_method_149_code (6 : Nat) (Option.none : Option Jvm.ClassFile.FieldType), Jvm.Cond.code ({ cls := "java/lang/Object", name := "<init>", desc := "()V" } : Jvm.MethodName) object_method_1_code (1 : Nat) (Option.none : Option Jvm.ClassFile.FieldType), Jvm.Cond.code ({ cls := "java/lang/StringUTF16", name := "compress", desc := "([CII)[B" } : Jvm.MethodName) jdk_52_method_16_code (6 : Nat) (Option.some (Jvm.ClassFile.FieldType.array Jvm.ClassFile.FieldType.byte)), Jvm.Cond.code ({ cls := "java/lang/StringUTF16", name := "compress", desc := "([CI[BII)I" } : Jvm.MethodName) jdk_52_method_21_code (7 : Nat) (Option.some Jvm.ClassFile.FieldType.int), Jvm.Cond.code ({ cls := "java/lang/StringUTF16", name := "coderFromArrayLen", desc := "([BI)B" } : Jvm.MethodName) jdk_52_method_15_code (2 : Nat) (Option.some Jvm.ClassFile.FieldType.byte), Jvm.Cond.code ({ cls := "com/example/austere_broker/austerebroker/ProviderName", name := "<init>", desc := "(Ljava/lang/String;Ljava/lang/String;Ljava/lang/String;)V" } : Jvm.MethodName) prog_15_method_1_code (4 : Nat) (Option.none : Option Jvm.ClassFile.FieldType), Jvm.Cond.code ({ cls := "com/example/austere_broker/austerebroker/ProviderName", name := "requirePart", desc := "(Ljava/lang/String;Ljava/lang/String;)Ljava/lang/String;" } : Jvm.MethodName) prog_15_method_11_code (4 : Nat) (Option.some (Jvm.ClassFile.FieldType.object "java/lang/String")), Jvm.Cond.code ({ cls := "java/util/Objects", name := "requireNonNull", desc := "(Ljava/lang/Object;Ljava/lang/String;)Ljava/lang/Object;" } : Jvm.MethodName) jdk_31_method_11_code (2 : Nat) (Option.some (Jvm.ClassFile.FieldType.object "java/lang/Object")), Jvm.Cond.code ({ cls := "java/lang/String", name := "isEmpty", desc := "()Z" } : Jvm.MethodName) jdk_42_method_55_code (1 : Nat) (Option.some Jvm.ClassFile.FieldType.boolean), Jvm.Cond.code ({ cls := "java/lang/String", name := "length", desc := "()I" } : Jvm.MethodName) jdk_42_method_54_code (1 : Nat) (Option.some Jvm.ClassFile.FieldType.int), Jvm.Cond.code ({ cls := "java/lang/String", name := "coder", desc := "()B" } : Jvm.MethodName) jdk_42_method_152_code (1 : Nat) (Option.some Jvm.ClassFile.FieldType.byte), Jvm.Cond.code ({ cls := "java/lang/String", name := "charAt", desc := "(I)C" } : Jvm.MethodName) jdk_42_method_56_code (2 : Nat) (Option.some Jvm.ClassFile.FieldType.char), Jvm.Cond.code ({ cls := "java/lang/String", name := "isLatin1", desc := "()Z" } : Jvm.MethodName) jdk_42_method_154_code (1 : Nat) (Option.some Jvm.ClassFile.FieldType.boolean), Jvm.Cond.code ({ cls := "java/lang/StringLatin1", name := "charAt", desc := "([BI)C" } : Jvm.MethodName) jdk_43_method_2_code (2 : Nat) (Option.some Jvm.ClassFile.FieldType.char), Jvm.Cond.code ({ cls := "java/lang/String", name := "checkIndex", desc := "(II)V" } : Jvm.MethodName) jdk_42_method_155_code (2 : Nat) (Option.none : Option Jvm.ClassFile.FieldType), Jvm.Cond.code ({ cls := "jdk/internal/util/Preconditions", name := "checkIndex", desc := "(IILjava/util/function/BiFunction;)I" } : Jvm.MethodName) jdk_41_method_11_code (3 : Nat) (Option.some Jvm.ClassFile.FieldType.int), Jvm.Cond.code ({ cls := "java/lang/Character", name := "isISOControl", desc := "(C)Z" } : Jvm.MethodName) jdk_89_method_88_code (1 : Nat) (Option.some Jvm.ClassFile.FieldType.boolean), Jvm.Cond.code ({ cls := "java/lang/Character", name := "isISOControl", desc := "(I)Z" } : Jvm.MethodName) jdk_89_method_89_code (1 : Nat) (Option.some Jvm.ClassFile.FieldType.boolean), Jvm.Cond.code ({ cls := "com/example/austere_broker/austerebroker/ProviderNameEqualsPinLaw", name := "same", desc := "(II)Z" } : Jvm.MethodName) method_4_code (4 : Nat) (Option.some Jvm.ClassFile.FieldType.boolean), Jvm.Cond.code ({ cls := "com/example/austere_broker/austerebroker/ProviderName", name := "equals", desc := "(Ljava/lang/Object;)Z" } : Jvm.MethodName) prog_15_method_7_code (3 : Nat) (Option.some Jvm.ClassFile.FieldType.boolean), Jvm.Cond.code ({ cls := "java/lang/String", name := "equals", desc := "(Ljava/lang/Object;)Z" } : Jvm.MethodName) jdk_42_method_66_code (3 : Nat) (Option.some Jvm.ClassFile.FieldType.boolean), Jvm.Cond.code ({ cls := "java/lang/StringLatin1", name := "equals", desc := "([B[B)Z" } : Jvm.MethodName) jdk_43_method_13_code (3 : Nat) (Option.some Jvm.ClassFile.FieldType.boolean)]
set_option maxRecDepth 65536 in
theorem codes_eq : words1.filter isCode = codes1 := rfl
theorem w_codes : ∀ c ∈ words1.filter isCode, c.before args0 about1 = true := by
  rw [codes_eq]
  intro c hc
  simp only [codes1, List.mem_cons, List.not_mem_nil, or_false] at hc
  rcases hc with rfl | rfl | rfl | rfl | rfl | rfl | rfl | rfl | rfl | rfl | rfl | rfl | rfl | rfl | rfl | rfl | rfl | rfl | rfl | rfl | rfl | rfl | rfl | rfl | rfl | rfl
  · exact w_c0
  · exact w_c1
  · exact w_c2
  · exact w_c3
  · exact w_c4
  · exact w_c5
  · exact w_c6
  · exact w_c7
  · exact w_c8
  · exact w_c9
  · exact w_c10
  · exact w_c11
  · exact w_c12
  · exact w_c13
  · exact w_c14
  · exact w_c15
  · exact w_c16
  · exact w_c17
  · exact w_c18
  · exact w_c19
  · exact w_c20
  · exact w_c21
  · exact w_c22
  · exact w_c23
  · exact w_c24
  · exact w_c25
set_option maxRecDepth 65536 in
theorem w_t1 : (words1.take 24).all (fun c => isCode c || c.before args0 about1) = true := by decide +kernel
set_option maxRecDepth 65536 in
theorem w_t2 : ((words1.drop 24).take 24).all (fun c => isCode c || c.before args0 about1) = true := by decide +kernel
set_option maxRecDepth 65536 in
theorem w_t3 : (((words1.drop 24).drop 24).take 24).all (fun c => isCode c || c.before args0 about1) = true := by decide +kernel
set_option maxRecDepth 65536 in
theorem w_t4 : ((((words1.drop 24).drop 24).drop 24).take 24).all (fun c => isCode c || c.before args0 about1) = true := by decide +kernel
set_option maxRecDepth 65536 in
theorem w_t5 : (((((words1.drop 24).drop 24).drop 24).drop 24).take 24).all (fun c => isCode c || c.before args0 about1) = true := by decide +kernel
set_option maxRecDepth 65536 in
theorem w_t6 : (((((words1.drop 24).drop 24).drop 24).drop 24).drop 24).all (fun c => isCode c || c.before args0 about1) = true := by decide +kernel
theorem w_tables : (allAtoms (Jvm.Cond.code x code maxLocals ret :: tables_1)).before args0 about1 = true := by
  rw [allAtoms_all]
  show words1.all (fun c => c.before args0 about1) = true
  refine all_split ?_ w_codes
  rw [← List.take_append_drop 24 words1, List.all_append, w_t1, ← List.take_append_drop 24 (words1.drop 24), List.all_append, w_t2, ← List.take_append_drop 24 ((words1.drop 24).drop 24), List.all_append, w_t3, ← List.take_append_drop 24 (((words1.drop 24).drop 24).drop 24), List.all_append, w_t4, ← List.take_append_drop 24 ((((words1.drop 24).drop 24).drop 24).drop 24), List.all_append, w_t5, w_t6]
  rfl
set_option maxRecDepth 65536 in
theorem w_rest : rest_1_c.before args0 about1 = true := by decide +kernel
set_option maxRecDepth 65536 in
theorem w_case : (Jvm.Cond.and given_1 narrow_1).before args0 about1 = true := by decide +kernel
theorem w_applies : (headSpec (Jvm.Cond.code x code maxLocals ret :: tables_1) room_1).applies x e0.platform about1 = true :=
  (Spec.applies_iff w_frames).mpr ⟨w_running, w_runnable, w_alone, w_named, w_hears, w_ripe, w_room, w_tables⟩
theorem atStart : AtStart classFile x code maxLocals ret World_1 tables_1 room_1 Calls_1 rest_1 Pre_1 launch0 p0 e0 about1 theMethod args0 below0 :=
  ⟨lists_1, trivial, launch0.admits_env _ _ _, launch0.least_env, fairChoices_fair.cas, fairChoices_fair.clock, w_frames, w_args, w_heap, w_applies, trivial, w_rest, w_case⟩
end start1
theorem witness_1 : WitnessClaimed_1 := ⟨start1.p0, start1.e0, start1.about1, start1.theMethod, start1.args0, start1.below0, start1.atStart⟩
end Jvm.Pilot.@@N@@
