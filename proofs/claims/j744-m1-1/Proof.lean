import JvmDerived
import JvmDerived.Pilot.@@N@@Statement
import JvmDerived.Pilot.@@N@@Code
set_option linter.unusedVariables false
set_option linter.unusedSimpArgs false
namespace Jvm.OwnKit
open Sem ClassFile Op Lib Bundle Jvm.Stand Jvm.Free Jvm.LawKit Jvm.RoadKit
/-! Own text. 'Here': the run of one method has come to this pc, these locals, this stack, over this heap; the state and the tables at hand are hidden. 'Met': a method's contract; 'Paid': a call of it can be paid. -/
abbrev Ctx : Type := Program × Launch × Env × State × MethodId × Array Value × List Frame × Method × Code × State
def Here (k : Ctx) (R : Room) (Z : State) (EL : List (String × Nat)) (n0 : Nat) (y : MethodName) (B : ByteArray) (ret : Option FieldType) (h0 : Heap) (ws : List Addr) (h : Heap) (pc : Nat) (L : Array Slot) (S : List Value) (ce sl : Nat) (sf : List Addr) : Prop :=
  match k with
  | (p, l, e, s, m, args, below, meth, c, start) =>
    ∃ (T : State) (vm0 : Vm) (k0 : Nat) (locs : List Loc),
      Stand p l e R (s.setVm vm0) m args below meth c T locs ce sl ∧ T.heap = h ∧ s.Since vm0 k0 ∧ k0 ≤ h.size ∧ Z.Warmed39 vm0 ∧ vm0.findClass y.cls = some m.cls ∧ CHr Z EL s.vm s.heap vm0 h ∧ Fr n0 locs ∧
      (s.heap = h0 ∧ Keep h0 h ws ∧ Old Z n0 h ∧ ∀ x ∈ sf, Safe Z EL vm0 h x ∧ x < h.size ∧ n0 ≤ x ∧ (x ∈ ws ∨ h0.size ≤ x)) ∧
      (p.tables.exec = Jvm.exec ∧ c.code = B ∧ L.size = c.maxLocals ∧ meth.sig.returnType = ret ∧ meth.name = y.name ∧ meth.locks = false ∧ ∃ a0, EW Z a0 EL) ∧
      ∀ t, Steps p.tables e below (T.setTop (mkF m pc L S)) t → Steps p.tables e below start t
def Done (k : Ctx) (R : Room) (Z : State) (EL : List (String × Nat)) (n0 : Nat) (h0 : Heap) (ws : List Addr) (Q : Option Value → Heap → Prop) : Prop :=
  match k with
  | (p, l, e, s, m, args, below, meth, c, start) =>
    ∃ s₂ o, Steps p.tables e below start s₂ ∧ s₂.status = .running ∧ Ended s₂ below o ∧ ∃ v L, o = .returned v ∧ (Q v s₂.heap ∧ Keep h0 s₂.heap ws ∧ Fr n0 L) ∧ CHr Z EL s.vm s.heap s₂.vm s₂.heap ∧ ReturnedEndW s o s₂ L R.cells R.slots
def Met (Z : State) (EL : List (String × Nat)) (n0 : Nat) (y : MethodName) (B : ByteArray) (mx : Nat) (ret : Option FieldType) (rm : Room) (as' : Array Value) (h : Heap) (ws : List Addr) (Q : Option Value → Heap → Prop) : Prop :=
  ∀ (l : Launch) (wds : List Jvm.Cond), MetFree l y (head1 (Jvm.Cond.code y B mx ret :: wds) rm) (fun a U => a = as' ∧ Z.Warmed39 U.vm ∧ U.heap = h ∧ CHv Z EL U.vm h ∧ ∀ x ∈ ws, Safe Z EL U.vm h x) (fun _ _ _ _ _ => True)
    (fun _ U o U' => ∃ v L, o = .returned v ∧ (Q v U'.heap ∧ Keep h U'.heap ws ∧ Fr n0 L) ∧ CHr Z EL U.vm U.heap U'.vm U'.heap ∧ ReturnedEndW U o U' L rm.cells rm.slots)
def Paid (k : Ctx) (R : Room) (Z : State) (EL : List (String × Nat)) (n0 : Nat) (z : MethodName) (W : Nat) (as' : Array Value) (h : Heap) (ws : List Addr) (kc ks : Nat) (Q : Option Value → Heap → Prop) : Prop :=
  match k with
  | (p, l, e, s, m, args, below, meth, c, start) =>
    ∀ vm0, Z.Warmed39 vm0 → CHv Z EL vm0 h → (∀ x ∈ ws, Safe Z EL vm0 h x ∧ x < h.size) →
      BackS l R p e below (s.setVm vm0) args z 3 W (fun A a => a = as' ∧ A.U.heap = h ∧ A.cells + kc ≤ R.cells ∧ A.slots + ks ≤ R.slots)
        (fun A _ v D => ∃ L, (Q v D.U.heap ∧ Keep h D.U.heap ws ∧ Fr n0 L) ∧ D.locs = A.locs ++ L ∧ D.cells = A.cells + kc ∧ D.slots = A.slots + ks ∧ CHr Z EL vm0 h D.U.vm D.U.heap)
section Base
variable {k : Ctx} {R rm : Room} {Z : State} {EL : List (String × Nat)} {n0 : Nat} {y z : MethodName} {B bytes : ByteArray} {ret rt : Option FieldType} {h0 h h' : Heap} {ws ws' sf : List Addr} {pc : Nat} {L : Array Slot} {S : List Value} {ce sl mx : Nat} {a0 as' : Array Value} {Q : Option Value → Heap → Prop} {s : State} {vm0 vm1 : Vm} {k0 : Nat}
theorem upd (hC : CHr Z EL s.vm s.heap vm0 h) (hk : k0 ≤ h.size) (hF : s.heap = h0 ∧ Keep h0 h ws ∧ Old Z n0 h ∧ ∀ x ∈ sf, Safe Z EL vm0 h x ∧ x < h.size ∧ n0 ≤ x ∧ (x ∈ ws ∨ h0.size ≤ x)) {w1 : List Addr} (K : Keep h h' w1) (hw : ∀ x ∈ w1, x ∈ sf) :
    CHr Z EL s.vm s.heap vm0 h' ∧ k0 ≤ h'.size ∧ (s.heap = h0 ∧ Keep h0 h' ws ∧ Old Z n0 h' ∧ ∀ x ∈ sf, Safe Z EL vm0 h' x ∧ x < h'.size ∧ n0 ≤ x ∧ (x ∈ ws ∨ h0.size ≤ x)) := by
  obtain ⟨f1, f2, f3, f4⟩ := hF
  have hs : ∀ x ∈ w1, Safe Z EL vm0 h x := fun x q => (f4 x (hw x q)).1
  refine ⟨hC.trans (CHr.keep K hs hC.1), Nat.le_trans hk K.1, f1, f2.trans K (fun x q => (f4 x (hw x q)).2.2.2), f3.keep K (fun x q => (f4 x (hw x q)).2.2.1), fun x q => ?_⟩
  obtain ⟨g1, g2, g3⟩ := f4 x q
  exact ⟨Safe.keep K hs hC.1 g1, Nat.lt_of_lt_of_le g2 K.1, g3⟩
theorem updC (hC : CHr Z EL s.vm s.heap vm0 h) (hF : s.heap = h0 ∧ Keep h0 h ws ∧ Old Z n0 h ∧ ∀ x ∈ sf, Safe Z EL vm0 h x ∧ x < h.size ∧ n0 ≤ x ∧ (x ∈ ws ∨ h0.size ≤ x)) {w1 : List Addr} (K : Keep h h' w1) (hw : ∀ x ∈ w1, x ∈ sf) (A : CHr Z EL vm0 h vm1 h') :
    CHr Z EL s.vm s.heap vm1 h' ∧ (s.heap = h0 ∧ Keep h0 h' ws ∧ Old Z n0 h' ∧ ∀ x ∈ sf, Safe Z EL vm1 h' x ∧ x < h'.size ∧ n0 ≤ x ∧ (x ∈ ws ∨ h0.size ≤ x)) := by
  obtain ⟨f1, f2, f3, f4⟩ := hF
  refine ⟨hC.trans A, f1, f2.trans K (fun x q => (f4 x (hw x q)).2.2.2), f3.keep K (fun x q => (f4 x (hw x q)).2.2.1), fun x q => ?_⟩
  obtain ⟨g1, g2, g3⟩ := f4 x q
  exact ⟨A.safe g2 g1, Nat.lt_of_lt_of_le g2 K.1, g3⟩
theorem extKeep (E : Ext h h') : Keep h h' [] := (Keep.refl h []).ext E
/-- a fresh cell is one more that may be written -/
theorem updN (hC : CHr Z EL s.vm s.heap vm0 h) (hk : k0 ≤ h.size) (hF : s.heap = h0 ∧ Keep h0 h ws ∧ Old Z n0 h ∧ ∀ x ∈ sf, Safe Z EL vm0 h x ∧ x < h.size ∧ n0 ≤ x ∧ (x ∈ ws ∨ h0.size ≤ x)) (E : Ext h h') (hlt : h.size < h'.size) :
    CHr Z EL s.vm s.heap vm0 h' ∧ k0 ≤ h'.size ∧ (s.heap = h0 ∧ Keep h0 h' ws ∧ Old Z n0 h' ∧ ∀ x ∈ h.size :: sf, Safe Z EL vm0 h' x ∧ x < h'.size ∧ n0 ≤ x ∧ (x ∈ ws ∨ h0.size ≤ x)) := by
  obtain ⟨u1, u2, u3, u4, u5, u6⟩ := upd hC hk hF (extKeep E) all0
  refine ⟨u1, u2, u3, u4, u5, fun x q => ?_⟩
  rcases List.mem_cons.mp q with rfl | q
  · exact ⟨Safe.ext E hC.1 (Safe.new (Nat.le_refl _)), hlt, by have := hF.2.2.1.2.1; have := hF.2.2.1.1; omega, Or.inr hF.2.1.1⟩
  · exact u6 x q
theorem Here.go (H : Here k R Z EL n0 y B ret h0 ws h pc L S ce sl sf) {pc' : Nat} {L' : Array Slot} {S' : List Value} (hL : L'.size = L.size)
    (f : ∀ (p : Program) (e : Env) (below : List Frame) (m : MethodId) (c : Code) (T t : State), At T m c below → p.tables.exec = Jvm.exec → c.code = B → Steps p.tables e below (T.setTop (mkF m pc' L' S')) t → Steps p.tables e below (T.setTop (mkF m pc L S)) t) :
    Here k R Z EL n0 y B ret h0 ws h pc' L' S' ce sl sf := by
  obtain ⟨p, l, e, s, m, args, below, meth, c, start⟩ := k
  obtain ⟨T, vm0, k0, locs, X, e1, hS, hk, hZ, hown, hC, hN, hF, ⟨hx, hb, hl, hr⟩, st⟩ := H
  exact ⟨T, vm0, k0, locs, X, e1, hS, hk, hZ, hown, hC, hN, hF, ⟨hx, hb, hL.trans hl, hr⟩, fun t q => st t (f p e below m c T t X.here hx hb q)⟩
/-- a step that reads the tables or the heap -/
theorem Here.goT (H : Here k R Z EL n0 y B ret h0 ws h pc L S ce sl sf) {pc' : Nat} {L' : Array Slot} {S' : List Value} (hL : L'.size = L.size)
    (f : ∀ (p : Program) (l : Launch) (e : Env) (s : State) (m : MethodId) (args : Array Value) (below : List Frame) (meth : Method) (c : Code) (T : State) (locs : List Loc) (ce sl : Nat), Stand p l e R s m args below meth c T locs ce sl → T.heap = h → Z.Warmed39 s.vm → s.vm.findClass y.cls = some m.cls → p.tables.exec = Jvm.exec → c.code = B → L.size = c.maxLocals → s.heap = h0 →
      ∃ T', Stand p l e R s m args below meth c T' locs ce sl ∧ T'.heap = h ∧ ∀ t, Steps p.tables e below (T'.setTop (mkF m pc' L' S')) t → Steps p.tables e below (T.setTop (mkF m pc L S)) t) :
    Here k R Z EL n0 y B ret h0 ws h pc' L' S' ce sl sf := by
  obtain ⟨p, l, e, s, m, args, below, meth, c, start⟩ := k
  obtain ⟨T, vm0, k0, locs, X, e1, hS, hk, hZ, hown, hC, hN, hF, ⟨hx, hb, hl, hr⟩, st⟩ := H
  obtain ⟨T', X', e2, g⟩ := f p l e (s.setVm vm0) m args below meth c T locs ce sl X e1 hZ hown hx hb hl hF.1
  exact ⟨T', vm0, k0, locs, X', e2, hS, hk, hZ, hown, hC, hN, hF, ⟨hx, hb, hL.trans hl, hr⟩, fun t q => st t (g t q)⟩
theorem Here.old (H : Here k R Z EL n0 y B ret h0 ws h pc L S ce sl sf) : Ext Z.heap h := by
  obtain ⟨p, l, e, s, m, args, below, meth, c, start⟩ := k
  obtain ⟨T, vm0, k0, locs, X, e1, hS, hk, hZ, hown, hC, hN, hF, -⟩ := H
  exact hF.2.2.1.2
theorem Here.oldO (H : Here k R Z EL n0 y B ret h0 ws h pc L S ce sl sf) : Old Z n0 h := by
  obtain ⟨p, l, e, s, m, args, below, meth, c, start⟩ := k
  obtain ⟨T, vm0, k0, locs, X, e1, hS, hk, hZ, hown, hC, hN, hF, -⟩ := H
  exact hF.2.2.1
theorem Here.sf_lt (H : Here k R Z EL n0 y B ret h0 ws h pc L S ce sl sf) {x : Addr} (hx : x ∈ sf) : x < h.size ∧ n0 ≤ x := by
  obtain ⟨p, l, e, s, m, args, below, meth, c, start⟩ := k
  obtain ⟨T, vm0, k0, locs, X, e1, hS, hk, hZ, hown, hC, hN, hF, -⟩ := H
  exact ⟨(hF.2.2.2 x hx).2.1, (hF.2.2.2 x hx).2.2.1⟩
theorem Here.kept (H : Here k R Z EL n0 y B ret h0 ws h pc L S ce sl sf) : Keep h0 h ws := by
  obtain ⟨p, l, e, s, m, args, below, meth, c, start⟩ := k
  obtain ⟨T, vm0, k0, locs, X, e1, hS, hk, hZ, hown, hC, hN, hF, -⟩ := H
  exact hF.2.1
/-- fewer promises: more cells and slots booked, a shorter list of what may be written -/
theorem Here.more (H : Here k R Z EL n0 y B ret h0 ws h pc L S ce sl sf) {ce' sl' : Nat} {sf' : List Addr} (hc : ce ≤ ce') (hs : sl ≤ sl') (hf : ∀ x ∈ sf', x ∈ sf) : Here k R Z EL n0 y B ret h0 ws h pc L S ce' sl' sf' := by
  obtain ⟨p, l, e, s, m, args, below, meth, c, start⟩ := k
  obtain ⟨T, vm0, k0, locs, X, e1, hS, hk, hZ, hown, hC, hN, ⟨f1, f2, f3, f4⟩, hr⟩ := H
  exact ⟨T, vm0, k0, locs, X.more hc hs, e1, hS, hk, hZ, hown, hC, hN, ⟨f1, f2, f3, fun x q => f4 x (hf x q)⟩, hr⟩
/-! ### the ends -/
theorem Here.fin (H : Here k R Z EL n0 y B ret h0 ws h pc L S ce sl sf) {v : Option Value} (hv : ret = none → v = none) (hc : ce ≤ R.cells) (hs : sl ≤ R.slots) (hQ : Q v h)
    (f : ∀ (p : Program) (l : Launch) (e : Env) (s : State) (m : MethodId) (args : Array Value) (below : List Frame) (meth : Method) (c : Code) (T : State) (locs : List Loc) (ce sl : Nat) (fs : List Frame), Stand p l e R s m args below meth c T locs ce sl → p.tables.exec = Jvm.exec → c.code = B → meth.sig.returnType = ret →
      (∀ (f : JFrame) (acts : List Action), f.method = m → f.locked = none → f.entered = [] → (doReturn e (T.setTop f) acts v).1 = T.setFrames fs) → Steps p.tables e below (T.setTop (mkF m pc L S)) (T.setFrames fs)) :
    Done k R Z EL n0 h0 ws Q := by
  obtain ⟨p, l, e, s, m, args, below, meth, c, start⟩ := k
  obtain ⟨T, vm0, k0, locs, X, e1, hS, hk, hZ, hown, hC, hN, hF, ⟨hx, hb, hl, hr, hnm, hlk, a0, hE⟩, st⟩ := H
  obtain ⟨fs, g1, g2, g3, gE⟩ := X.leaveW hS (by rw [e1]; exact hk) (v := v) (fun q => hv (hr ▸ q)) hlk
  have hA : CHr Z EL vm0 h T.vm h := CHv.at X hZ hE hC.1
  refine ⟨T.setFrames fs, _, st _ (f p l e _ m args below meth c T locs ce sl fs X hx hb hr g1), g2, g3, v, locs, rfl, ⟨?_, ?_, hN⟩, ?_, ?_⟩
  · show Q v T.heap
    rw [e1]; exact hQ
  · show Keep h0 T.heap ws
    rw [e1]; exact hF.2.1
  · show CHr Z EL s.vm s.heap T.vm T.heap
    rw [e1]; exact hC.trans hA
  · exact ⟨gE.1, gE.2.1, gE.2.2.1, gE.2.2.2.mono hc hs⟩
theorem Here.retI (H : Here k R Z EL n0 y B ret h0 ws h pc L [.int w] ce sl sf) {t : FieldType} (ht : ret = some t) (hn : narrow t (.int w) = .int w) (hti : t = .int ∨ t = .boolean ∨ t = .byte ∨ t = .char ∨ t = .short) (d : decode B pc = .ok (.ireturn, 1)) (hc : ce ≤ R.cells) (hs : sl ≤ R.slots) (hQ : Q (some (.int w)) h) : Done k R Z EL n0 h0 ws Q :=
  H.fin (fun q => by rw [ht] at q; cases q) hc hs hQ fun p l e s m args below meth c T locs ce sl fs X hx hB hr g => X.ireturnOut hx (hr.trans ht) hn hti (Jvm.hb hB d) g
theorem Here.retA (H : Here k R Z EL n0 y B ret h0 ws h pc L [w] ce sl sf) {t : FieldType} (ht : ret = some t) (hi : t.isReference = true) (hw : w.isRef = true) (d : decode B pc = .ok (.areturn, 1)) (hc : ce ≤ R.cells) (hs : sl ≤ R.slots) (hQ : Q (some w) h) : Done k R Z EL n0 h0 ws Q :=
  H.fin (fun q => by rw [ht] at q; cases q) hc hs hQ fun p l e s m args below meth c T locs ce sl fs X hx hB hr g => X.areturnOut hx hw (hr.trans ht) hi (Jvm.hb hB d) g
theorem Here.retV (H : Here k R Z EL n0 y B ret h0 ws h pc L [] ce sl sf) (ht : ret = none) (d : decode B pc = .ok (.return_, 1)) (hc : ce ≤ R.cells) (hs : sl ≤ R.slots) (hQ : Q none h) : Done k R Z EL n0 h0 ws Q :=
  H.fin (fun q => rfl) hc hs hQ fun p l e s m args below meth c T locs ce sl fs X hx hB hr g => X.returnOut hx (hr.trans ht) (Jvm.hb hB d) g
/-! ### the beginning, and a call's payment -/
theorem Met.of_walkP {L0 : Array Slot} (pn : plainFor y = true) (hEL : EW Z a0 EL) (hO : Old Z n0 h) (hws : ∀ x ∈ ws, x < h.size ∧ n0 ≤ x) (ef : ∀ m, entryFrame m as' mx = mkF m 0 L0 []) (hL : L0.size = mx)
    (body : ∀ k : Ctx, Here k rm Z EL n0 y B ret h ws h 0 L0 [] 0 0 ws → Done k rm Z EL n0 h ws Q) : Met Z EL n0 y B mx ret rm as' h ws Q := by
  intro l wds
  refine MetFree.of_bodySF pn hisR ?_
  intro p e s m args below meth c s₁ Bd hml0 hP hK
  obtain ⟨rfl, hZ, hh, hC, hsf⟩ := hP
  have X0 : Stand p l e rm s m args below meth c s₁ [] 0 0 := Stand.of_body Bd
  have e0 : s₁.heap = h := by rw [← hh, Bd.state]; rfl
  have H : Here (p, l, e, s, m, args, below, meth, c, s₁.setTop (entryFrame m args mx)) rm Z EL n0 y B ret h ws h 0 L0 [] 0 0 ws :=
    ⟨s₁, s.vm, 0, [], X0, e0, (State.WarmedH.refl s).since 0, Nat.zero_le _, hZ, findClass_of_methodNamed Bd.named, by rw [hh]; exact CHr.refl hC, Fr.nil n0, ⟨hh, Keep.refl _ _, hO, fun x q => ⟨hsf x q, (hws x q).1, (hws x q).2, Or.inl q⟩⟩,
      ⟨Bd.exec, Bd.bytes, hL.trans hml0.symm, Bd.returns, (name_of_methodNamed Bd.named Bd.method).1, BodyLoose.notSynchronized Bd, a0, hEL⟩, fun t q => castTop (ef m) q⟩
  exact body _ H
theorem Met.of_walk {L0 : Array Slot} (pn : plainName y.cls = true) (hEL : EW Z a0 EL) (hO : Old Z n0 h) (hws : ∀ x ∈ ws, x < h.size ∧ n0 ≤ x) (ef : ∀ m, entryFrame m as' mx = mkF m 0 L0 []) (hL : L0.size = mx)
    (body : ∀ k : Ctx, Here k rm Z EL n0 y B ret h ws h 0 L0 [] 0 0 ws → Done k rm Z EL n0 h ws Q) : Met Z EL n0 y B mx ret rm as' h ws Q := Met.of_walkP (plainFor_of_name pn) hEL hO hws ef hL body
theorem Paid.of_met {W : Nat} (hM : Met Z EL n0 z bytes mx rt rm as' h ws' Q) (wc : (Jvm.Cond.code z bytes mx rt).before a0 Z = true) (wz : (Jvm.Cond.initialized z.cls).before a0 Z = true) (hEL : EW Z a0 EL) (hf : rm.frames + 1 ≤ R.frames) (hl : W + (mx + 11) + rm.locals ≤ R.locals) :
    Paid k R Z EL n0 z W as' h ws' rm.cells rm.slots Q := by
  obtain ⟨p, l, e, s, m, args, below, meth, c, start⟩ := k
  intro vm0 hZ H hsf
  exact BackS.of_freeW (bytes := bytes) (maxL := mx) (ret := rt) (E := fun _ first o t L kk n => kk = rm.cells ∧ n = rm.slots ∧ (∃ v, o = .returned v ∧ Q v t.heap ∧ Keep h t.heap ws' ∧ Fr n0 L) ∧ CHr Z EL first.vm first.heap t.vm t.heap) (hM l []) hf hl
    (fun m meth c A a Y hp => have hU : Z.Warmed39 A.U.vm := wtrans (s := s.setVm vm0) hZ Y.warmed
      ⟨by show (Jvm.Cond.and _ .tt).before a A.U = true; rw [Cond.before_and, mv hU wc]; rfl, mv hU wc, mv hU wz, hp.2.2.1, hp.2.2.2⟩)
    (fun m meth c A a g mk Y hp => ⟨hp.1, wtrans (s := s.setVm vm0) hZ Y.warmed, hp.2.1, (CHv.at Y hZ hEL H).1, fun x q => (CHv.at Y hZ hEL H).safe (hsf x q).2 (hsf x q).1⟩) (fun _ _ _ _ _ _ _ _ _ => trivial)
    (fun _ _ _ _ ⟨v, L, h1, h2, h3, h4⟩ => ⟨L, _, _, h4, rfl, rfl, ⟨v, h1, h2⟩, h3⟩)
    (fun m meth c A a g mk v t L kk n Y hp _ _ ⟨e1, e2, ⟨v', e3, e4⟩, e5⟩ => by
      cases e3; subst e1 e2
      refine ⟨L, e4, rfl, rfl, rfl, (CHv.at Y hZ hEL H).trans ?_⟩
      rw [← hp.2.1]; exact e5)
/-- a callee that interns nothing, by the library's 'Back' -/
theorem Paid.of_back {W kc ks : Nat} {QB : Option Value → Heap → List Loc → Prop} (hEL : EW Z a0 EL)
    (hB : ∀ (p : Program) (l : Launch) (e : Env) (s : State) (args : Array Value) (below : List Frame), Z.Warmed39 s.vm → Back l R p e below s args z 3 W (fun A a => a = as' ∧ A.U.heap = h ∧ A.cells + kc ≤ R.cells ∧ A.slots + ks ≤ R.slots) (fun A _ v D => ∃ L, QB v D.U.heap L ∧ D.locs = A.locs ++ L ∧ D.cells = A.cells + kc ∧ D.slots = A.slots + ks))
    (hq : ∀ v h' L, QB v h' L → Q v h' ∧ Keep h h' ws' ∧ Fr n0 L) : Paid k R Z EL n0 z W as' h ws' kc ks Q := by
  obtain ⟨p, l, e, s, m, args, below, meth, c, start⟩ := k
  intro vm0 hZ H hsf
  intro m' meth' c' A g ig mk a X hg hsize hdg hW hn hp
  obtain ⟨v, D, X', ⟨L, q1, q2, q3, q4⟩, hsteps⟩ := hB p l e (s.setVm vm0) args below hZ m' meth' c' A g ig mk a X hg hsize hdg hW hn hp
  obtain ⟨r1, r2, r3⟩ := hq _ _ _ q1
  have hs : ∀ x ∈ ws', Safe Z EL vm0 h x := fun x q => (hsf x q).1
  have h1 : CHr Z EL vm0 h vm0 D.U.heap := CHr.keep r2 hs H
  have h2 : CHr Z EL vm0 D.U.heap D.U.vm D.U.heap := CHv.at X' hZ hEL h1.1
  exact ⟨v, D, X'.retabled X'.warmed.wide, X'.warmed.since _, by rw [hp.2.1]; exact r2.1, ⟨L, ⟨r1, r2, r3⟩, q2, q3, q4, h1.trans h2⟩, hsteps⟩
end Base
section Steps
variable {k : Ctx} {R : Room} {Z : State} {EL : List (String × Nat)} {n0 : Nat} {y : MethodName} {B : ByteArray} {ret : Option FieldType} {h0 h : Heap} {ws sf : List Addr} {pc : Nat} {L L' : Array Slot} {S : List Value} {ce sl : Nat} {a0 : Array Value}
theorem Here.iloadN {i : Fin 4} {v : Int32} (H : Here k R Z EL n0 y B ret h0 ws h pc L S ce sl sf) (pc' : Nat)  (d : decode B pc = .ok (.iload_n i, 1)) (hl : L[i.val]? = some (.val (.int v))) (hp : pc + 1 = pc' := by rfl) : Here k R Z EL n0 y B ret h0 ws h pc' L (.int v :: S) ce sl sf := by
  subst hp
  exact H.go rfl fun p e below m c T t A hx hB q => XS.iloadN A hx rfl (Jvm.hb hB d) hl q
theorem Here.iload {i : Nat} {v : Int32} (H : Here k R Z EL n0 y B ret h0 ws h pc L S ce sl sf) (pc' : Nat)  (d : decode B pc = .ok (.iload i, 2)) (hl : L[i]? = some (.val (.int v))) (hp : pc + 2 = pc' := by rfl) : Here k R Z EL n0 y B ret h0 ws h pc' L (.int v :: S) ce sl sf := by
  subst hp
  exact H.go rfl fun p e below m c T t A hx hB q => XS.iload A hx rfl (Jvm.hb hB d) hl q
theorem Here.aloadN {i : Fin 4} {v : Value} (H : Here k R Z EL n0 y B ret h0 ws h pc L S ce sl sf) (pc' : Nat)  (d : decode B pc = .ok (.aload_n i, 1)) (hl : L[i.val]? = some (.val v)) (hv : v.isRef = true := by rfl) (hp : pc + 1 = pc' := by rfl) : Here k R Z EL n0 y B ret h0 ws h pc' L (v :: S) ce sl sf := by
  subst hp
  exact H.go rfl fun p e below m c T t A hx hB q => XS.aloadN A hx rfl (Jvm.hb hB d) hl hv q
theorem Here.aload {i : Nat} {v : Value} (H : Here k R Z EL n0 y B ret h0 ws h pc L S ce sl sf) (pc' : Nat)  (d : decode B pc = .ok (.aload i, 2)) (hl : L[i]? = some (.val v)) (hv : v.isRef = true := by rfl) (hp : pc + 2 = pc' := by rfl) : Here k R Z EL n0 y B ret h0 ws h pc' L (v :: S) ce sl sf := by
  subst hp
  exact H.go rfl fun p e below m c T t A hx hB q => XS.aload A hx rfl (Jvm.hb hB d) hl hv q
theorem Here.lloadN {i : Fin 4} {v : Int64} (H : Here k R Z EL n0 y B ret h0 ws h pc L S ce sl sf) (pc' : Nat)  (d : decode B pc = .ok (.lload_n i, 1)) (hl : L[i.val]? = some (.val (.long v))) (hp : pc + 1 = pc' := by rfl) : Here k R Z EL n0 y B ret h0 ws h pc' L (.long v :: S) ce sl sf := by
  subst hp
  exact H.go rfl fun p e below m c T t A hx hB q => XT.lloadN A hx rfl (Jvm.hb hB d) hl q
theorem Here.lload {i : Nat} {v : Int64} (H : Here k R Z EL n0 y B ret h0 ws h pc L S ce sl sf) (pc' : Nat)  (d : decode B pc = .ok (.lload i, 2)) (hl : L[i]? = some (.val (.long v))) (hp : pc + 2 = pc' := by rfl) : Here k R Z EL n0 y B ret h0 ws h pc' L (.long v :: S) ce sl sf := by
  subst hp
  exact H.go rfl fun p e below m c T t A hx hB q => XT.lload A hx rfl (Jvm.hb hB d) hl q
theorem Here.iconst {i : Int} (H : Here k R Z EL n0 y B ret h0 ws h pc L S ce sl sf) (pc' : Nat) (v : Int32) (d : decode B pc = .ok (.iconst i, 1)) (hv : Int32.ofInt i = v := by rfl) (hp : pc + 1 = pc' := by rfl) : Here k R Z EL n0 y B ret h0 ws h pc' L (.int v :: S) ce sl sf := by
  subst hp
  exact H.go rfl fun p e below m c T t A hx hB q => XT.iconstV A hx rfl v (Jvm.hb hB d) hv q
theorem Here.bipush {i : Int} (H : Here k R Z EL n0 y B ret h0 ws h pc L S ce sl sf) (pc' : Nat) (v : Int32) (d : decode B pc = .ok (.bipush i, 2)) (hv : (Int8.ofInt i).toInt32 = v := by rfl) (hp : pc + 2 = pc' := by rfl) : Here k R Z EL n0 y B ret h0 ws h pc' L (.int v :: S) ce sl sf := by
  subst hp
  exact H.go rfl fun p e below m c T t A hx hB q => XT.bipushV A hx rfl v (Jvm.hb hB d) hv q
theorem Here.sipush {i : Int} (H : Here k R Z EL n0 y B ret h0 ws h pc L S ce sl sf) (pc' : Nat) (v : Int32) (d : decode B pc = .ok (.sipush i, 3)) (hv : (Int16.ofInt i).toInt32 = v := by rfl) (hp : pc + 3 = pc' := by rfl) : Here k R Z EL n0 y B ret h0 ws h pc' L (.int v :: S) ce sl sf := by
  subst hp
  exact H.go rfl fun p e below m c T t A hx hB q => XT.sipushV A hx rfl v (Jvm.hb hB d) hv q
theorem Here.lconst {i : Fin 2} (H : Here k R Z EL n0 y B ret h0 ws h pc L S ce sl sf) (pc' : Nat) (v : Int64) (d : decode B pc = .ok (.lconst i, 1)) (hv : Int64.ofNat i = v := by rfl) (hp : pc + 1 = pc' := by rfl) : Here k R Z EL n0 y B ret h0 ws h pc' L (.long v :: S) ce sl sf := by
  subst hp
  exact H.go rfl fun p e below m c T t A hx hB q => XT.lconstV A hx rfl v (Jvm.hb hB d) hv q
theorem Here.anull  (H : Here k R Z EL n0 y B ret h0 ws h pc L S ce sl sf) (pc' : Nat)  (d : decode B pc = .ok (.aconst_null, 1))  (hp : pc + 1 = pc' := by rfl) : Here k R Z EL n0 y B ret h0 ws h pc' L (.null :: S) ce sl sf := by
  subst hp
  exact H.go rfl fun p e below m c T t A hx hB q => XS.aconstNull A hx rfl (Jvm.hb hB d) q
theorem Here.iadd {x z : Int32} (H : Here k R Z EL n0 y B ret h0 ws h pc L (.int z :: .int x :: S) ce sl sf) (pc' : Nat)  (d : decode B pc = .ok (.iadd, 1))  (hp : pc + 1 = pc' := by rfl) : Here k R Z EL n0 y B ret h0 ws h pc' L (.int (x + z) :: S) ce sl sf := by
  subst hp
  exact H.go rfl fun p e below m c T t A hx hB q => XS.iadd A hx rfl (Jvm.hb hB d) rfl q
theorem Here.isub {x z : Int32} (H : Here k R Z EL n0 y B ret h0 ws h pc L (.int z :: .int x :: S) ce sl sf) (pc' : Nat)  (d : decode B pc = .ok (.isub, 1))  (hp : pc + 1 = pc' := by rfl) : Here k R Z EL n0 y B ret h0 ws h pc' L (.int (x - z) :: S) ce sl sf := by
  subst hp
  exact H.go rfl fun p e below m c T t A hx hB q => XS.isub A hx rfl (Jvm.hb hB d) rfl q
theorem Here.imul {x z : Int32} (H : Here k R Z EL n0 y B ret h0 ws h pc L (.int z :: .int x :: S) ce sl sf) (pc' : Nat)  (d : decode B pc = .ok (.imul, 1))  (hp : pc + 1 = pc' := by rfl) : Here k R Z EL n0 y B ret h0 ws h pc' L (.int (x * z) :: S) ce sl sf := by
  subst hp
  exact H.go rfl fun p e below m c T t A hx hB q => XS.imul A hx rfl (Jvm.hb hB d) rfl q
theorem Here.iand {x z : Int32} (H : Here k R Z EL n0 y B ret h0 ws h pc L (.int z :: .int x :: S) ce sl sf) (pc' : Nat)  (d : decode B pc = .ok (.iand, 1))  (hp : pc + 1 = pc' := by rfl) : Here k R Z EL n0 y B ret h0 ws h pc' L (.int (x &&& z) :: S) ce sl sf := by
  subst hp
  exact H.go rfl fun p e below m c T t A hx hB q => XS.iand A hx rfl (Jvm.hb hB d) rfl q
theorem Here.ior {x z : Int32} (H : Here k R Z EL n0 y B ret h0 ws h pc L (.int z :: .int x :: S) ce sl sf) (pc' : Nat)  (d : decode B pc = .ok (.ior, 1))  (hp : pc + 1 = pc' := by rfl) : Here k R Z EL n0 y B ret h0 ws h pc' L (.int (x ||| z) :: S) ce sl sf := by
  subst hp
  exact H.go rfl fun p e below m c T t A hx hB q => XT.ior A hx rfl (Jvm.hb hB d) rfl q
theorem Here.ixor {x z : Int32} (H : Here k R Z EL n0 y B ret h0 ws h pc L (.int z :: .int x :: S) ce sl sf) (pc' : Nat)  (d : decode B pc = .ok (.ixor, 1))  (hp : pc + 1 = pc' := by rfl) : Here k R Z EL n0 y B ret h0 ws h pc' L (.int (x ^^^ z) :: S) ce sl sf := by
  subst hp
  exact H.go rfl fun p e below m c T t A hx hB q => XT.ixor A hx rfl (Jvm.hb hB d) rfl q
theorem Here.ishl {x z : Int32} (H : Here k R Z EL n0 y B ret h0 ws h pc L (.int z :: .int x :: S) ce sl sf) (pc' : Nat)  (d : decode B pc = .ok (.ishl, 1))  (hp : pc + 1 = pc' := by rfl) : Here k R Z EL n0 y B ret h0 ws h pc' L (.int (x <<< (z &&& 31)) :: S) ce sl sf := by
  subst hp
  exact H.go rfl fun p e below m c T t A hx hB q => XT.ishl A hx rfl (Jvm.hb hB d) rfl q
theorem Here.ishr {x z : Int32} (H : Here k R Z EL n0 y B ret h0 ws h pc L (.int z :: .int x :: S) ce sl sf) (pc' : Nat)  (d : decode B pc = .ok (.ishr, 1))  (hp : pc + 1 = pc' := by rfl) : Here k R Z EL n0 y B ret h0 ws h pc' L (.int (x >>> (z &&& 31)) :: S) ce sl sf := by
  subst hp
  exact H.go rfl fun p e below m c T t A hx hB q => XT.ishr A hx rfl (Jvm.hb hB d) rfl q
theorem Here.iushr {x z : Int32} (H : Here k R Z EL n0 y B ret h0 ws h pc L (.int z :: .int x :: S) ce sl sf) (pc' : Nat)  (d : decode B pc = .ok (.iushr, 1))  (hp : pc + 1 = pc' := by rfl) : Here k R Z EL n0 y B ret h0 ws h pc' L (.int ((x.toUInt32 >>> (z &&& 31).toUInt32).toInt32) :: S) ce sl sf := by
  subst hp
  exact H.go rfl fun p e below m c T t A hx hB q => XT.iushr A hx rfl (Jvm.hb hB d) rfl q
theorem Here.idiv {x z : Int32} (H : Here k R Z EL n0 y B ret h0 ws h pc L (.int z :: .int x :: S) ce sl sf) (pc' : Nat)  (d : decode B pc = .ok (.idiv, 1)) (hz : z ≠ 0) (hp : pc + 1 = pc' := by rfl) : Here k R Z EL n0 y B ret h0 ws h pc' L (.int (x / z) :: S) ce sl sf := by
  subst hp
  exact H.go rfl fun p e below m c T t A hx hB q => XS.idiv A hx rfl (Jvm.hb hB d) rfl hz q
theorem Here.irem {x z : Int32} (H : Here k R Z EL n0 y B ret h0 ws h pc L (.int z :: .int x :: S) ce sl sf) (pc' : Nat) (d : decode B pc = .ok (.irem, 1)) (hz : z ≠ 0) (hp : pc + 1 = pc' := by rfl) : Here k R Z EL n0 y B ret h0 ws h pc' L (.int (x % z) :: S) ce sl sf := by
  subst hp
  have e1 : x - x / z * z = x % z := irem_eq_mod x z
  exact H.go rfl fun p e below m c T t A hx hB q => XS.irem A hx rfl (Jvm.hb hB d) rfl hz (by rw [e1]; exact q)
theorem Here.ineg {x : Int32} (H : Here k R Z EL n0 y B ret h0 ws h pc L (.int x :: S) ce sl sf) (pc' : Nat)  (d : decode B pc = .ok (.ineg, 1))  (hp : pc + 1 = pc' := by rfl) : Here k R Z EL n0 y B ret h0 ws h pc' L (.int (-x) :: S) ce sl sf := by
  subst hp
  exact H.go rfl fun p e below m c T t A hx hB q => XS.ineg A hx rfl (Jvm.hb hB d) rfl q
theorem Here.i2c {x : Int32} (H : Here k R Z EL n0 y B ret h0 ws h pc L (.int x :: S) ce sl sf) (pc' : Nat)  (d : decode B pc = .ok (.i2c, 1))  (hp : pc + 1 = pc' := by rfl) : Here k R Z EL n0 y B ret h0 ws h pc' L (.int x.toUInt32.toUInt16.toUInt32.toInt32 :: S) ce sl sf := by
  subst hp
  exact H.go rfl fun p e below m c T t A hx hB q => XT.i2c A hx rfl (Jvm.hb hB d) rfl q
theorem Here.i2b {x : Int32} (H : Here k R Z EL n0 y B ret h0 ws h pc L (.int x :: S) ce sl sf) (pc' : Nat)  (d : decode B pc = .ok (.i2b, 1))  (hp : pc + 1 = pc' := by rfl) : Here k R Z EL n0 y B ret h0 ws h pc' L (.int x.toInt8.toInt32 :: S) ce sl sf := by
  subst hp
  exact H.go rfl fun p e below m c T t A hx hB q => XT.i2b A hx rfl (Jvm.hb hB d) rfl q
theorem Here.i2l {x : Int32} (H : Here k R Z EL n0 y B ret h0 ws h pc L (.int x :: S) ce sl sf) (pc' : Nat)  (d : decode B pc = .ok (.i2l, 1))  (hp : pc + 1 = pc' := by rfl) : Here k R Z EL n0 y B ret h0 ws h pc' L (.long x.toInt64 :: S) ce sl sf := by
  subst hp
  exact H.go rfl fun p e below m c T t A hx hB q => XT.i2l A hx rfl (Jvm.hb hB d) rfl q
theorem Here.l2i {x : Int64} (H : Here k R Z EL n0 y B ret h0 ws h pc L (.long x :: S) ce sl sf) (pc' : Nat)  (d : decode B pc = .ok (.l2i, 1))  (hp : pc + 1 = pc' := by rfl) : Here k R Z EL n0 y B ret h0 ws h pc' L (.int x.toInt32 :: S) ce sl sf := by
  subst hp
  exact H.go rfl fun p e below m c T t A hx hB q => XT.l2i A hx rfl (Jvm.hb hB d) rfl q
theorem Here.ladd {x z : Int64} (H : Here k R Z EL n0 y B ret h0 ws h pc L (.long z :: .long x :: S) ce sl sf) (pc' : Nat)  (d : decode B pc = .ok (.ladd, 1))  (hp : pc + 1 = pc' := by rfl) : Here k R Z EL n0 y B ret h0 ws h pc' L (.long (x + z) :: S) ce sl sf := by
  subst hp
  exact H.go rfl fun p e below m c T t A hx hB q => XT.ladd A hx rfl (Jvm.hb hB d) rfl q
theorem Here.lsub {x z : Int64} (H : Here k R Z EL n0 y B ret h0 ws h pc L (.long z :: .long x :: S) ce sl sf) (pc' : Nat)  (d : decode B pc = .ok (.lsub, 1))  (hp : pc + 1 = pc' := by rfl) : Here k R Z EL n0 y B ret h0 ws h pc' L (.long (x - z) :: S) ce sl sf := by
  subst hp
  exact H.go rfl fun p e below m c T t A hx hB q => XT.lsub A hx rfl (Jvm.hb hB d) rfl q
theorem Here.lmul {x z : Int64} (H : Here k R Z EL n0 y B ret h0 ws h pc L (.long z :: .long x :: S) ce sl sf) (pc' : Nat)  (d : decode B pc = .ok (.lmul, 1))  (hp : pc + 1 = pc' := by rfl) : Here k R Z EL n0 y B ret h0 ws h pc' L (.long (x * z) :: S) ce sl sf := by
  subst hp
  exact H.go rfl fun p e below m c T t A hx hB q => XT.lmul A hx rfl (Jvm.hb hB d) rfl q
theorem Here.land {x z : Int64} (H : Here k R Z EL n0 y B ret h0 ws h pc L (.long z :: .long x :: S) ce sl sf) (pc' : Nat)  (d : decode B pc = .ok (.land, 1))  (hp : pc + 1 = pc' := by rfl) : Here k R Z EL n0 y B ret h0 ws h pc' L (.long (x &&& z) :: S) ce sl sf := by
  subst hp
  exact H.go rfl fun p e below m c T t A hx hB q => XT.land A hx rfl (Jvm.hb hB d) rfl q
theorem Here.lor {x z : Int64} (H : Here k R Z EL n0 y B ret h0 ws h pc L (.long z :: .long x :: S) ce sl sf) (pc' : Nat)  (d : decode B pc = .ok (.lor, 1))  (hp : pc + 1 = pc' := by rfl) : Here k R Z EL n0 y B ret h0 ws h pc' L (.long (x ||| z) :: S) ce sl sf := by
  subst hp
  exact H.go rfl fun p e below m c T t A hx hB q => XT.lor A hx rfl (Jvm.hb hB d) rfl q
theorem Here.lushr {x : Int64} {z : Int32} (H : Here k R Z EL n0 y B ret h0 ws h pc L (.int z :: .long x :: S) ce sl sf) (pc' : Nat)  (d : decode B pc = .ok (.lushr, 1))  (hp : pc + 1 = pc' := by rfl) : Here k R Z EL n0 y B ret h0 ws h pc' L (.long (XT.ushrL x z) :: S) ce sl sf := by
  subst hp
  exact H.go rfl fun p e below m c T t A hx hB q => XT.lushr A hx rfl (Jvm.hb hB d) rfl q
theorem Here.ldiv {x z : Int64} (H : Here k R Z EL n0 y B ret h0 ws h pc L (.long z :: .long x :: S) ce sl sf) (pc' : Nat)  (d : decode B pc = .ok (.ldiv, 1)) (hz : z ≠ 0) (hp : pc + 1 = pc' := by rfl) : Here k R Z EL n0 y B ret h0 ws h pc' L (.long (x / z) :: S) ce sl sf := by
  subst hp
  exact H.go rfl fun p e below m c T t A hx hB q => XT.ldiv A hx rfl (Jvm.hb hB d) rfl hz q
theorem Here.lneg {x : Int64} (H : Here k R Z EL n0 y B ret h0 ws h pc L (.long x :: S) ce sl sf) (pc' : Nat)  (d : decode B pc = .ok (.lneg, 1))  (hp : pc + 1 = pc' := by rfl) : Here k R Z EL n0 y B ret h0 ws h pc' L (.long (-x) :: S) ce sl sf := by
  subst hp
  exact H.go rfl fun p e below m c T t A hx hB q => XT.lneg A hx rfl (Jvm.hb hB d) rfl q
theorem Here.lcmp {x z : Int64} (H : Here k R Z EL n0 y B ret h0 ws h pc L (.long z :: .long x :: S) ce sl sf) (pc' : Nat)  (d : decode B pc = .ok (.lcmp, 1))  (hp : pc + 1 = pc' := by rfl) : Here k R Z EL n0 y B ret h0 ws h pc' L (.int (XT.cmpL x z) :: S) ce sl sf := by
  subst hp
  exact H.go rfl fun p e below m c T t A hx hB q => XT.lcmp A hx rfl (Jvm.hb hB d) rfl q
theorem Here.dup {v : Value} (H : Here k R Z EL n0 y B ret h0 ws h pc L (v :: S) ce sl sf) (pc' : Nat)  (d : decode B pc = .ok (.dup, 1)) (hc : v.category = 1 := by rfl) (hp : pc + 1 = pc' := by rfl) : Here k R Z EL n0 y B ret h0 ws h pc' L (v :: v :: S) ce sl sf := by
  subst hp
  exact H.go rfl fun p e below m c T t A hx hB q => XS.dup A hx rfl (Jvm.hb hB d) rfl hc q
theorem Here.pop {v : Value} (H : Here k R Z EL n0 y B ret h0 ws h pc L (v :: S) ce sl sf) (pc' : Nat)  (d : decode B pc = .ok (.pop, 1)) (hc : v.category = 1 := by rfl) (hp : pc + 1 = pc' := by rfl) : Here k R Z EL n0 y B ret h0 ws h pc' L S ce sl sf := by
  subst hp
  exact H.go rfl fun p e below m c T t A hx hB q => XT.pop A hx rfl (Jvm.hb hB d) rfl hc q
theorem Here.istoreN {i : Fin 4} {x : Int32} (H : Here k R Z EL n0 y B ret h0 ws h pc L (.int x :: S) ce sl sf) (pc' : Nat)  (d : decode B pc = .ok (.istore_n i, 1)) (hl : storeLocals L i.val (.int x) = some L') (hz : L'.size = L.size := by rfl) (hp : pc + 1 = pc' := by rfl) : Here k R Z EL n0 y B ret h0 ws h pc' L' S ce sl sf := by
  subst hp
  exact H.go hz fun p e below m c T t A hx hB q => XS.istoreN A hx rfl (Jvm.hb hB d) rfl hl q
theorem Here.istore {i : Nat} {x : Int32} (H : Here k R Z EL n0 y B ret h0 ws h pc L (.int x :: S) ce sl sf) (pc' : Nat)  (d : decode B pc = .ok (.istore i, 2)) (hl : storeLocals L i (.int x) = some L') (hz : L'.size = L.size := by rfl) (hp : pc + 2 = pc' := by rfl) : Here k R Z EL n0 y B ret h0 ws h pc' L' S ce sl sf := by
  subst hp
  exact H.go hz fun p e below m c T t A hx hB q => XS.istore A hx rfl (Jvm.hb hB d) rfl hl q
theorem Here.astoreN {i : Fin 4} {x : Value} (H : Here k R Z EL n0 y B ret h0 ws h pc L (x :: S) ce sl sf) (pc' : Nat)  (d : decode B pc = .ok (.astore_n i, 1)) (hl : storeLocals L i.val x = some L') (hv : x.isRef = true := by rfl) (hz : L'.size = L.size := by rfl) (hp : pc + 1 = pc' := by rfl) : Here k R Z EL n0 y B ret h0 ws h pc' L' S ce sl sf := by
  subst hp
  exact H.go hz fun p e below m c T t A hx hB q => XS.astoreN A hx rfl (Jvm.hb hB d) rfl hv hl q
theorem Here.astore {i : Nat} {x : Value} (H : Here k R Z EL n0 y B ret h0 ws h pc L (x :: S) ce sl sf) (pc' : Nat)  (d : decode B pc = .ok (.astore i, 2)) (hl : storeLocals L i x = some L') (hv : x.isRef = true := by rfl) (hz : L'.size = L.size := by rfl) (hp : pc + 2 = pc' := by rfl) : Here k R Z EL n0 y B ret h0 ws h pc' L' S ce sl sf := by
  subst hp
  exact H.go hz fun p e below m c T t A hx hB q => XS.astore A hx rfl (Jvm.hb hB d) rfl hv hl q
theorem Here.lstoreN {i : Fin 4} {x : Int64} (H : Here k R Z EL n0 y B ret h0 ws h pc L (.long x :: S) ce sl sf) (pc' : Nat)  (d : decode B pc = .ok (.lstore_n i, 1)) (hl : storeLocals L i.val (.long x) = some L') (hz : L'.size = L.size := by rfl) (hp : pc + 1 = pc' := by rfl) : Here k R Z EL n0 y B ret h0 ws h pc' L' S ce sl sf := by
  subst hp
  exact H.go hz fun p e below m c T t A hx hB q => XT.lstoreN A hx rfl (Jvm.hb hB d) rfl hl q
theorem Here.lstore {i : Nat} {x : Int64} (H : Here k R Z EL n0 y B ret h0 ws h pc L (.long x :: S) ce sl sf) (pc' : Nat)  (d : decode B pc = .ok (.lstore i, 2)) (hl : storeLocals L i (.long x) = some L') (hz : L'.size = L.size := by rfl) (hp : pc + 2 = pc' := by rfl) : Here k R Z EL n0 y B ret h0 ws h pc' L' S ce sl sf := by
  subst hp
  exact H.go hz fun p e below m c T t A hx hB q => XT.lstore A hx rfl (Jvm.hb hB d) rfl hl q
theorem Here.iinc {i : Nat} {cst : Int} {x : Int32} (H : Here k R Z EL n0 y B ret h0 ws h pc L S ce sl sf) (pc' : Nat) (v : Int32) (d : decode B pc = .ok (.iinc i cst, 3)) (hl : L[i]? = some (.val (.int x))) (hl' : storeLocals L i (.int (x + v)) = some L') (hv : Int32.ofInt cst = v := by rfl) (hz : L'.size = L.size := by rfl) (hp : pc + 3 = pc' := by rfl) : Here k R Z EL n0 y B ret h0 ws h pc' L' S ce sl sf := by
  subst hp
  exact H.go hz fun p e below m c T t A hx hB q => XT.iincV A hx rfl v (Jvm.hb hB d) hv hl hl' q
theorem Here.goto  (H : Here k R Z EL n0 y B ret h0 ws h pc L S ce sl sf) (pc' : Nat)  {o : Int} (d : decode B pc = .ok (.goto o, 3))  (ho : 0 ≤ (pc : Int) + o := by decide) (hp : ((pc : Int) + o).toNat = pc' := by rfl) : Here k R Z EL n0 y B ret h0 ws h pc' L S ce sl sf :=
  H.go rfl fun p e below m c T t A hx hB q => XS.goto A hx rfl rfl (Jvm.hb hB d) ho hp q
theorem Here.ifYes {cd : ClassFile.Cond} {x : Int32} (H : Here k R Z EL n0 y B ret h0 ws h pc L (.int x :: S) ce sl sf) (pc' : Nat)  {o : Int} (d : decode B pc = .ok (.ifCond cd o, 3)) (hc : ifCond.holds cd x = true) (ho : 0 ≤ (pc : Int) + o := by decide) (hp : ((pc : Int) + o).toNat = pc' := by rfl) : Here k R Z EL n0 y B ret h0 ws h pc' L S ce sl sf :=
  H.go rfl fun p e below m c T t A hx hB q => XS.ifYes A hx rfl rfl (Jvm.hb hB d) rfl hc ho hp q
theorem Here.ifNo {cd : ClassFile.Cond} {o : Int} {x : Int32} (H : Here k R Z EL n0 y B ret h0 ws h pc L (.int x :: S) ce sl sf) (pc' : Nat)  (d : decode B pc = .ok (.ifCond cd o, 3)) (hc : ifCond.holds cd x = false) (hp : pc + 3 = pc' := by rfl) : Here k R Z EL n0 y B ret h0 ws h pc' L S ce sl sf := by
  subst hp
  exact H.go rfl fun p e below m c T t A hx hB q => XS.ifNo A hx rfl (Jvm.hb hB d) rfl hc q
theorem Here.icmpYes {cd : ClassFile.Cond} {x z : Int32} (H : Here k R Z EL n0 y B ret h0 ws h pc L (.int z :: .int x :: S) ce sl sf) (pc' : Nat)  {o : Int} (d : decode B pc = .ok (.if_icmp cd o, 3)) (hc : if_icmp.holds cd x z = true) (ho : 0 ≤ (pc : Int) + o := by decide) (hp : ((pc : Int) + o).toNat = pc' := by rfl) : Here k R Z EL n0 y B ret h0 ws h pc' L S ce sl sf :=
  H.go rfl fun p e below m c T t A hx hB q => XS.icmpYes A hx rfl rfl (Jvm.hb hB d) rfl hc ho hp q
theorem Here.icmpNo {cd : ClassFile.Cond} {o : Int} {x z : Int32} (H : Here k R Z EL n0 y B ret h0 ws h pc L (.int z :: .int x :: S) ce sl sf) (pc' : Nat)  (d : decode B pc = .ok (.if_icmp cd o, 3)) (hc : if_icmp.holds cd x z = false) (hp : pc + 3 = pc' := by rfl) : Here k R Z EL n0 y B ret h0 ws h pc' L S ce sl sf := by
  subst hp
  exact H.go rfl fun p e below m c T t A hx hB q => XS.icmpNo A hx rfl (Jvm.hb hB d) rfl hc q
theorem Here.nullYes  (H : Here k R Z EL n0 y B ret h0 ws h pc L (.null :: S) ce sl sf) (pc' : Nat)  {o : Int} (d : decode B pc = .ok (.ifnull o, 3))  (ho : 0 ≤ (pc : Int) + o := by decide) (hp : ((pc : Int) + o).toNat = pc' := by rfl) : Here k R Z EL n0 y B ret h0 ws h pc' L S ce sl sf :=
  H.go rfl fun p e below m c T t A hx hB q => XS.ifnullYes A hx rfl rfl (Jvm.hb hB d) rfl ho hp q
theorem Here.nullNo {o : Int} {b : Addr} (H : Here k R Z EL n0 y B ret h0 ws h pc L (.ref b :: S) ce sl sf) (pc' : Nat)  (d : decode B pc = .ok (.ifnull o, 3))  (hp : pc + 3 = pc' := by rfl) : Here k R Z EL n0 y B ret h0 ws h pc' L S ce sl sf := by
  subst hp
  exact H.go rfl fun p e below m c T t A hx hB q => XS.ifnullNo A hx rfl (Jvm.hb hB d) rfl q
theorem Here.nonnullYes {b : Addr} (H : Here k R Z EL n0 y B ret h0 ws h pc L (.ref b :: S) ce sl sf) (pc' : Nat)  {o : Int} (d : decode B pc = .ok (.ifnonnull o, 3))  (ho : 0 ≤ (pc : Int) + o := by decide) (hp : ((pc : Int) + o).toNat = pc' := by rfl) : Here k R Z EL n0 y B ret h0 ws h pc' L S ce sl sf :=
  H.go rfl fun p e below m c T t A hx hB q => XT.ifnonnullYes A hx rfl rfl (Jvm.hb hB d) rfl ho hp q
theorem Here.nonnullNo {o : Int} (H : Here k R Z EL n0 y B ret h0 ws h pc L (.null :: S) ce sl sf) (pc' : Nat)  (d : decode B pc = .ok (.ifnonnull o, 3))  (hp : pc + 3 = pc' := by rfl) : Here k R Z EL n0 y B ret h0 ws h pc' L S ce sl sf := by
  subst hp
  exact H.go rfl fun p e below m c T t A hx hB q => XT.ifnonnullNo A hx rfl (Jvm.hb hB d) rfl q
theorem Here.acmpYes {cd : ClassFile.ACond} {u v : Value} (H : Here k R Z EL n0 y B ret h0 ws h pc L (v :: u :: S) ce sl sf) (pc' : Nat)  {o : Int} (d : decode B pc = .ok (.if_acmp cd o, 3)) (hc : XT.acmp cd u v = true) (hu : u.isRef = true := by rfl) (hv : v.isRef = true := by rfl) (ho : 0 ≤ (pc : Int) + o := by decide) (hp : ((pc : Int) + o).toNat = pc' := by rfl) : Here k R Z EL n0 y B ret h0 ws h pc' L S ce sl sf :=
  H.go rfl fun p e below m c T t A hx hB q => XT.acmpYes A hx rfl rfl (Jvm.hb hB d) rfl hu hv hc ho hp q
theorem Here.acmpNo {cd : ClassFile.ACond} {o : Int} {u v : Value} (H : Here k R Z EL n0 y B ret h0 ws h pc L (v :: u :: S) ce sl sf) (pc' : Nat)  (d : decode B pc = .ok (.if_acmp cd o, 3)) (hc : XT.acmp cd u v = false) (hu : u.isRef = true := by rfl) (hv : v.isRef = true := by rfl) (hp : pc + 3 = pc' := by rfl) : Here k R Z EL n0 y B ret h0 ws h pc' L S ce sl sf := by
  subst hp
  exact H.go rfl fun p e below m c T t A hx hB q => XT.acmpNo A hx rfl (Jvm.hb hB d) rfl hu hv hc q
end Steps
section HeapSteps
variable {k : Ctx} {R : Room} {Z : State} {EL : List (String × Nat)} {n0 : Nat} {y : MethodName} {B : ByteArray} {ret : Option FieldType} {h0 h : Heap} {ws sf : List Addr} {pc : Nat} {L : Array Slot} {S : List Value} {ce sl : Nat} {a0 : Array Value}
theorem Here.getF (H : Here k R Z EL n0 y B ret h0 ws h pc L (.ref a :: S) ce sl sf) (pc' : Nat) {index : Nat} {O n d : String} {v : Value} (w : (Jvm.Cond.fieldLink y.cls index O n d).before a0 Z = true) (F : Fld Z h a O n d v) (dd : decode B pc = .ok (.getfield index, 3)) (hp : pc + 3 = pc' := by rfl) : Here k R Z EL n0 y B ret h0 ws h pc' L (v :: S) ce sl sf := by
  subst hp
  exact H.goT rfl fun p l e s m args below meth c T locs ce sl X e1 hZ hown hx hB hl hs => RoadKit.getF X hx hZ hown (host := "") (Or.inl w) Via.refl e1 F (g := mkF m pc L (.ref a :: S)) rfl rfl (Jvm.hb hB dd)
theorem Here.getS (H : Here k R Z EL n0 y B ret h0 ws h pc L S ce sl sf) (pc' : Nat) {index : Nat} {O n d : String} {v : Value} (w : (Jvm.Cond.fieldLink y.cls index O n d).before a0 Z = true) (F : Sta Z h O n d v) (dd : decode B pc = .ok (.getstatic index, 3)) (hp : pc + 3 = pc' := by rfl) : Here k R Z EL n0 y B ret h0 ws h pc' L (v :: S) ce sl sf := by
  subst hp
  exact H.goT rfl fun p l e s m args below meth c T locs ce sl X e1 hZ hown hx hB hl hs => RoadKit.getS X hx hZ (host := "") hown w Via.refl e1 F (g := mkF m pc L S) rfl (Jvm.hb hB dd)
theorem Here.castY (H : Here k R Z EL n0 y B ret h0 ws h pc L (.ref a :: S) ce sl sf) (pc' : Nat) {index : Nat} {K : String} (w : (Jvm.Cond.classLink y.cls index K).before a0 Z = true) (F : Ins Z h a K true) (dd : decode B pc = .ok (.checkcast index, 3)) (hp : pc + 3 = pc' := by rfl) : Here k R Z EL n0 y B ret h0 ws h pc' L (.ref a :: S) ce sl sf := by
  subst hp
  exact H.goT rfl fun p l e s m args below meth c T locs ce sl X e1 hZ hown hx hB hl hs => RoadKit.castY X hx hZ hown w e1 F (g := mkF m pc L (.ref a :: S)) rfl rfl (Jvm.hb hB dd)
theorem Here.instY (H : Here k R Z EL n0 y B ret h0 ws h pc L (.ref a :: S) ce sl sf) (pc' : Nat) {index : Nat} {K : String} (w : (Jvm.Cond.classLink y.cls index K).before a0 Z = true) (F : Ins Z h a K true) (dd : decode B pc = .ok (.instanceof index, 3)) (hp : pc + 3 = pc' := by rfl) : Here k R Z EL n0 y B ret h0 ws h pc' L (.int 1 :: S) ce sl sf := by
  subst hp
  exact H.goT rfl fun p l e s m args below meth c T locs ce sl X e1 hZ hown hx hB hl hs => RoadKit.instY X hx hZ hown w e1 F (g := mkF m pc L (.ref a :: S)) rfl rfl (Jvm.hb hB dd)
theorem Here.instN (H : Here k R Z EL n0 y B ret h0 ws h pc L (.ref a :: S) ce sl sf) (pc' : Nat) {index : Nat} {K C : String} (w : (Jvm.Cond.classLink y.cls index K).before a0 Z = true) (F : Ins Z h0 a K false) (E : Exa Z h0 a C) (dd : decode B pc = .ok (.instanceof index, 3)) (hp : pc + 3 = pc' := by rfl) : Here k R Z EL n0 y B ret h0 ws h pc' L (.int 0 :: S) ce sl sf := by
  subst hp
  exact H.goT rfl fun p l e s m args below meth c T locs ce sl X e1 hZ hown hx hB hl hs => by subst hs; exact RoadKit.instN X hx hZ hown w e1 F E (g := mkF m pc L (.ref a :: S)) rfl rfl (Jvm.hb hB dd)
theorem Here.ldcI (H : Here k R Z EL n0 y B ret h0 ws h pc L S ce sl sf) (pc' : Nat) {index : Nat} {v : Int32} (w : (Jvm.Cond.constant y.cls index v).before a0 Z = true) (dd : decode B pc = .ok (.ldc index, 2)) (hp : pc + 2 = pc' := by rfl) : Here k R Z EL n0 y B ret h0 ws h pc' L (.int v :: S) ce sl sf := by
  subst hp
  exact H.goT rfl fun p l e s m args below meth c T locs ce sl X e1 hZ hown hx hB hl hs => ⟨T, X, e1, fun t q => X.ldcI hx hown (mvT hZ w) (g := mkF m pc L S) rfl (Jvm.hb hB dd) q⟩
theorem Here.ldc2J (H : Here k R Z EL n0 y B ret h0 ws h pc L S ce sl sf) (pc' : Nat) {index : Nat} {v : Int64} (w : (Jvm.Cond.constantLong y.cls index v).before a0 Z = true) (dd : decode B pc = .ok (.ldc2_w index, 3)) (hp : pc + 3 = pc' := by rfl) : Here k R Z EL n0 y B ret h0 ws h pc' L (.long v :: S) ce sl sf := by
  subst hp
  exact H.goT rfl fun p l e s m args below meth c T locs ce sl X e1 hZ hown hx hB hl hs => ⟨T, X, e1, fun t q => X.ldc2J hx hown (mvT hZ w) (g := mkF m pc L S) rfl (Jvm.hb hB dd) q⟩
theorem Here.alen (H : Here k R Z EL n0 y B ret h0 ws h pc L (.ref a :: S) ce sl sf) (pc' : Nat) {kc : ClassId} {ty : FieldType} {z : Int32} {vs : List Value} {dv : Value} (V : Arv Z h a kc ty z vs dv) (dd : decode B pc = .ok (.arraylength, 1)) (hp : pc + 1 = pc' := by rfl) : Here k R Z EL n0 y B ret h0 ws h pc' L (.int z :: S) ce sl sf := by
  subst hp
  obtain ⟨cl, A, -, hsz, hz, -⟩ := V
  exact H.goT rfl fun p l e s m args below meth c T locs ce sl X e1 hZ hown hx hB hl hs => ⟨T, X, e1, fun t q => X.arraylength hx (by rw [e1]; exact A.1) (State.isArrayOf_alike hZ.alike A.2.1) (g := mkF m pc L (.ref a :: S)) rfl rfl (Jvm.hb hB dd) t (by rw [len_of hsz hz]; exact q)⟩
theorem Here.alenA (H : Here k R Z EL n0 y B ret h0 ws h pc L (.ref a :: S) ce sl sf) (pc' : Nat) {cl : Cell} {ty : FieldType} {z : Int32} (A : Arr Z h a cl ty) (hsz : cl.slots.size = z.toNatClampNeg) (hz : ¬ z < 0) (dd : decode B pc = .ok (.arraylength, 1)) (hp : pc + 1 = pc' := by rfl) : Here k R Z EL n0 y B ret h0 ws h pc' L (.int z :: S) ce sl sf := by
  subst hp
  exact H.goT rfl fun p l e s m args below meth c T locs ce sl X e1 hZ hown hx hB hl hs => ⟨T, X, e1, fun t q => X.arraylength hx (by rw [e1]; exact A.1) (State.isArrayOf_alike hZ.alike A.2.1) (g := mkF m pc L (.ref a :: S)) rfl rfl (Jvm.hb hB dd) t (by rw [len_of hsz hz]; exact q)⟩
theorem Here.caload (H : Here k R Z EL n0 y B ret h0 ws h pc L (.int j :: .ref a :: S) ce sl sf) (pc' : Nat) {kc : ClassId} {z : Int32} {vs : List Value} {dv v : Value} (V : Arv Z h a kc .char z vs dv) (hj : ¬ j < 0 ∧ j < z) (hv : vs.getD j.toNatClampNeg dv = v) (dd : decode B pc = .ok (.caload, 1)) (hp : pc + 1 = pc' := by rfl) : Here k R Z EL n0 y B ret h0 ws h pc' L (v :: S) ce sl sf := by
  subst hp
  obtain ⟨cl, A, -, hsz, hz, hh, -⟩ := V
  exact H.goT rfl fun p l e s m args below meth c T locs ce sl X e1 hZ hown hx hB hl hs => ⟨T, X, e1, fun t q => X.caload hx (by rw [e1]; exact A.1) (State.isArrayOf_alike hZ.alike A.2.1) A.2.2 (inb_of hsz hj) (hh.at (inb_of hsz hj) hv) (g := mkF m pc L (.int j :: .ref a :: S)) rfl rfl (Jvm.hb hB dd) t q⟩
theorem Here.baload (H : Here k R Z EL n0 y B ret h0 ws h pc L (.int j :: .ref a :: S) ce sl sf) (pc' : Nat) {kc : ClassId} {z : Int32} {vs : List Value} {dv v : Value} (V : Arv Z h a kc .byte z vs dv) (hj : ¬ j < 0 ∧ j < z) (hv : vs.getD j.toNatClampNeg dv = v) (dd : decode B pc = .ok (.baload, 1)) (hp : pc + 1 = pc' := by rfl) : Here k R Z EL n0 y B ret h0 ws h pc' L (v :: S) ce sl sf := by
  subst hp
  obtain ⟨cl, A, -, hsz, hz, hh, -⟩ := V
  exact H.goT rfl fun p l e s m args below meth c T locs ce sl X e1 hZ hown hx hB hl hs => ⟨T, X, e1, fun t q => X.baloadBytes hx (by rw [e1]; exact A.1) (State.isArrayOf_alike hZ.alike A.2.1) A.2.2 (inb_of hsz hj) (hh.at (inb_of hsz hj) hv) (g := mkF m pc L (.int j :: .ref a :: S)) rfl rfl (Jvm.hb hB dd) t q⟩
theorem Here.aaload (H : Here k R Z EL n0 y B ret h0 ws h pc L (.int j :: .ref a :: S) ce sl sf) (pc' : Nat) {kc : ClassId} {ty : FieldType} {z : Int32} {vs : List Value} {dv v : Value} (V : Arv Z h a kc ty z vs dv) (hty : ty.isReference = true) (hj : ¬ j < 0 ∧ j < z) (hv : vs.getD j.toNatClampNeg dv = v) (dd : decode B pc = .ok (.aaload, 1)) (hp : pc + 1 = pc' := by rfl) : Here k R Z EL n0 y B ret h0 ws h pc' L (v :: S) ce sl sf := by
  subst hp
  obtain ⟨cl, A, -, hsz, hz, hh, -⟩ := V
  exact H.goT rfl fun p l e s m args below meth c T locs ce sl X e1 hZ hown hx hB hl hs => ⟨T, X, e1, fun t q => X.aaload hx (by rw [e1]; exact A.1) (State.isArrayOf_alike hZ.alike A.2.1) hty A.2.2 (inb_of hsz hj) (hh.at (inb_of hsz hj) hv) (g := mkF m pc L (.int j :: .ref a :: S)) rfl rfl (Jvm.hb hB dd) t q⟩
theorem Here.aaloadA (H : Here k R Z EL n0 y B ret h0 ws h pc L (.int j :: .ref a :: S) ce sl sf) (pc' : Nat) {cl : Cell} {ty : FieldType} {v : Value} (A : Arr Z h a cl ty) (hty : ty.isReference = true) (hin : ¬ (j < 0 ∨ cl.slots.size ≤ j.toNatClampNeg)) (hv : cl.slots[j.toNatClampNeg]? = some v) (dd : decode B pc = .ok (.aaload, 1)) (hp : pc + 1 = pc' := by rfl) : Here k R Z EL n0 y B ret h0 ws h pc' L (v :: S) ce sl sf := by
  subst hp
  exact H.goT rfl fun p l e s m args below meth c T locs ce sl X e1 hZ hown hx hB hl hs => ⟨T, X, e1, fun t q => X.aaload hx (by rw [e1]; exact A.1) (State.isArrayOf_alike hZ.alike A.2.1) hty A.2.2 hin hv (g := mkF m pc L (.int j :: .ref a :: S)) rfl rfl (Jvm.hb hB dd) t q⟩
theorem Here.initO (H : Here k R Z EL n0 y B ret h0 ws h pc L (.ref a :: S) ce sl sf) (pc' : Nat) {index : Nat} (w1 : (Jvm.Cond.methodLink y.cls index Lib.objectInit).before a0 Z = true) (w2 : (Jvm.Cond.instanceMethod Lib.objectInit).before a0 Z = true) (w3 : (Jvm.Cond.code Lib.objectInit ⟨#[0xb1]⟩ 1 none).before a0 Z = true) (dd : decode B pc = .ok (.invokespecial index, 3)) (hf : 1 ≤ R.frames) {W : Nat} (hW : (S.map fun v => v.category).sum ≤ W) (hl : W + 12 ≤ R.locals) (hp : pc + 3 = pc' := by rfl) : Here k R Z EL n0 y B ret h0 ws h pc' L S ce sl sf := by
  subst hp
  exact H.goT rfl fun p l e s m args below meth c T locs ce sl X e1 hZ hown hx hB hl' hs => RoadKit.initO X hx hZ hown w1 w2 w3 e1 (g := mkF m pc L (.ref a :: S)) rfl hl' rfl (Jvm.hb hB dd) hf (W := W) (by show 2 * 0 + (S.map fun v => v.category).sum ≤ W; omega) hl
theorem Here.newO (H : Here k R Z EL n0 y B ret h0 ws h pc L S ce sl sf) (pc' : Nat) {index n : Nat} {C : String} (w : (Jvm.Cond.classLink y.cls index C).before a0 Z = true) (wi : (Jvm.Cond.instantiable C n).before a0 Z = true) (wz : (Jvm.Cond.initialized C).before a0 Z = true) (dd : decode B pc = .ok (.new index, 3)) (hc : ce + 1 ≤ R.cells) (hl : sl + n ≤ R.slots) (hp : pc + 3 = pc' := by rfl) :
    ∃ (b : Addr) (h' : Heap), b = h.size ∧ Ext h h' ∧ Exa Z h' b C ∧ (∀ {O nm d : String} {ty : FieldType}, Laid Z a0 C O nm d → parseFieldDescriptor d = some ty → Fld Z h' b O nm d (defaultValue ty)) ∧ Here k R Z EL n0 y B ret h0 ws h' pc' L (.ref b :: S) (ce + 1) (sl + n) (b :: sf) := by
  subst hp
  obtain ⟨p, l, e, s, m, args, below, meth, c, start⟩ := k
  obtain ⟨T, vm0, k0, locs, X, e1, hS, hk, hZ, hown, hC, hN, hF, ⟨hx, hB, hr⟩, st⟩ := H
  obtain ⟨T', h', X', e2, E, A, D, -, st'⟩ := RoadKit.newO X hx (s := s.setVm vm0) hZ hown w wi wz e1 (g := mkF m pc L S) rfl (Jvm.hb hB dd) hc hl
  obtain ⟨u1, u2, u3⟩ := updN hC hk hF E A.lt
  exact ⟨h.size, h', rfl, E, A, D, T', vm0, k0, locs, X', e2, hS, u2, hZ, hown, u1, hN, u3, ⟨hx, hB, hr⟩, fun t q => st t (st' t q)⟩
theorem Here.newP (H : Here k R Z EL n0 y B ret h0 ws h pc L (.int n :: S) ce sl sf) (pc' : Nat) {aty : ArrayType} {ty : FieldType} (hty : newarray.typeOf aty = ty) (w : (Jvm.Cond.arrayClass ty).before a0 Z = true) (dd : decode B pc = .ok (.newarray aty, 2)) (hn : ¬ n < 0) {cap : Nat} (hcap : n.toNatClampNeg ≤ cap) (hb : cap * 8 ≤ 536870912) (hc : ce + 1 ≤ R.cells) (hl : sl + cap ≤ R.slots) (hp : pc + 2 = pc' := by rfl) :
    ∃ (b : Addr) (h' : Heap) (kc : ClassId), b = h.size ∧ Ext h h' ∧ Arv Z h' b kc ty n (List.replicate cap (defaultValue ty)) (defaultValue ty) ∧ Here k R Z EL n0 y B ret h0 ws h' pc' L (.ref b :: S) (ce + 1) (sl + cap) (b :: sf) := by
  subst hp hty
  obtain ⟨p, l, e, s, m, args, below, meth, c, start⟩ := k
  obtain ⟨T, vm0, k0, locs, X, e1, hS, hk, hZ, hown, hC, hN, hF, ⟨hx, hB, hr⟩, st⟩ := H
  obtain ⟨T', h', kc, X', e2, E, A, st'⟩ := RoadKit.newP X hx (s := s.setVm vm0) hZ w e1 (g := mkF m pc L (.int n :: S)) rfl (Jvm.hb hB dd) rfl hn hcap hb hc hl
  have V := (Arv.new A hn).pad (pad_rep [] (defaultValue (newarray.typeOf aty)) cap)
  obtain ⟨u1, u2, u3⟩ := updN hC hk hF E A.lt
  exact ⟨h.size, h', kc, rfl, E, V, T', vm0, k0, locs, X', e2, hS, u2, hZ, hown, u1, hN, u3, ⟨hx, hB, hr⟩, fun t q => st t (st' t q)⟩
theorem Here.putF (H : Here k R Z EL n0 y B ret h0 ws h pc L (v :: .ref a :: S) ce sl sf) (pc' : Nat) {index kk : Nat} {O n d C : String} {ty : FieldType} {old : Value} (w : (Jvm.Cond.fieldLink y.cls index O n d).before a0 Z = true) (F : Fld Z h a O n d old) (E : Exa Z h a C) (Lw : (Jvm.Cond.lays C O n d).before a0 Z = true ∨ ((Jvm.Cond.laysFinal C O n d).before a0 Z = true ∧ y.cls = O ∧ y.name = "<init>")) (wi : (Jvm.Cond.instantiable C kk).before a0 Z = true)
    (hty : parseFieldDescriptor d = some ty) (hn : narrow ty v = v) (hf : fits ty v = true) (dd : decode B pc = .ok (.putfield index, 3)) (ha : a ∈ sf) (hp : pc + 3 = pc' := by rfl) :
    ∃ h' : Heap, Wr h h' a (RoadKit.slotOf Z O n d) v ∧ Keep h h' [a] ∧ Exa Z h' a C ∧ Fld Z h' a O n d v ∧ Here k R Z EL n0 y B ret h0 ws h' pc' L S ce sl sf := by
  subst hp
  obtain ⟨p, l, e, s, m, args, below, meth, c, start⟩ := k
  obtain ⟨T, vm0, k0, locs, X, e1, hS, hk, hZ, hown, hC, hN, hF, ⟨hx, hB, hsz, hr, hnm, hrest⟩, st⟩ := H
  obtain ⟨T', h', X', e2, W', st'⟩ := RoadKit.putF X hx (s := s.setVm vm0) hZ hown (host := "") (Or.inl w) Via.refl e1 F E (Lw.imp id fun q => ⟨q.1, q.2.1, hnm.trans q.2.2⟩) wi hty hn hf (g := mkF m pc L (v :: .ref a :: S)) rfl rfl (Jvm.hb hB dd)
  obtain ⟨u1, u2, u3⟩ := upd hC hk hF (Keep.of_wr W') (allS ha all0)
  exact ⟨h', W', Keep.of_wr W', E.wr W', F.same W', T', vm0, k0, _, X', e2, hS, u2, hZ, hown, u1, Fr.snoc X' hN (hF.2.2.2 a ha).2.2.1, u3, ⟨hx, hB, hsz, hr, hnm, hrest⟩, fun t q => st t (st' t q)⟩
theorem Here.stC (H : Here k R Z EL n0 y B ret h0 ws h pc L (.int x :: .int j :: .ref a :: S) ce sl sf) (pc' : Nat) {kc : ClassId} {z : Int32} {vs : List Value} {dv : Value} (V : Arv Z h a kc .char z vs dv) (i : Nat) (hj : ¬ j < 0 ∧ j < z) (hji : j.toNatClampNeg = i) (hi : i < vs.length) (hx' : nar .char x = x) (dd : decode B pc = .ok (.castore, 1)) (ha : a ∈ sf) (hp : pc + 1 = pc' := by rfl) :
    ∃ h' : Heap, Keep h h' [a] ∧ Arv Z h' a kc .char z (vs.set i (.int x)) dv ∧ Here k R Z EL n0 y B ret h0 ws h' pc' L S ce sl sf := by
  subst hp
  obtain ⟨p, l, e, s, m, args, below, meth, c, start⟩ := k
  obtain ⟨T, vm0, k0, locs, X, e1, hS, hk, hZ, hown, hC, hN, hF, ⟨hx, hB, hr⟩, st⟩ := H
  obtain ⟨cl, A, q1, q2, q3, q4, q5⟩ := V
  obtain ⟨T', h', X', e2, W', st'⟩ := RoadKit.stC X hx (s := s.setVm vm0) hZ e1 A (j := j) (inb_of q2 hj) (g := mkF m pc L (.int x :: .int j :: .ref a :: S)) rfl rfl (Jvm.hb hB dd)
  have V' := Arv.set A q1 q2 q3 q4 q5 (fits_nar_char x) W' i hji hi
  rw [hx'] at V'
  obtain ⟨u1, u2, u3⟩ := upd hC hk hF (Keep.of_wr W') (allS ha all0)
  exact ⟨h', Keep.of_wr W', V', T', vm0, k0, _, X', e2, hS, u2, hZ, hown, u1, Fr.snoc X' hN (hF.2.2.2 a ha).2.2.1, u3, ⟨hx, hB, hr⟩, fun t q => st t (st' t q)⟩
theorem Here.stB (H : Here k R Z EL n0 y B ret h0 ws h pc L (.int x :: .int j :: .ref a :: S) ce sl sf) (pc' : Nat) {kc : ClassId} {z : Int32} {vs : List Value} {dv : Value} (V : Arv Z h a kc .byte z vs dv) (i : Nat) (hj : ¬ j < 0 ∧ j < z) (hji : j.toNatClampNeg = i) (hi : i < vs.length) (dd : decode B pc = .ok (.bastore, 1)) (ha : a ∈ sf) (hp : pc + 1 = pc' := by rfl) :
    ∃ h' : Heap, Keep h h' [a] ∧ Arv Z h' a kc .byte z (vs.set i (.int x.toInt8.toInt32)) dv ∧ Here k R Z EL n0 y B ret h0 ws h' pc' L S ce sl sf := by
  subst hp
  obtain ⟨p, l, e, s, m, args, below, meth, c, start⟩ := k
  obtain ⟨T, vm0, k0, locs, X, e1, hS, hk, hZ, hown, hC, hN, hF, ⟨hx, hB, hr⟩, st⟩ := H
  obtain ⟨cl, A, q1, q2, q3, q4, q5⟩ := V
  obtain ⟨T', h', X', e2, W', st'⟩ := RoadKit.stB X hx (s := s.setVm vm0) hZ e1 A (j := j) (inb_of q2 hj) (g := mkF m pc L (.int x :: .int j :: .ref a :: S)) rfl rfl (Jvm.hb hB dd)
  have V' := Arv.set A q1 q2 q3 q4 q5 (fits_nar_byte x) W' i hji hi
  obtain ⟨u1, u2, u3⟩ := upd hC hk hF (Keep.of_wr W') (allS ha all0)
  exact ⟨h', Keep.of_wr W', V', T', vm0, k0, _, X', e2, hS, u2, hZ, hown, u1, Fr.snoc X' hN (hF.2.2.2 a ha).2.2.1, u3, ⟨hx, hB, hr⟩, fun t q => st t (st' t q)⟩
theorem Here.cloneA (H : Here k R Z EL n0 y B ret h0 ws h pc L (.ref a :: S) ce sl sf) (pc' : Nat) {index : Nat} {ad : String} (w1 : (Jvm.Cond.methodLink y.cls index ⟨ad, "clone", "()Ljava/lang/Object;"⟩).before a0 Z = true) (w2 : (Jvm.Cond.sameMethod ad "java/lang/Object" "clone" "()Ljava/lang/Object;").before a0 Z = true) (w3 : (Jvm.Cond.native ⟨"java/lang/Object", "clone", "()Ljava/lang/Object;"⟩).before a0 Z = true)
    (w4 : (Jvm.Cond.instanceMethod ⟨"java/lang/Object", "clone", "()Ljava/lang/Object;"⟩).before a0 Z = true) (w5 : (Jvm.Cond.selects ad ⟨ad, "clone", "()Ljava/lang/Object;"⟩ ⟨"java/lang/Object", "clone", "()Ljava/lang/Object;"⟩).before a0 Z = true) (w6 : (Jvm.Cond.castable ad "java/lang/Cloneable").before a0 Z = true)
    {cl : Cell} {ty : FieldType} (A : Arr Z h a cl ty) (E : Exa Z h a ad) (F : FitC Z cl) (dd : decode B pc = .ok (.invokevirtual index, 3)) (hf : 1 ≤ R.frames) {W cap : Nat} (hW : (S.map fun v => v.category).sum ≤ W) (hl : W + 14 ≤ R.locals) (hcap : cl.slots.size ≤ cap) (hc : ce + 1 ≤ R.cells) (hs : sl + cap ≤ R.slots) (hp : pc + 3 = pc' := by rfl) :
    ∃ (b : Addr) (h' : Heap), b = h.size ∧ Ext h h' ∧ Arr Z h' b (cloneOf cl) ty ∧ Exa Z h' b ad ∧ Here k R Z EL n0 y B ret h0 ws h' pc' L (.ref b :: S) (ce + 1) (sl + cap) (b :: sf) := by
  subst hp
  obtain ⟨p, l, e, s, m, args, below, meth, c, start⟩ := k
  obtain ⟨T, vm0, k0, locs, X, e1, hS, hk, hZ, hown, hC, hN, hF, ⟨hx, hB, hsz, hr⟩, st⟩ := H
  obtain ⟨T', h', X', e2, E', A', D', st'⟩ := RoadKit.cloneA X hx (s := s.setVm vm0) hZ hown w1 w2 w3 w4 w5 w6 e1 A E F (g := mkF m pc L (.ref a :: S)) rfl hsz rfl (Jvm.hb hB dd) hf (W := W) (by show 2 * 0 + (S.map fun v => v.category).sum ≤ W; omega) hl hcap hc hs
  obtain ⟨u1, u2, u3⟩ := updN hC hk hF E' A'.lt
  exact ⟨h.size, h', rfl, E', A', D', T', vm0, k0, locs, X', e2, hS, u2, hZ, hown, u1, hN, u3, ⟨hx, hB, hsz, hr⟩, fun t q => st t (st' t q)⟩
/-- ldc of a String constant that is only handed on -/
theorem Here.ldcO (H : Here k R Z EL n0 y B ret h0 ws h pc L S ce sl sf) (pc' : Nat) {index : Nat} {text : String} (w : (Jvm.Cond.stringLink y.cls index text).before a0 Z = true) (wS : ∀ a ∈ Bundle.stringAtoms, a.before a0 Z = true) (hEL : EW Z a0 EL) (dd : decode B pc = .ok (.ldc index, 2)) {n : Nat} (hn : 4 * text.toList.length ≤ n) (hbig : n ≤ 536870912) (hc : ce + 2 ≤ R.cells) (hl : sl + (n + 4) ≤ R.slots) (hp : pc + 2 = pc' := by rfl) :
    ∃ (a : Addr) (h' : Heap), Ext h h' ∧ Here k R Z EL n0 y B ret h0 ws h' pc' L (.ref a :: S) (ce + 2) (sl + (n + 4)) sf := by
  subst hp
  obtain ⟨p, l, e, s, m, args, below, meth, c, start⟩ := k
  obtain ⟨T, vm0, k0, locs, X, e1, hS, hk, hZ, hown, hC, hN, hF, ⟨hx, hB, hr⟩, st⟩ := H
  obtain ⟨a, T', h', k1, X', e2, E, hS', hk', hZ', hown', hCr, -, st'⟩ := ldcOH X hx hZ hown w wS e1 hS hk hEL hC.1 (g := mkF m pc L S) rfl (Jvm.hb hB dd) hn hbig hc hl
  obtain ⟨u1, u3⟩ := updC hC hF (extKeep E) all0 hCr
  exact ⟨a, h', E, T', T'.vm, k1, locs, X', e2, hS', hk', hZ', hown', u1, hN, u3, ⟨hx, hB, hr⟩, fun t q => st t (st' t q)⟩
/-- ldc of a String constant that is read -/
theorem Here.ldcR (H : Here k R Z EL n0 y B ret h0 ws h pc L S ce sl sf) (pc' : Nat) {index : Nat} {text : String} (w : (Jvm.Cond.stringLink y.cls index text).before a0 Z = true) (wS : ∀ a ∈ Bundle.stringAtoms, a.before a0 Z = true) (hEL : EW Z a0 EL) (hmem : (y.cls, index) ∈ EL) {vs : List Value} {z : Int32} (ht : (∀ c ∈ text.toList, c.toNat < 256) ∧ text.toList.map (fun c => Value.int (Jvm.Lit.byteI c.toNat.toUInt16)) = vs) (hz : ¬ z < 0) (hlz : z.toNatClampNeg = vs.length) (dd : decode B pc = .ok (.ldc index, 2)) {n : Nat} (hn : 4 * text.toList.length ≤ n) (hbig : n ≤ 536870912) (hc : ce + 2 ≤ R.cells) (hl : sl + (n + 4) ≤ R.slots) (hp : pc + 2 = pc' := by rfl) :
    ∃ (a : Addr) (h' : Heap) (b : Addr) (kc : ClassId), Ext h h' ∧ Exa Z h' a "java/lang/String" ∧ Fld Z h' a "java/lang/String" "coder" "B" (.int 0) ∧ Fld Z h' a "java/lang/String" "value" "[B" (.ref b) ∧ Arv Z h' b kc .byte z vs (.int 0) ∧ (∀ x ∈ sf, x ≠ a ∧ x ≠ b) ∧ Here k R Z EL n0 y B ret h0 ws h' pc' L (.ref a :: S) (ce + 2) (sl + (n + 4)) sf := by
  subst hp
  obtain ⟨p, l, e, s, m, args, below, meth, c, start⟩ := k
  obtain ⟨T, vm0, k0, locs, X, e1, hS, hk, hZ, hown, hC, hN, hF, ⟨hx, hB, hr⟩, st⟩ := H
  obtain ⟨a, T', h', k1, b, kc, X', e2, E, hS', hk', hZ', hown', x1, x2, x3, x4, -, -, hCr, -, hsafe, st'⟩ := ldcCH X hx hZ hown w wS e1 hS hk hEL hmem hC.1 ht hz hlz (g := mkF m pc L S) rfl (Jvm.hb hB dd) hn hbig hc hl
  obtain ⟨u1, u3⟩ := updC hC hF (extKeep E) all0 hCr
  exact ⟨a, h', b, kc, E, x1, x2, x3, x4, fun x q => hsafe x (u3.2.2.2 x q).1, T', T'.vm, k1, locs, X', e2, hS', hk', hZ', hown', u1, hN, u3, ⟨hx, hB, hr⟩, fun t q => st t (st' t q)⟩
end HeapSteps
section Calls
variable {k : Ctx} {R : Room} {Z : State} {EL : List (String × Nat)} {n0 : Nat} {y z : MethodName} {B bytes : ByteArray} {ret rt : Option FieldType} {h0 h : Heap} {ws ws' sf : List Addr} {pc index mx W kc ks : Nat} {L : Array Slot} {S argsL rest : List Value} {ce sl : Nat} {a0 : Array Value} {Q : Option Value → Heap → Prop}
theorem Here.callS (H : Here k R Z EL n0 y B ret h0 ws h pc L S ce sl sf) (pc' : Nat) (w1 : (Jvm.Cond.methodLink y.cls index z).before a0 Z = true) (w2 : (Jvm.Cond.static z).before a0 Z = true) (w3 : (Jvm.Cond.initialized z.cls).before a0 Z = true) (w4 : (Jvm.Cond.code z bytes mx rt).before a0 Z = true) (hy : z.cls ≠ "java/lang/invoke/MethodHandle" ∧ z.cls ≠ "java/lang/invoke/VarHandle")
    (P : Paid k R Z EL n0 z W argsL.toArray h ws' kc ks Q) (hlen : ∀ sig, parseMethodDescriptor z.desc = some sig → argsL.length = sig.parameters.length) (hS : S = argsL.reverse ++ rest) (hW : (rest.map fun v => v.category).sum ≤ W) (dd : decode B pc = .ok (.invokestatic index, 3)) (hc : ce + kc ≤ R.cells) (hl : sl + ks ≤ R.slots) (hws : ∀ x ∈ ws', x ∈ sf) (hp : pc + 3 = pc' := by rfl) :
    ∃ (v : Option Value) (h' : Heap), Q v h' ∧ Keep h h' ws' ∧ Here k R Z EL n0 y B ret h0 ws h' pc' L (v.toList ++ rest) (ce + kc) (sl + ks) sf := by
  subst hp hS
  obtain ⟨p, l, e, s, m, args, below, meth, c, start⟩ := k
  obtain ⟨T, vm0, k0, locs, X, e1, hS, hk, hZ, hown, hC, hN, hF, ⟨hx, hB, hsz, hr⟩, st⟩ := H
  obtain ⟨v, vm1, ⟨U, lo, c1, s1⟩, -, X', hS', hg, ⟨Lx, ⟨hQ, hK, hFr⟩, l1, c1e, s1e, hCr⟩, st'⟩ := callSS X hx (own := y.cls) hown (mvT (s := s.setVm vm0) hZ w1) (mvT (s := s.setVm vm0) hZ w2) (mvT (s := s.setVm vm0) hZ w3) (mvT (s := s.setVm vm0) hZ w4) hy (P vm0 hZ hC.1 fun x q => ⟨(hF.2.2.2 x (hws x q)).1, (hF.2.2.2 x (hws x q)).2.1⟩)
    (g := mkF m pc L (argsL.reverse ++ rest)) rfl hsz hlen rfl (by show 2 * 0 + (rest.map fun v => v.category).sum ≤ W; omega) (Jvm.hb hB dd) (fun _ _ => ⟨rfl, e1, hc, hl⟩)
  dsimp only [Pt.U, Pt.locs, Pt.cells, Pt.slots] at X' hS' hg hQ hK l1 c1e s1e hCr st'
  subst l1 c1e s1e
  obtain ⟨u1, u3⟩ := updC hC hF hK hws hCr
  exact ⟨v, U.heap, hQ, hK, U, U.vm, U.heap.size, _, X', rfl, hS.trans hS' (Nat.le_trans hk hK.1), Nat.le_refl _, State.Warmed39.trans (t := s.setVm vm0) hZ hS'.1, (hS'.1.alike.findClass _ _).trans hown, u1, Fr.app hN hFr, u3, ⟨hx, hB, hsz, hr⟩, fun t q => st t (st'.trans q)⟩
theorem Here.callI (H : Here k R Z EL n0 y B ret h0 ws h pc L S ce sl sf) (pc' : Nat) (hy1 : z.name = "<init>") (w1 : (Jvm.Cond.methodLink y.cls index z).before a0 Z = true) (w2 : (Jvm.Cond.instanceMethod z).before a0 Z = true) (w4 : (Jvm.Cond.code z bytes mx none).before a0 Z = true) (hy : z.cls ≠ "java/lang/invoke/MethodHandle" ∧ z.cls ≠ "java/lang/invoke/VarHandle") {a : Addr}
    (P : Paid k R Z EL n0 z W (.ref a :: argsL).toArray h ws' kc ks Q) (hlen : ∀ sig, parseMethodDescriptor z.desc = some sig → argsL.length = sig.parameters.length) (hS : S = argsL.reverse ++ .ref a :: rest) (hW : (rest.map fun v => v.category).sum ≤ W) (dd : decode B pc = .ok (.invokespecial index, 3)) (hc : ce + kc ≤ R.cells) (hl : sl + ks ≤ R.slots) (hws : ∀ x ∈ ws', x ∈ sf) (hp : pc + 3 = pc' := by rfl) :
    ∃ (v : Option Value) (h' : Heap), Q v h' ∧ Keep h h' ws' ∧ Here k R Z EL n0 y B ret h0 ws h' pc' L (v.toList ++ rest) (ce + kc) (sl + ks) sf := by
  subst hp hS
  obtain ⟨p, l, e, s, m, args, below, meth, c, start⟩ := k
  obtain ⟨T, vm0, k0, locs, X, e1, hS, hk, hZ, hown, hC, hN, hF, ⟨hx, hB, hsz, hr⟩, st⟩ := H
  obtain ⟨v, vm1, ⟨U, lo, c1, s1⟩, -, X', hS', hg, ⟨Lx, ⟨hQ, hK, hFr⟩, l1, c1e, s1e, hCr⟩, st'⟩ := X.specialBackS hx (own := y.cls) hy1 hown (mvT (s := s.setVm vm0) hZ w1) (mvT (s := s.setVm vm0) hZ w2) (mvT (s := s.setVm vm0) hZ w4) hy (P vm0 hZ hC.1 fun x q => ⟨(hF.2.2.2 x (hws x q)).1, (hF.2.2.2 x (hws x q)).2.1⟩)
    (g := mkF m pc L (argsL.reverse ++ .ref a :: rest)) rfl hsz (Steps.refl _) (a := a) hlen rfl (by show 2 * 0 + (rest.map fun v => v.category).sum ≤ W; omega) (Jvm.hb hB dd) (fun _ _ => ⟨rfl, e1, hc, hl⟩)
  dsimp only [Pt.U, Pt.locs, Pt.cells, Pt.slots] at X' hS' hg hQ hK l1 c1e s1e hCr st'
  subst l1 c1e s1e
  obtain ⟨u1, u3⟩ := updC hC hF hK hws hCr
  exact ⟨v, U.heap, hQ, hK, U, U.vm, U.heap.size, _, X', rfl, hS.trans hS' (Nat.le_trans hk hK.1), Nat.le_refl _, State.Warmed39.trans (t := s.setVm vm0) hZ hS'.1, (hS'.1.alike.findClass _ _).trans hown, u1, Fr.app hN hFr, u3, ⟨hx, hB, hsz, hr⟩, fun t q => st t (st'.trans q)⟩
theorem Here.callV (H : Here k R Z EL n0 y B ret h0 ws h pc L S ce sl sf) (pc' : Nat) {C : String} {z1 : MethodName} (w1 : (Jvm.Cond.methodLink y.cls index z1).before a0 Z = true) (w2 : (Jvm.Cond.declares z1).before a0 Z = true) (w3 : (Jvm.Cond.selects C z1 z).before a0 Z = true) (w4 : (Jvm.Cond.instanceMethod z).before a0 Z = true) (hy : z1.cls ≠ "java/lang/invoke/MethodHandle" ∧ z1.cls ≠ "java/lang/invoke/VarHandle") {a : Addr} (E : Exa Z h a C)
    (P : Paid k R Z EL n0 z W (.ref a :: argsL).toArray h ws' kc ks Q) (hlen : ∀ sig, parseMethodDescriptor z1.desc = some sig → argsL.length = sig.parameters.length) (hS : S = argsL.reverse ++ .ref a :: rest) (hW : (rest.map fun v => v.category).sum ≤ W) (dd : decode B pc = .ok (.invokevirtual index, 3)) (hc : ce + kc ≤ R.cells) (hl : sl + ks ≤ R.slots) (hws : ∀ x ∈ ws', x ∈ sf) (hp : pc + 3 = pc' := by rfl) (hz1 : z1 = z := by rfl) :
    ∃ (v : Option Value) (h' : Heap), Q v h' ∧ Keep h h' ws' ∧ Here k R Z EL n0 y B ret h0 ws h' pc' L (v.toList ++ rest) (ce + kc) (sl + ks) sf := by
  subst hz1
  subst hp hS
  obtain ⟨p, l, e, s, m, args, below, meth, c, start⟩ := k
  obtain ⟨T, vm0, k0, locs, X, e1, hS, hk, hZ, hown, hC, hN, hF, ⟨hx, hB, hsz, hr⟩, st⟩ := H
  obtain ⟨cB, kB, i1, i2, i3⟩ := isOf (s := s.setVm vm0) hZ e1 E
  obtain ⟨v, vm1, ⟨U, lo, c1, s1⟩, -, X', hS', hg, ⟨Lx, ⟨hQ, hK, hFr⟩, l1, c1e, s1e, hCr⟩, st'⟩ := X.virtualBackS hx (own := y.cls) hown (mvT (s := s.setVm vm0) hZ w1) (mvT (s := s.setVm vm0) hZ w2) (notFace_of_selects (args := args) (mvT (s := s.setVm vm0) hZ w3)) (mvT (s := s.setVm vm0) hZ w3) (mvT (s := s.setVm vm0) hZ w4) hy (P vm0 hZ hC.1 fun x q => ⟨(hF.2.2.2 x (hws x q)).1, (hF.2.2.2 x (hws x q)).2.1⟩) i1 i3
    (g := mkF m pc L (argsL.reverse ++ .ref a :: rest)) rfl hsz (Steps.refl _) hlen rfl (by show 2 * 0 + (rest.map fun v => v.category).sum ≤ W; omega) (Jvm.hb hB dd) (fun _ _ => ⟨rfl, e1, hc, hl⟩)
  dsimp only [Pt.U, Pt.locs, Pt.cells, Pt.slots] at X' hS' hg hQ hK l1 c1e s1e hCr st'
  subst l1 c1e s1e
  obtain ⟨u1, u3⟩ := updC hC hF hK hws hCr
  exact ⟨v, U.heap, hQ, hK, U, U.vm, U.heap.size, _, X', rfl, hS.trans hS' (Nat.le_trans hk hK.1), Nat.le_refl _, State.Warmed39.trans (t := s.setVm vm0) hZ hS'.1, (hS'.1.alike.findClass _ _).trans hown, u1, Fr.app hN hFr, u3, ⟨hx, hB, hsz, hr⟩, fun t q => st t (st'.trans q)⟩
end Calls
section NotIns
variable {k : Ctx} {R : Room} {Z : State} {EL : List (String × Nat)} {n0 : Nat} {y : MethodName} {B : ByteArray} {ret : Option FieldType} {h0 h : Heap} {ws sf : List Addr} {pc : Nat} {L : Array Slot} {S : List Value} {ce sl : Nat} {a0 : Array Value} {C K O Sp : String} {n : Nat}
theorem ns_root (w : (Jvm.Cond.noSuperclass O).before a0 Z = true) (wi : (Jvm.Cond.instantiable K n).before a0 Z = true) (hn : O ≠ K) : NS Z O K := by
  obtain ⟨c, k, h1, h2, h3, -, -⟩ := Cond.noSuperclass_spec w
  obtain ⟨t, kt, g1, -⟩ := Cond.instantiable_spec wi
  have ne := ids_ne h1 g1 hn
  refine ⟨c, t, h1, g1, fun fuel => ?_⟩
  cases fuel with
  | zero => rfl
  | succ f => simp [Vm.isSubclassAux, ne, h2, h3]
def NoIns (Z : State) (C K : String) : Prop := ∃ c t, Z.vm.findClass C = some c ∧ Z.vm.findClass K = some t ∧ Z.vm.assignable c t = false
theorem ns_no (w : (Jvm.Cond.superclass C Sp).before a0 Z = true) (wi : (Jvm.Cond.instantiable K n).before a0 Z = true) (nn : NS Z C K) (hn : C ≠ K) : NoIns Z C K := by
  obtain ⟨c, t, h0, g0, n3⟩ := nn
  obtain ⟨p, k, kp, h1, h2, h3, h4, h5, -, h7⟩ := Cond.superclass_spec h0 w
  obtain ⟨t', k', g1, g2, g5, g7, -⟩ := Cond.instantiable_spec wi
  cases g0.symm.trans g1
  have g8 : k'.isInterface = false := by cases hq : k'.isInterface <;> simp [hq] at g7 ⊢
  have ne := ids_ne h0 g0 hn
  refine ⟨c, t, h0, g0, ?_⟩
  show Z.vm.assignableAux (255 + 1) c t = false
  simp [Vm.assignableAux, ne, h2, g2, h5, g5, g8, Vm.isSubclass, n3]
theorem Here.instNo (H : Here k R Z EL n0 y B ret h0 ws h pc L (.ref a :: S) ce sl sf) (pc' : Nat) {index : Nat} (w : (Jvm.Cond.classLink y.cls index K).before a0 Z = true) (E : Exa Z h a C) (F : NoIns Z C K) (dd : decode B pc = .ok (.instanceof index, 3)) (hp : pc + 3 = pc' := by rfl) : Here k R Z EL n0 y B ret h0 ws h pc' L (.int 0 :: S) ce sl sf := by
  subst hp
  exact H.goT rfl fun p l e s m args below meth c T locs ce sl X e1 hZ hown hx hB hl hs => RoadKit.instNo X hx hZ hown w e1 E F (g := mkF m pc L (.ref a :: S)) rfl rfl (Jvm.hb hB dd)
theorem Here.instNull (H : Here k R Z EL n0 y B ret h0 ws h pc L (.null :: S) ce sl sf) (pc' : Nat) {index : Nat} (dd : decode B pc = .ok (.instanceof index, 3)) (hp : pc + 3 = pc' := by rfl) : Here k R Z EL n0 y B ret h0 ws h pc' L (.int 0 :: S) ce sl sf := by
  subst hp
  exact H.goT rfl fun p l e s m args below meth c T locs ce sl X e1 hZ hown hx hB hl hs => ⟨T, X, e1, X.instanceofNull hx (g := mkF m pc L (.null :: S)) rfl rfl (Jvm.hb hB dd)⟩
end NotIns
section More
variable {k : Ctx} {R : Room} {Z : State} {EL : List (String × Nat)} {n0 : Nat} {z : MethodName} {h h' : Heap} {ws' ws : List Addr} {W kc ks kc' ks' : Nat} {as' : Array Value} {Q Q' : Option Value → Heap → Prop}
theorem Paid.more (P : Paid k R Z EL n0 z W as' h ws' kc ks Q) (hc : kc ≤ kc') (hs : ks ≤ ks') : Paid k R Z EL n0 z W as' h ws' kc' ks' Q := by
  obtain ⟨p, l, e, s, m, args, below, meth, c, start⟩ := k
  intro vm0 hZ H hsf m meth c A g ig mk a X hg hsize hdg hW hn hp
  obtain ⟨v, D, X', hS, hgr, ⟨L, q1, q2, q3, q4, q5⟩, st⟩ := P vm0 hZ H hsf m meth c A g ig mk a X hg hsize hdg hW hn ⟨hp.1, hp.2.1, by have := hp.2.2.1; omega, by have := hp.2.2.2; omega⟩
  exact ⟨v, ⟨D.U, D.locs, A.cells + kc', A.slots + ks'⟩, X'.more (by show D.cells ≤ A.cells + kc'; rw [q3]; omega) (by show D.slots ≤ A.slots + ks'; rw [q4]; omega), hS, hgr, ⟨L, q1, q2, rfl, rfl, q5⟩, st⟩
theorem Paid.mono (P : Paid k R Z EL n0 z W as' h ws' kc ks Q) (hq : ∀ v h', Q v h' → Q' v h') : Paid k R Z EL n0 z W as' h ws' kc ks Q' := by
  obtain ⟨p, l, e, s, m, args, below, meth, c, start⟩ := k
  intro vm0 hZ H hsf m meth c A g ig mk a X hg hsize hdg hW hn hp
  obtain ⟨v, D, X', hS, hgr, ⟨L, q1, q2⟩, st⟩ := P vm0 hZ H hsf m meth c A g ig mk a X hg hsize hdg hW hn hp
  exact ⟨v, D, X', hS, hgr, ⟨L, ⟨hq _ _ q1.1, q1.2⟩, q2⟩, st⟩
theorem keepExt (K : Keep h h' []) : Ext h h' := ⟨K.1, fun a c q => K.2.1 a c q nin0⟩
theorem Ext.refl' (h : Heap) : Ext h h := ⟨Nat.le_refl _, fun _ _ q => q⟩
theorem Ext.trans' {h1 : Heap} (E : Ext h h1) (F : Ext h1 h') : Ext h h' := ⟨Nat.le_trans E.1 F.1, fun a c q => F.2 a c (E.2 a c q)⟩
/-- what stood in hA stands still: only later cells were written -/
theorem Ext.keep' {hA : Heap} (E : Ext hA h) (K : Keep h h' ws) (hw : ∀ x ∈ ws, hA.size ≤ x) : Ext hA h' := ⟨Nat.le_trans E.1 K.1, fun a c q => K.2.1 a c (E.2 a c q) fun hm => absurd (Array.getElem?_eq_some_iff.mp q).1 (Nat.not_lt.mpr (hw a hm))⟩
theorem staOld {C n d : String} {v : Value} (F : Sta Z Z.heap C n d v) (O : Old Z n0 h) : Sta Z h C n d v := F.ext O.2
theorem nar_char {x : Int32} (h0 : ¬ x < 0) (h1 : ¬ 65535 < x) : nar .char x = x := by
  obtain ⟨q1, q2, q3⟩ := c_i2c x
  have e : nar .char x = x.toUInt32.toUInt16.toUInt32.toInt32 := rfl
  rw [e]
  rw [Int32.lt_iff_toInt_lt] at h0 h1
  have e0 : (0 : Int32).toInt = 0 := rfl
  have e1 : (65535 : Int32).toInt = 65535 := rfl
  exact Int32.toInt_inj.mp (by omega)
end More
/-! a callee that hands out an array of its own which the caller may write: the contract says that no String constant of EL is booked there -/
section Fresh
variable {k : Ctx} {R rm : Room} {Z : State} {EL : List (String × Nat)} {n0 : Nat} {y z : MethodName} {B bytes : ByteArray} {ret rt : Option FieldType} {h0 h h' : Heap} {ws ws' sf : List Addr} {pc index W kc ks : Nat} {L : Array Slot} {S argsL rest : List Value} {ce sl mx : Nat} {a0 as' : Array Value} {Q : Option Value → Heap → Prop} {b : Addr} {w : Value}
def DoneF (k : Ctx) (R : Room) (Z : State) (EL : List (String × Nat)) (n0 : Nat) (h0 : Heap) (ws : List Addr) (b : Addr) (Q : Option Value → Heap → Prop) : Prop :=
  match k with
  | (p, l, e, s, m, args, below, meth, c, start) =>
    ∃ s₂ o, Steps p.tables e below start s₂ ∧ s₂.status = .running ∧ Ended s₂ below o ∧ ∃ v L, o = .returned v ∧ (Q v s₂.heap ∧ Keep h0 s₂.heap ws ∧ Fr n0 L) ∧ (CHr Z EL s.vm s.heap s₂.vm s₂.heap ∧ Safe Z EL s₂.vm s₂.heap b ∧ b < s₂.heap.size) ∧ ReturnedEndW s o s₂ L R.cells R.slots
def MetF (Z : State) (EL : List (String × Nat)) (n0 : Nat) (y : MethodName) (B : ByteArray) (mx : Nat) (ret : Option FieldType) (rm : Room) (as' : Array Value) (h : Heap) (ws : List Addr) (b : Addr) (Q : Option Value → Heap → Prop) : Prop :=
  ∀ (l : Launch) (wds : List Jvm.Cond), MetFree l y (head1 (Jvm.Cond.code y B mx ret :: wds) rm) (fun a U => a = as' ∧ Z.Warmed39 U.vm ∧ U.heap = h ∧ CHv Z EL U.vm h ∧ ∀ x ∈ ws, Safe Z EL U.vm h x) (fun _ _ _ _ _ => True)
    (fun _ U o U' => ∃ v L, o = .returned v ∧ (Q v U'.heap ∧ Keep h U'.heap ws ∧ Fr n0 L) ∧ (CHr Z EL U.vm U.heap U'.vm U'.heap ∧ Safe Z EL U'.vm U'.heap b ∧ b < U'.heap.size) ∧ ReturnedEndW U o U' L rm.cells rm.slots)
def PaidF (k : Ctx) (R : Room) (Z : State) (EL : List (String × Nat)) (n0 : Nat) (z : MethodName) (W : Nat) (as' : Array Value) (h : Heap) (ws : List Addr) (kc ks : Nat) (b : Addr) (Q : Option Value → Heap → Prop) : Prop :=
  match k with
  | (p, l, e, s, m, args, below, meth, c, start) =>
    ∀ vm0, Z.Warmed39 vm0 → CHv Z EL vm0 h → (∀ x ∈ ws, Safe Z EL vm0 h x ∧ x < h.size) →
      BackS l R p e below (s.setVm vm0) args z 3 W (fun A a => a = as' ∧ A.U.heap = h ∧ A.cells + kc ≤ R.cells ∧ A.slots + ks ≤ R.slots)
        (fun A _ v D => ∃ L, (Q v D.U.heap ∧ Keep h D.U.heap ws ∧ Fr n0 L) ∧ D.locs = A.locs ++ L ∧ D.cells = A.cells + kc ∧ D.slots = A.slots + ks ∧ CHr Z EL vm0 h D.U.vm D.U.heap ∧ Safe Z EL D.U.vm D.U.heap b ∧ b < D.U.heap.size)
theorem Here.retAF (H : Here k R Z EL n0 y B ret h0 ws h pc L [w] ce sl sf) {t : FieldType} (ht : ret = some t) (hi : t.isReference = true) (hw : w.isRef = true) (d : decode B pc = .ok (.areturn, 1)) (hc : ce ≤ R.cells) (hs : sl ≤ R.slots) (hb : b ∈ sf) (hQ : Q (some w) h) : DoneF k R Z EL n0 h0 ws b Q := by
  obtain ⟨p, l, e, s, m, args, below, meth, c, start⟩ := k
  obtain ⟨T, vm0, k0, locs, X, e1, hS, hk, hZ, hown, hC, hN, hF, ⟨hx, hB, hl, hr, hnm, hlk, a0, hE⟩, st⟩ := H
  obtain ⟨fs, g1, g2, g3, gE⟩ := X.leaveW hS (by rw [e1]; exact hk) (v := some w) (fun q => by rw [hr, ht] at q; cases q) hlk
  have hA : CHr Z EL vm0 h T.vm h := CHv.at X hZ hE hC.1
  obtain ⟨s1, s2, -⟩ := hF.2.2.2 b hb
  refine ⟨T.setFrames fs, _, st _ (X.areturnOut hx hw (hr.trans ht) hi (Jvm.hb hB d) g1), g2, g3, some w, locs, rfl, ⟨?_, ?_, hN⟩, ⟨?_, ?_, ?_⟩, ?_⟩
  · show Q (some w) T.heap
    rw [e1]; exact hQ
  · show Keep h0 T.heap ws
    rw [e1]; exact hF.2.1
  · show CHr Z EL s.vm s.heap T.vm T.heap
    rw [e1]; exact hC.trans hA
  · show Safe Z EL T.vm T.heap b
    rw [e1]; exact hA.safe s2 s1
  · show b < T.heap.size
    rw [e1]; exact s2
  · exact ⟨gE.1, gE.2.1, gE.2.2.1, gE.2.2.2.mono hc hs⟩
theorem MetF.of_walk {L0 : Array Slot} (pn : plainName y.cls = true) (hEL : EW Z a0 EL) (hO : Old Z n0 h) (hws : ∀ x ∈ ws, x < h.size ∧ n0 ≤ x) (ef : ∀ m, entryFrame m as' mx = mkF m 0 L0 []) (hL : L0.size = mx)
    (body : ∀ k : Ctx, Here k rm Z EL n0 y B ret h ws h 0 L0 [] 0 0 ws → DoneF k rm Z EL n0 h ws b Q) : MetF Z EL n0 y B mx ret rm as' h ws b Q := by
  intro l wds
  refine MetFree.of_bodySF (plainFor_of_name pn) hisR ?_
  intro p e s m args below meth c s₁ Bd hml0 hP hK
  obtain ⟨rfl, hZ, hh, hC, hsf⟩ := hP
  have X0 : Stand p l e rm s m args below meth c s₁ [] 0 0 := Stand.of_body Bd
  have e0 : s₁.heap = h := by rw [← hh, Bd.state]; rfl
  have H : Here (p, l, e, s, m, args, below, meth, c, s₁.setTop (entryFrame m args mx)) rm Z EL n0 y B ret h ws h 0 L0 [] 0 0 ws :=
    ⟨s₁, s.vm, 0, [], X0, e0, (State.WarmedH.refl s).since 0, Nat.zero_le _, hZ, findClass_of_methodNamed Bd.named, by rw [hh]; exact CHr.refl hC, Fr.nil n0, ⟨hh, Keep.refl _ _, hO, fun x q => ⟨hsf x q, (hws x q).1, (hws x q).2, Or.inl q⟩⟩,
      ⟨Bd.exec, Bd.bytes, hL.trans hml0.symm, Bd.returns, (name_of_methodNamed Bd.named Bd.method).1, BodyLoose.notSynchronized Bd, a0, hEL⟩, fun t q => castTop (ef m) q⟩
  exact body _ H
theorem PaidF.of_met (hM : MetF Z EL n0 z bytes mx rt rm as' h ws' b Q) (wc : (Jvm.Cond.code z bytes mx rt).before a0 Z = true) (wz : (Jvm.Cond.initialized z.cls).before a0 Z = true) (hEL : EW Z a0 EL) (hf : rm.frames + 1 ≤ R.frames) (hl : W + (mx + 11) + rm.locals ≤ R.locals) :
    PaidF k R Z EL n0 z W as' h ws' rm.cells rm.slots b Q := by
  obtain ⟨p, l, e, s, m, args, below, meth, c, start⟩ := k
  intro vm0 hZ H hsf
  exact BackS.of_freeW (bytes := bytes) (maxL := mx) (ret := rt) (E := fun _ first o t L kk n => kk = rm.cells ∧ n = rm.slots ∧ (∃ v, o = .returned v ∧ Q v t.heap ∧ Keep h t.heap ws' ∧ Fr n0 L) ∧ CHr Z EL first.vm first.heap t.vm t.heap ∧ Safe Z EL t.vm t.heap b ∧ b < t.heap.size) (hM l []) hf hl
    (fun m meth c A a Y hp => have hU : Z.Warmed39 A.U.vm := wtrans (s := s.setVm vm0) hZ Y.warmed
      ⟨by show (Jvm.Cond.and _ .tt).before a A.U = true; rw [Cond.before_and, mv hU wc]; rfl, mv hU wc, mv hU wz, hp.2.2.1, hp.2.2.2⟩)
    (fun m meth c A a g mk Y hp => ⟨hp.1, wtrans (s := s.setVm vm0) hZ Y.warmed, hp.2.1, (CHv.at Y hZ hEL H).1, fun x q => (CHv.at Y hZ hEL H).safe (hsf x q).2 (hsf x q).1⟩) (fun _ _ _ _ _ _ _ _ _ => trivial)
    (fun _ _ _ _ ⟨v, L, h1, h2, h3, h4⟩ => ⟨L, _, _, h4, rfl, rfl, ⟨v, h1, h2⟩, h3⟩)
    (fun m meth c A a g mk v t L kk n Y hp _ _ ⟨e1, e2, ⟨v', e3, e4⟩, e5, e6⟩ => by
      cases e3; subst e1 e2
      refine ⟨L, e4, rfl, rfl, rfl, (CHv.at Y hZ hEL H).trans ?_, e6⟩
      rw [← hp.2.1]; exact e5)
theorem Here.callSF (H : Here k R Z EL n0 y B ret h0 ws h pc L S ce sl sf) (pc' : Nat) (w1 : (Jvm.Cond.methodLink y.cls index z).before a0 Z = true) (w2 : (Jvm.Cond.static z).before a0 Z = true) (w3 : (Jvm.Cond.initialized z.cls).before a0 Z = true) (w4 : (Jvm.Cond.code z bytes mx rt).before a0 Z = true) (hy : z.cls ≠ "java/lang/invoke/MethodHandle" ∧ z.cls ≠ "java/lang/invoke/VarHandle")
    (P : PaidF k R Z EL n0 z W argsL.toArray h ws' kc ks b Q) (hb : h.size ≤ b) (hlen : ∀ sig, parseMethodDescriptor z.desc = some sig → argsL.length = sig.parameters.length) (hS : S = argsL.reverse ++ rest) (hW : (rest.map fun v => v.category).sum ≤ W) (dd : decode B pc = .ok (.invokestatic index, 3)) (hc : ce + kc ≤ R.cells) (hl : sl + ks ≤ R.slots) (hws : ∀ x ∈ ws', x ∈ sf) (hp : pc + 3 = pc' := by rfl) :
    ∃ (v : Option Value) (h' : Heap), Q v h' ∧ Keep h h' ws' ∧ Here k R Z EL n0 y B ret h0 ws h' pc' L (v.toList ++ rest) (ce + kc) (sl + ks) (b :: sf) := by
  subst hp hS
  obtain ⟨p, l, e, s, m, args, below, meth, c, start⟩ := k
  obtain ⟨T, vm0, k0, locs, X, e1, hS, hk, hZ, hown, hC, hN, hF, ⟨hx, hB, hsz, hr⟩, st⟩ := H
  obtain ⟨v, vm1, ⟨U, lo, c1, s1⟩, -, X', hS', hg, ⟨Lx, ⟨hQ, hK, hFr⟩, l1, c1e, s1e, hCr, hSf, hlt⟩, st'⟩ := callSS X hx (own := y.cls) hown (mvT (s := s.setVm vm0) hZ w1) (mvT (s := s.setVm vm0) hZ w2) (mvT (s := s.setVm vm0) hZ w3) (mvT (s := s.setVm vm0) hZ w4) hy (P vm0 hZ hC.1 fun x q => ⟨(hF.2.2.2 x (hws x q)).1, (hF.2.2.2 x (hws x q)).2.1⟩)
    (g := mkF m pc L (argsL.reverse ++ rest)) rfl hsz hlen rfl (by show 2 * 0 + (rest.map fun v => v.category).sum ≤ W; omega) (Jvm.hb hB dd) (fun _ _ => ⟨rfl, e1, hc, hl⟩)
  dsimp only [Pt.U, Pt.locs, Pt.cells, Pt.slots] at X' hS' hg hQ hK l1 c1e s1e hCr hSf hlt st'
  subst l1 c1e s1e
  obtain ⟨u1, u2, u3, u4, u5⟩ := updC hC hF hK hws hCr
  refine ⟨v, U.heap, hQ, hK, U, U.vm, U.heap.size, _, X', rfl, hS.trans hS' (Nat.le_trans hk hK.1), Nat.le_refl _, State.Warmed39.trans (t := s.setVm vm0) hZ hS'.1, (hS'.1.alike.findClass _ _).trans hown, u1, Fr.app hN hFr, ⟨u2, u3, u4, fun x q => ?_⟩, ⟨hx, hB, hsz, hr⟩, fun t q => st t (st'.trans q)⟩
  rcases List.mem_cons.mp q with rfl | q
  · exact ⟨hSf, hlt, by have := hF.2.2.1.2.1; have := hF.2.2.1.1; omega, Or.inr (Nat.le_trans hF.2.1.1 hb)⟩
  · exact u5 x q
end Fresh
end Jvm.OwnKit
/- laws to paste: Road.backV, Road.lenW, Road.chN, Road.codOf, pair_says, shr0, narrow_ch (cut by pick.py; bodies as the Statement names them) -/
namespace Jvm.Pilot.@@N@@
namespace StrChars
open Jvm Sem ClassFile Op Lib Jvm.Stand Jvm.Free.XT Jvm.Free.ALB Jvm.Free.JM Jvm.Free
open Jvm.Lib.Cold (StaticIs)
/-- a char array whose places are chars -/
def Ch (a : Addr) (A : Cell) (U : State) : Prop := Arr .char a A U ∧ Typed .char A
theorem Ch.mv {a : Addr} {A : Cell} {U U' : State} (h : Ch a A U) (hal : U.vm.Alike U'.vm) (hh : U'.heap = U.heap) : Ch a A U' := ⟨h.1.mv hal hh, h.2⟩
theorem Ch.keep {a : Addr} {A : Cell} {U U' : State} (h : Ch a A U) (hal : U.vm.Alike U'.vm) (hk : U'.heap[a]? = some A) : Ch a A U' := ⟨h.1.keep hal hk, h.2⟩
/-- what place i of a char[]'s cell holds -/
def cv (A : Cell) (i : Nat) : Int32 := match A.slots[i]? with | some (.int x) => x | _ => 0
theorem Ch.get {a : Addr} {A : Cell} {U : State} (h : Ch a A U) {i : Nat} (hi : i < A.slots.size) : A.slots[i]? = some (.int (cv A i)) := by
  have e := Array.getElem?_eq_getElem hi
  have f := h.2 i _ e
  unfold cv; rw [e]
  generalize A.slots[i] = v at f
  cases v <;> simp [fits] at f ⊢
/-- the byte that i2b leaves of a char -/
def lo8 (x : Int32) : Int32 := x.toInt8.toInt32
theorem fits_lo8 (y : Int32) : fits .byte (.int (lo8 y)) = true := by
  have h1 := y.toInt8.le_toInt
  have h2 := y.toInt8.toInt_lt
  simp only [lo8, fits, Bool.and_eq_true, decide_eq_true_eq, Int32.le_iff_toInt_le, Int8.toInt_toInt32, show (-128 : Int32).toInt = -128 from by decide, show (127 : Int32).toInt = 127 from by decide]
  omega
/-- A' is A but that each place j of lo .. hi - 1 holds f j -/
def Laid (A A' : Cell) (lo hi : Nat) (f : Nat → Value) : Prop := A'.cls = A.cls ∧ A'.vm = A.vm ∧ A'.slots.size = A.slots.size ∧ ∀ i, A'.slots[i]? = if lo ≤ i ∧ i < hi then some (f i) else A.slots[i]?
theorem Laid.zero (A : Cell) (lo : Nat) (f : Nat → Value) : Laid A A lo (lo + 0) f := ⟨rfl, rfl, rfl, fun i => by rw [if_neg (by omega)]⟩
theorem Laid.step {A Ak : Cell} {lo k : Nat} {f : Nat → Value} {v : Value} (h : Laid A Ak lo k f) (hlo : lo ≤ k) (hk : k < Ak.slots.size) (hv : v = f k) : Laid A (Ak.setSlot k v) lo (k + 1) f := by
  refine ⟨h.1, h.2.1, by simpa [Cell.setSlot] using h.2.2.1, fun i => ?_⟩
  by_cases e : k = i
  · subst e; rw [Cell.slots_setSlot_self v hk, if_pos (by omega), hv]
  · rw [Cell.slots_setSlot_ne v e, h.2.2.2 i]
    by_cases q : lo ≤ i ∧ i < k
    · rw [if_pos q, if_pos (by omega)]
    · rw [if_neg q, if_neg (by omega)]
def U16 : String := "java/lang/StringUTF16"
namespace Cmp5
def yN : MethodName := ⟨"java/lang/StringUTF16", "compress", "([CI[BII)I"⟩
abbrev yB : ByteArray := jdk_52_method_21_code
theorem d0 : decode yB 0 = .ok (.iconst 0, 1) := by decide +kernel
theorem d1 : decode yB 1 = .ok (.istore 5, 2) := by decide +kernel
theorem d3 : decode yB 3 = .ok (.iload 5, 2) := by decide +kernel
theorem d5 : decode yB 5 = .ok (.iload 4, 2) := by decide +kernel
theorem d7 : decode yB 7 = .ok (.if_icmp (.ge) 37, 3) := by decide +kernel
theorem d10 : decode yB 10 = .ok (.aload_n 0, 1) := by decide +kernel
theorem d11 : decode yB 11 = .ok (.iload_n 1, 1) := by decide +kernel
theorem d12 : decode yB 12 = .ok (.caload, 1) := by decide +kernel
theorem d13 : decode yB 13 = .ok (.istore 6, 2) := by decide +kernel
theorem d15 : decode yB 15 = .ok (.iload 6, 2) := by decide +kernel
theorem d17 : decode yB 17 = .ok (.sipush 255, 3) := by decide +kernel
theorem d20 : decode yB 20 = .ok (.if_icmp (.le) 6, 3) := by decide +kernel
theorem d26 : decode yB 26 = .ok (.aload_n 2, 1) := by decide +kernel
theorem d27 : decode yB 27 = .ok (.iload_n 3, 1) := by decide +kernel
theorem d28 : decode yB 28 = .ok (.iload 6, 2) := by decide +kernel
theorem d30 : decode yB 30 = .ok (.i2b, 1) := by decide +kernel
theorem d31 : decode yB 31 = .ok (.bastore, 1) := by decide +kernel
theorem d32 : decode yB 32 = .ok (.iinc 1 1, 3) := by decide +kernel
theorem d35 : decode yB 35 = .ok (.iinc 3 1, 3) := by decide +kernel
theorem d38 : decode yB 38 = .ok (.iinc 5 1, 3) := by decide +kernel
theorem d41 : decode yB 41 = .ok (.goto (-38), 3) := by decide +kernel
theorem d44 : decode yB 44 = .ok (.iload 4, 2) := by decide +kernel
theorem d46 : decode yB 46 = .ok (.ireturn, 1) := by decide +kernel
def site : List Cond := []
def tab : Cond := tabOf yN yB 7 (some .int) site
def P (b : Addr) (A : Cell) (d : Addr) (B : Cell) (o q len : Nat) (args : Array Value) (s : State) : Prop := args = #[.ref b, .int (Int32.ofNat o), .ref d, .int (Int32.ofNat q), .int (Int32.ofNat len)] ∧ Ch b A s ∧ Arr .byte d B s ∧ b ≠ d ∧ o + len ≤ A.slots.size ∧ q + len ≤ B.slots.size ∧ ∀ i, i < len → ¬ 255 < cv A (o + i)
def E (b : Addr) (A : Cell) (d : Addr) (B : Cell) (o q len : Nat) (r : Option Value) (s u : State) : Prop := r = some (.int (Int32.ofNat len)) ∧ ∃ B', Put d B' s u ∧ Laid B B' q (q + len) (fun j => Value.int (lo8 (cv A (o + (j - q)))))
/-- no char of the range above 255: len; the places written hold each char's low byte -/
theorem law (l : Launch) (b : Addr) (A : Cell) (d : Addr) (B : Cell) (o q len : Nat) : Law l yN 5 5 0 0 yB 7 (some .int) site (P b A d B o q len) (E b A d B o q len) (copyLocs d q len) 0 0 := by
  refine Law.of_walk (plainFor_of_name (by decide +kernel)) (by decide +kernel) (by decide +kernel) (by decide) (fun _ _ h => by rw [h.1]; rfl) (fun _ U U' hal hh h => ⟨h.1, h.2.1.mv hal hh, h.2.2.1.mv hal hh, h.2.2.2⟩) (fun r U U' V V' h1 hal h2 h => ⟨h.1, h.2.elim fun B' q => ⟨B', q.1.mv h1 h2, q.2⟩⟩) ?_
  intro p e s m args below meth c s₁ X0 hexec hbytes hml hret hlk hnm hown hh0 W hP
  obtain ⟨rfl, hA, hB, hne, l1, l2, hp⟩ := hP
  have c1 : Steps p.tables e below (s₁.setTop (entryFrame m #[.ref b, .int (Int32.ofNat o), .ref d, .int (Int32.ofNat q), .int (Int32.ofNat len)] 7)) (s₁.setTop (mkF m 0 #[.val (.ref b), .val (.int (Int32.ofNat o)), .val (.ref d), .val (.int (Int32.ofNat q)), .val (.int (Int32.ofNat len)), .unset, .unset] [])) := entry rfl
  have hA0 := hA.1.mv X0.warmed.alike hh0
  have hB0 := hB.mv X0.warmed.alike hh0
  have a31 := hA.1.2.2.2
  have c2 : Steps p.tables e below (s₁.setTop (entryFrame m #[.ref b, .int (Int32.ofNat o), .ref d, .int (Int32.ofNat q), .int (Int32.ofNat len)] 7)) (s₁.setTop (mkF m 3 #[.val (.ref b), .val (.int (Int32.ofNat o)), .val (.ref d), .val (.int (Int32.ofNat q)), .val (.int (Int32.ofNat len)), .val (.int 0), .unset] [])) := c1.trans (by
    refine iconstV X0.here hexec rfl 0 (hb hbytes d0) (by decide) ?_
    refine XS.istore X0.here hexec rfl (hb hbytes d1) rfl rfl ?_
    exact Steps.refl _)
  have loop : ∀ (r i : Nat), i + r = len → ∀ (z : Slot), (z = .unset ∨ ∃ w, z = .val w ∧ w.category = 1) → ∀ (Tl : State) (Bk : Cell), Stand p l e { frames := 0, locals := 0, cells := 0, slots := 0 } s m #[.ref b, .int (Int32.ofNat o), .ref d, .int (Int32.ofNat q), .int (Int32.ofNat len)] below meth c Tl ([] ++ copyLocs d q i) 0 0 → Put d Bk s₁ Tl → Laid B Bk q (q + i) (fun j => Value.int (lo8 (cv A (o + (j - q))))) →
      Steps p.tables e below (s₁.setTop (entryFrame m #[.ref b, .int (Int32.ofNat o), .ref d, .int (Int32.ofNat q), .int (Int32.ofNat len)] 7)) (Tl.setTop (mkF m 3 #[.val (.ref b), .val (.int (Int32.ofNat (o + i))), .val (.ref d), .val (.int (Int32.ofNat (q + i))), .val (.int (Int32.ofNat len)), .val (.int (Int32.ofNat i)), z] [])) → ∃ (T' : State) (B' : Cell) (z' : Slot), Stand p l e { frames := 0, locals := 0, cells := 0, slots := 0 } s m #[.ref b, .int (Int32.ofNat o), .ref d, .int (Int32.ofNat q), .int (Int32.ofNat len)] below meth c T' ([] ++ copyLocs d q len) 0 0 ∧ Put d B' s₁ T' ∧ Laid B B' q (q + len) (fun j => Value.int (lo8 (cv A (o + (j - q))))) ∧
      Steps p.tables e below (s₁.setTop (entryFrame m #[.ref b, .int (Int32.ofNat o), .ref d, .int (Int32.ofNat q), .int (Int32.ofNat len)] 7)) (T'.setTop (mkF m 3 #[.val (.ref b), .val (.int (Int32.ofNat (o + len))), .val (.ref d), .val (.int (Int32.ofNat (q + len))), .val (.int (Int32.ofNat len)), .val (.int (Int32.ofNat len)), z'] [])) := by
    intro r
    induction r with
    | zero =>
      intro i hi z hz Tl Bk Xl pl fl cl
      have hil : i = len := by omega
      rw [hil] at Xl fl cl
      exact ⟨Tl, Bk, z, Xl, pl, fl, cl⟩
    | succ r ih =>
      intro i hi z hz Tl Bk Xl pl fl cl
      have all := X0.warmed.alike.symm.trans Xl.warmed.alike
      have hAl := hA0.keep all (pl.other hne hA0.1)
      have hBk := hB0.like all pl.1 fl.1 fl.2.1 fl.2.2.1
      have hlt : q + i < Bk.slots.size := by rw [fl.2.2.1]; omega
      have c3 : Steps p.tables e below (s₁.setTop (entryFrame m #[.ref b, .int (Int32.ofNat o), .ref d, .int (Int32.ofNat q), .int (Int32.ofNat len)] 7)) (Tl.setTop (mkF m 12 #[.val (.ref b), .val (.int (Int32.ofNat (o + i))), .val (.ref d), .val (.int (Int32.ofNat (q + i))), .val (.int (Int32.ofNat len)), .val (.int (Int32.ofNat i)), z] [.int (Int32.ofNat (o + i)), .ref b])) := cl.trans (by
        refine XS.iload Xl.here hexec rfl (hb hbytes d3) rfl ?_
        refine XS.iload Xl.here hexec rfl (hb hbytes d5) rfl ?_
        refine XS.icmpNo Xl.here hexec rfl (hb hbytes d7) rfl (ii_ge_f (lt32 (by omega) (by omega))) ?_
        refine XS.aloadN Xl.here hexec rfl (hb hbytes d10) rfl rfl ?_
        refine XS.iloadN Xl.here hexec rfl (hb hbytes d11) rfl ?_
        exact Steps.refl _)
      have c4 : Steps p.tables e below (s₁.setTop (entryFrame m #[.ref b, .int (Int32.ofNat o), .ref d, .int (Int32.ofNat q), .int (Int32.ofNat len)] 7)) (Tl.setTop (mkF m 13 #[.val (.ref b), .val (.int (Int32.ofNat (o + i))), .val (.ref d), .val (.int (Int32.ofNat (q + i))), .val (.int (Int32.ofNat len)), .val (.int (Int32.ofNat i)), z] [.int (cv A (o + i))])) := c3.trans (by
        refine Xl.aget hexec hAl rfl (hA.get (i := o + i) (by omega)) rfl rfl (hb hbytes d12) ?_
        exact Steps.refl _)
      have c5 : Steps p.tables e below (s₁.setTop (entryFrame m #[.ref b, .int (Int32.ofNat o), .ref d, .int (Int32.ofNat q), .int (Int32.ofNat len)] 7)) (Tl.setTop (mkF m 15 #[.val (.ref b), .val (.int (Int32.ofNat (o + i))), .val (.ref d), .val (.int (Int32.ofNat (q + i))), .val (.int (Int32.ofNat len)), .val (.int (Int32.ofNat i)), .val (.int (cv A (o + i)))] [])) := c4.trans (by
        refine XS.istoreS Xl.here hexec rfl (hb hbytes d13) rfl rfl hz ?_
        exact Steps.refl _)
      have c6 : Steps p.tables e below (s₁.setTop (entryFrame m #[.ref b, .int (Int32.ofNat o), .ref d, .int (Int32.ofNat q), .int (Int32.ofNat len)] 7)) (Tl.setTop (mkF m 31 #[.val (.ref b), .val (.int (Int32.ofNat (o + i))), .val (.ref d), .val (.int (Int32.ofNat (q + i))), .val (.int (Int32.ofNat len)), .val (.int (Int32.ofNat i)), .val (.int (cv A (o + i)))] [.int (lo8 (cv A (o + i))), .int (Int32.ofNat (q + i)), .ref d])) := c5.trans (by
        refine XS.iload Xl.here hexec rfl (hb hbytes d15) rfl ?_
        refine sipushV Xl.here hexec rfl 255 (hb hbytes d17) (by decide) ?_
        refine XS.icmpYes Xl.here hexec rfl (pc0 := 20) rfl (hb hbytes d20) rfl (ii_le_t (hp i (by omega))) (by decide) rfl ?_
        refine XS.aloadN Xl.here hexec rfl (hb hbytes d26) rfl rfl ?_
        refine XS.iloadN Xl.here hexec rfl (hb hbytes d27) rfl ?_
        refine XS.iload Xl.here hexec rfl (hb hbytes d28) rfl ?_
        refine i2b Xl.here hexec rfl (hb hbytes d30) rfl ?_
        exact Steps.refl _)
      obtain ⟨T7, X7, p7, st7⟩ := Xl.aput hexec hBk rfl hlt rfl (fits_lo8 (cv A (o + i))) (g := (mkF m 31 #[.val (.ref b), .val (.int (Int32.ofNat (o + i))), .val (.ref d), .val (.int (Int32.ofNat (q + i))), .val (.int (Int32.ofNat len)), .val (.int (Int32.ofNat i)), .val (.int (cv A (o + i)))] [.int (lo8 (cv A (o + i))), .int (Int32.ofNat (q + i)), .ref d])) rfl (rest := []) rfl (hb hbytes d31)
      have c8 : Steps p.tables e below (s₁.setTop (entryFrame m #[.ref b, .int (Int32.ofNat o), .ref d, .int (Int32.ofNat q), .int (Int32.ofNat len)] 7)) (T7.setTop (mkF m 32 #[.val (.ref b), .val (.int (Int32.ofNat (o + i))), .val (.ref d), .val (.int (Int32.ofNat (q + i))), .val (.int (Int32.ofNat len)), .val (.int (Int32.ofNat i)), .val (.int (cv A (o + i)))] [])) := c6.trans (st7 _ (Steps.refl _))
      have c9 : Steps p.tables e below (s₁.setTop (entryFrame m #[.ref b, .int (Int32.ofNat o), .ref d, .int (Int32.ofNat q), .int (Int32.ofNat len)] 7)) (T7.setTop (mkF m 3 #[.val (.ref b), .val (.int (Int32.ofNat (o + i) + 1)), .val (.ref d), .val (.int (Int32.ofNat (q + i) + 1)), .val (.int (Int32.ofNat len)), .val (.int (Int32.ofNat i + 1)), .val (.int (cv A (o + i)))] [])) := c8.trans (by
        refine iincV X7.here hexec rfl 1 (hb hbytes d32) (by decide) rfl rfl ?_
        refine iincV X7.here hexec rfl 1 (hb hbytes d35) (by decide) rfl rfl ?_
        refine iincV X7.here hexec rfl 1 (hb hbytes d38) (by decide) rfl rfl ?_
        refine XS.goto X7.here hexec rfl (pc0 := 41) rfl (hb hbytes d41) (by decide) rfl ?_
        exact Steps.refl _)
      have c10 : Steps p.tables e below (s₁.setTop (entryFrame m #[.ref b, .int (Int32.ofNat o), .ref d, .int (Int32.ofNat q), .int (Int32.ofNat len)] 7)) (T7.setTop (mkF m 3 #[.val (.ref b), .val (.int (Int32.ofNat (o + (i + 1)))), .val (.ref d), .val (.int (Int32.ofNat (q + (i + 1)))), .val (.int (Int32.ofNat len)), .val (.int (Int32.ofNat (i + 1))), .val (.int (cv A (o + i)))] [])) := by
        have := c9
        rw [succ32, succ32, succ32] at this
        exact this
      exact ih (i + 1) (by omega) _ (Or.inr ⟨_, rfl, rfl⟩) T7 _ (by rw [copyLocs_step, ← List.append_assoc]; exact X7) (pl.trans p7) (fl.step (by omega) hlt (by simp)) c10
  obtain ⟨T9, B9, z9, X9, p9, f9, g9⟩ := loop len 0 (by omega) .unset (Or.inl rfl) s₁ B (by simpa [copyLocs] using X0) ⟨hB0.1, fun _ _ => rfl, rfl⟩ (Laid.zero _ _ _) c2
  have c11 : Steps p.tables e below (s₁.setTop (entryFrame m #[.ref b, .int (Int32.ofNat o), .ref d, .int (Int32.ofNat q), .int (Int32.ofNat len)] 7)) (T9.setTop (mkF m 46 #[.val (.ref b), .val (.int (Int32.ofNat (o + len))), .val (.ref d), .val (.int (Int32.ofNat (q + len))), .val (.int (Int32.ofNat len)), .val (.int (Int32.ofNat len)), z9] [.int (Int32.ofNat len)])) := g9.trans (by
    refine XS.iload X9.here hexec rfl (hb hbytes d3) rfl ?_
    refine XS.iload X9.here hexec rfl (hb hbytes d5) rfl ?_
    refine XS.icmpYes X9.here hexec rfl (pc0 := 7) rfl (hb hbytes d7) rfl (ii_ge_t (nlt32 (by omega) (Nat.le_refl _))) (by decide) rfl ?_
    refine XS.iload X9.here hexec rfl (hb hbytes d44) rfl ?_
    exact Steps.refl _)
  exact ⟨T9, some (.int (Int32.ofNat len)), _, _, _, X9, by simp, rfl, rfl, (fun h => by cases h), ⟨rfl, B9, p9.from hh0, f9⟩, fun fs hl => c11.trans (X9.ireturnOut hexec hret rfl (Or.inl rfl) (hb hbytes d46) hl)⟩
end Cmp5
namespace Cmp3
def yN : MethodName := ⟨"java/lang/StringUTF16", "compress", "([CII)[B"⟩
abbrev yB : ByteArray := jdk_52_method_16_code
theorem d0 : decode yB 0 = .ok (.iload_n 2, 1) := by decide +kernel
theorem d1 : decode yB 1 = .ok (.newarray .byte, 2) := by decide +kernel
theorem d3 : decode yB 3 = .ok (.astore_n 3, 1) := by decide +kernel
theorem d4 : decode yB 4 = .ok (.aload_n 0, 1) := by decide +kernel
theorem d5 : decode yB 5 = .ok (.iload_n 1, 1) := by decide +kernel
theorem d6 : decode yB 6 = .ok (.aload_n 3, 1) := by decide +kernel
theorem d7 : decode yB 7 = .ok (.iconst 0, 1) := by decide +kernel
theorem d8 : decode yB 8 = .ok (.iload_n 2, 1) := by decide +kernel
theorem d9 : decode yB 9 = .ok (.invokestatic 115, 3) := by decide +kernel
theorem d12 : decode yB 12 = .ok (.istore 4, 2) := by decide +kernel
theorem d14 : decode yB 14 = .ok (.iload 4, 2) := by decide +kernel
theorem d16 : decode yB 16 = .ok (.iload_n 2, 1) := by decide +kernel
theorem d17 : decode yB 17 = .ok (.if_icmp (.eq) 40, 3) := by decide +kernel
theorem d57 : decode yB 57 = .ok (.aload_n 3, 1) := by decide +kernel
theorem d58 : decode yB 58 = .ok (.areturn, 1) := by decide +kernel
def site : List Cond := [.arrayClass .byte, Cmp5.tab] ++ staticW U16 115 Cmp5.yN
def tab : Cond := tabOf yN yB 6 (some (.array .byte)) site
def P (b : Addr) (A : Cell) (o len : Nat) (args : Array Value) (s : State) : Prop := args = #[.ref b, .int (Int32.ofNat o), .int (Int32.ofNat len)] ∧ Ch b A s ∧ o + len ≤ A.slots.size ∧ len ≤ 536870912 ∧ ∀ i, i < len → ¬ 255 < cv A (o + i)
def E (b : Addr) (A : Cell) (o len : Nat) (r : Option Value) (s u : State) : Prop := NewArr .byte "[B" len (fun j => .int (lo8 (cv A (o + j)))) r s u ∧ u.heap.size = s.heap.size + 1
/-- no char of the range above 255: a new byte[] of their low bytes -/
theorem law (l : Launch) (b : Addr) (A : Cell) (o len : Nat) : Law l yN 3 3 1 18 yB 6 (some (.array .byte)) site (P b A o len) (E b A o len) [] 1 len := by
  refine Law.of_walk (plainFor_of_name (by decide +kernel)) (by decide +kernel) (by decide +kernel) (by decide) (fun _ _ h => by rw [h.1]; rfl) (fun _ U U' hal hh h => ⟨h.1, h.2.1.mv hal hh, h.2.2⟩) (fun r U U' V V' h1 hal h2 h => ⟨NewArr.mv r U U' V V' h1 hal h2 h.1, by rw [h1, h2]; exact h.2⟩) ?_
  intro p e s m args below meth c s₁ X0 hexec hbytes hml hret hlk hnm hown hh0 W hP
  obtain ⟨rfl, hA, l1, l2, hp⟩ := hP
  have a31 := hA.1.2.2.2
  have c1 : Steps p.tables e below (s₁.setTop (entryFrame m #[.ref b, .int (Int32.ofNat o), .int (Int32.ofNat len)] 6)) (s₁.setTop (mkF m 0 #[.val (.ref b), .val (.int (Int32.ofNat o)), .val (.int (Int32.ofNat len)), .unset, .unset, .unset] [])) := entry rfl
  have c2 : Steps p.tables e below (s₁.setTop (entryFrame m #[.ref b, .int (Int32.ofNat o), .int (Int32.ofNat len)] 6)) (s₁.setTop (mkF m 1 #[.val (.ref b), .val (.int (Int32.ofNat o)), .val (.int (Int32.ofNat len)), .unset, .unset, .unset] [.int (Int32.ofNat len)])) := c1.trans (by
    refine XS.iloadN X0.here hexec rfl (hb hbytes d0) rfl ?_
    exact Steps.refl _)
  obtain ⟨T3, B3, X3, ba3, bs3, bv3, bh3, bf3, st3⟩ := X0.anew hexec (atype := .byte) (wk W (.arrayClass .byte)) rfl (by show len * 1 ≤ _; omega) (by omega) (g := (mkF m 1 #[.val (.ref b), .val (.int (Int32.ofNat o)), .val (.int (Int32.ofNat len)), .unset, .unset, .unset] [.int (Int32.ofNat len)])) rfl (hb hbytes d1) (rest := []) rfl (Nat.le_refl _) (by show 0 + len ≤ len; omega)
  rw [hh0] at ba3 st3
  have kp3 : XT.Kept s T3 := (XT.Kept.of_eq hh0).push bh3
  have hA3 := hA.keep X3.warmed.alike (kp3 _ _ hA.1.1)
  have hne : b ≠ s.heap.size := hA.1.ne
  have c4 : Steps p.tables e below (s₁.setTop (entryFrame m #[.ref b, .int (Int32.ofNat o), .int (Int32.ofNat len)] 6)) (T3.setTop (mkF m 3 #[.val (.ref b), .val (.int (Int32.ofNat o)), .val (.int (Int32.ofNat len)), .unset, .unset, .unset] [.ref s.heap.size])) := c2.trans (st3 _ (Steps.refl _))
  have c5 : Steps p.tables e below (s₁.setTop (entryFrame m #[.ref b, .int (Int32.ofNat o), .int (Int32.ofNat len)] 6)) (T3.setTop (mkF m 9 #[.val (.ref b), .val (.int (Int32.ofNat o)), .val (.int (Int32.ofNat len)), .val (.ref s.heap.size), .unset, .unset] [.int (Int32.ofNat len), .int 0, .ref s.heap.size, .int (Int32.ofNat o), .ref b])) := c4.trans (by
    refine XS.astoreN X3.here hexec rfl (hb hbytes d3) rfl rfl rfl ?_
    refine XS.aloadN X3.here hexec rfl (hb hbytes d4) rfl rfl ?_
    refine XS.iloadN X3.here hexec rfl (hb hbytes d5) rfl ?_
    refine XS.aloadN X3.here hexec rfl (hb hbytes d6) rfl rfl ?_
    refine iconstV X3.here hexec rfl 0 (hb hbytes d7) (by decide) ?_
    refine XS.iloadN X3.here hexec rfl (hb hbytes d8) rfl ?_
    exact Steps.refl _)
  obtain ⟨v6, T6, X6, E6, g6⟩ := X3.callS hexec (Cmp5.law l b A s.heap.size B3 o 0 len) hown (wks W (staticW U16 115 Cmp5.yN)) (wk W Cmp5.tab) (W := 0) (Nat.le_of_ble_eq_true rfl) (Nat.le_of_ble_eq_true rfl) (Nat.le_refl _) (by show 0 + len + 0 ≤ len; omega) (g := (mkF m 9 #[.val (.ref b), .val (.int (Int32.ofNat o)), .val (.int (Int32.ofNat len)), .val (.ref s.heap.size), .unset, .unset] [.int (Int32.ofNat len), .int (Int32.ofNat 0), .ref s.heap.size, .int (Int32.ofNat o), .ref b])) rfl (by rw [hml]; rfl) c5 (argsL := [.ref b, .int (Int32.ofNat o), .ref s.heap.size, .int (Int32.ofNat 0), .int (Int32.ofNat len)]) (rest := []) rfl rfl (by show 2 * 0 + 0 ≤ _; decide) (hb hbytes d9) (⟨rfl, hA3, ba3, hne, l1, by rw [bs3]; simp, hp⟩)
  obtain ⟨rfl, B6, p6, f6⟩ := E6
  have c7 : Steps p.tables e below (s₁.setTop (entryFrame m #[.ref b, .int (Int32.ofNat o), .int (Int32.ofNat len)] 6)) (T6.setTop (mkF m 12 #[.val (.ref b), .val (.int (Int32.ofNat o)), .val (.int (Int32.ofNat len)), .val (.ref s.heap.size), .unset, .unset] [.int (Int32.ofNat len)])) := g6
  have c8 : Steps p.tables e below (s₁.setTop (entryFrame m #[.ref b, .int (Int32.ofNat o), .int (Int32.ofNat len)] 6)) (T6.setTop (mkF m 58 #[.val (.ref b), .val (.int (Int32.ofNat o)), .val (.int (Int32.ofNat len)), .val (.ref s.heap.size), .val (.int (Int32.ofNat len)), .unset] [.ref s.heap.size])) := c7.trans (by
    refine XS.istore X6.here hexec rfl (hb hbytes d12) rfl rfl ?_
    refine XS.iload X6.here hexec rfl (hb hbytes d14) rfl ?_
    refine XS.iloadN X6.here hexec rfl (hb hbytes d16) rfl ?_
    refine XS.icmpYes X6.here hexec rfl (pc0 := 17) rfl (hb hbytes d17) rfl (ii_eq_t rfl) (by decide) rfl ?_
    refine XS.aloadN X6.here hexec rfl (hb hbytes d57) rfl rfl ?_
    exact Steps.refl _)
  have X8 := X6.wide (L' := []) (cells' := 1) (slots' := len) (fun x hx hlt => by
    simp only [List.nil_append, copyLocs, List.mem_map, List.mem_range] at hx
    obtain ⟨i, -, rfl⟩ := hx
    exact absurd hlt (Nat.lt_irrefl _)) (Nat.le_refl _) (by omega)
  exact ⟨T6, some (.ref s.heap.size), _, _, _, X8, rfl, rfl, rfl, (fun h => by cases h), ⟨⟨rfl, B6, ba3.like (X3.warmed.alike.symm.trans X6.warmed.alike) p6.1 f6.1 f6.2.1 f6.2.2.1, f6.2.1.trans bv3, by rw [X6.warmed.alike.findClass, f6.1]; exact bf3, by rw [f6.2.2.1, bs3]; simp, fun j hj => by rw [f6.2.2.2 j, if_pos (by omega)]; rfl, kp3.put p6 (Nat.le_refl _)⟩, by rw [p6.2.2, bh3, hh0]; simp⟩, fun fs hl => c8.trans (X8.areturnOut hexec rfl hret rfl (hb hbytes d58) hl)⟩
end Cmp3
namespace CodL
def yN : MethodName := ⟨"java/lang/StringUTF16", "coderFromArrayLen", "([BI)B"⟩
abbrev yB : ByteArray := jdk_52_method_15_code
theorem d0 : decode yB 0 = .ok (.iload_n 1, 1) := by decide +kernel
theorem d1 : decode yB 1 = .ok (.aload_n 0, 1) := by decide +kernel
theorem d2 : decode yB 2 = .ok (.arraylength, 1) := by decide +kernel
theorem d3 : decode yB 3 = .ok (.isub, 1) := by decide +kernel
theorem d4 : decode yB 4 = .ok (.bipush 31, 2) := by decide +kernel
theorem d6 : decode yB 6 = .ok (.iushr, 1) := by decide +kernel
theorem d7 : decode yB 7 = .ok (.i2b, 1) := by decide +kernel
theorem d8 : decode yB 8 = .ok (.ireturn, 1) := by decide +kernel
def site : List Cond := []
def tab : Cond := tabOf yN yB 2 (some .byte) site
def P (d : Addr) (B : Cell) (args : Array Value) (s : State) : Prop := args = #[.ref d, .int (Int32.ofNat B.slots.size)] ∧ Arr .byte d B s
def E (r : Option Value) (s u : State) : Prop := XT.PureE (some (.int 0)) r s u
/-- an array as long as the number of chars: LATIN1 -/
theorem law (l : Launch) (d : Addr) (B : Cell) : Law l yN 2 2 0 0 yB 2 (some .byte) site (P d B) E [] 0 0 := by
  refine Law.of_walk (plainFor_of_name (by decide +kernel)) (by decide +kernel) (by decide +kernel) (by decide) (fun _ _ h => by rw [h.1]; rfl) (fun _ U U' hal hh h => ⟨h.1, h.2.mv hal hh⟩) (fun r U U' V V' h1 hal h2 h => XT.PureE.mv r U U' V V' h1 hal h2 h) ?_
  intro p e s m args below meth c s₁ X0 hexec hbytes hml hret hlk hnm hown hh0 W hP
  obtain ⟨rfl, hB⟩ := hP
  have hB0 := hB.mv X0.warmed.alike hh0
  have c1 : Steps p.tables e below (s₁.setTop (entryFrame m #[.ref d, .int (Int32.ofNat B.slots.size)] 2)) (s₁.setTop (mkF m 0 #[.val (.ref d), .val (.int (Int32.ofNat B.slots.size))] [])) := entry rfl
  have c2 : Steps p.tables e below (s₁.setTop (entryFrame m #[.ref d, .int (Int32.ofNat B.slots.size)] 2)) (s₁.setTop (mkF m 2 #[.val (.ref d), .val (.int (Int32.ofNat B.slots.size))] [.ref d, .int (Int32.ofNat B.slots.size)])) := c1.trans (by
    refine XS.iloadN X0.here hexec rfl (hb hbytes d0) rfl ?_
    refine XS.aloadN X0.here hexec rfl (hb hbytes d1) rfl rfl ?_
    exact Steps.refl _)
  have c3 : Steps p.tables e below (s₁.setTop (entryFrame m #[.ref d, .int (Int32.ofNat B.slots.size)] 2)) (s₁.setTop (mkF m 8 #[.val (.ref d), .val (.int (Int32.ofNat B.slots.size))] [.int (lo8 (ushr (Int32.ofNat B.slots.size - Int32.ofNat B.slots.size) 31))])) := c2.trans (by
    refine X0.alen hexec hB0 rfl rfl (hb hbytes d2) ?_
    refine XS.isub X0.here hexec rfl (hb hbytes d3) rfl ?_
    refine bipushV X0.here hexec rfl 31 (hb hbytes d4) (by decide) ?_
    refine iushr X0.here hexec rfl (hb hbytes d6) rfl ?_
    refine i2b X0.here hexec rfl (hb hbytes d7) rfl ?_
    exact Steps.refl _)
  have e0 : lo8 (ushr (Int32.ofNat B.slots.size - Int32.ofNat B.slots.size) 31) = 0 := by rw [Int32.sub_self]; decide
  rw [e0] at c3
  exact ⟨s₁, some (.int 0), _, _, _, X0, rfl, rfl, rfl, (fun h => by cases h), ⟨rfl, hh0⟩, fun fs hl => c3.trans (X0.ireturnOut hexec hret rfl (Or.inr (Or.inr (Or.inl rfl))) (hb hbytes d8) hl)⟩
end CodL
/-- the String at a is Latin-1 over a new byte[] (the heap's one new cell): the low bytes of the len chars of A from o on; every cell but a is kept -/
def Got (a : Addr) (D : Cell) (fV fC : Field) (A : Cell) (o len : Nat) (r : Option Value) (s u : State) : Prop := r = none ∧ ∃ D' V : Cell, Blank "java/lang/String" a D' u ∧ Same D D' [fV.slot, fC.slot] ∧ D'.slots[fV.slot]? = some (.ref s.heap.size) ∧ D'.slots[fC.slot]? = some (.int 0) ∧ Arr .byte s.heap.size V u ∧ V.vm = .none ∧ u.vm.findClass "[B" = some V.cls ∧ V.slots.size = len ∧ (∀ j, j < len → V.slots[j]? = some (.int (lo8 (cv A (o + j))))) ∧ (∀ (y : Addr) (c : Cell), y ≠ a → s.heap[y]? = some c → u.heap[y]? = some c) ∧ u.heap.size = s.heap.size + 1
theorem Got.mv {a : Addr} {D A : Cell} {fV fC : Field} {o len : Nat} : ∀ r (U U' V V' : State), U'.heap = U.heap → V.vm.Alike V'.vm → V'.heap = V.heap → Got a D fV fC A o len r U V → Got a D fV fC A o len r U' V' :=
  fun r U U' V V' h1 hal h2 ⟨e0, D', X, a1, a2, a3, a4, a5, a6, a7, a8, a9, a10, a11⟩ => ⟨e0, D', X, a1.mv hal h2, a2, by rw [h1]; exact a3, a4, by rw [h1]; exact a5.mv hal h2, a6, by rw [hal.findClass]; exact a7, a8, a9, by rw [h1, h2]; exact a10, by rw [h1, h2]; exact a11⟩
namespace New4
def yN : MethodName := ⟨"java/lang/String", "<init>", "([CIILjava/lang/Void;)V"⟩
abbrev yB : ByteArray := jdk_42_method_149_code
theorem d0 : decode yB 0 = .ok (.aload_n 0, 1) := by decide +kernel
theorem d1 : decode yB 1 = .ok (.invokespecial 1, 3) := by decide +kernel
theorem d4 : decode yB 4 = .ok (.iload_n 3, 1) := by decide +kernel
theorem d5 : decode yB 5 = .ok (.ifCond (.ne) 22, 3) := by decide +kernel
theorem d27 : decode yB 27 = .ok (.getstatic 38, 3) := by decide +kernel
theorem d30 : decode yB 30 = .ok (.ifCond (.eq) 28, 3) := by decide +kernel
theorem d33 : decode yB 33 = .ok (.aload_n 1, 1) := by decide +kernel
theorem d34 : decode yB 34 = .ok (.iload_n 2, 1) := by decide +kernel
theorem d35 : decode yB 35 = .ok (.iload_n 3, 1) := by decide +kernel
theorem d36 : decode yB 36 = .ok (.invokestatic 177, 3) := by decide +kernel
theorem d39 : decode yB 39 = .ok (.astore 5, 2) := by decide +kernel
theorem d41 : decode yB 41 = .ok (.aload_n 0, 1) := by decide +kernel
theorem d42 : decode yB 42 = .ok (.aload 5, 2) := by decide +kernel
theorem d44 : decode yB 44 = .ok (.iload_n 3, 1) := by decide +kernel
theorem d45 : decode yB 45 = .ok (.invokestatic 47, 3) := by decide +kernel
theorem d48 : decode yB 48 = .ok (.putfield 15, 3) := by decide +kernel
theorem d51 : decode yB 51 = .ok (.aload_n 0, 1) := by decide +kernel
theorem d52 : decode yB 52 = .ok (.aload 5, 2) := by decide +kernel
theorem d54 : decode yB 54 = .ok (.putfield 9, 3) := by decide +kernel
theorem d57 : decode yB 57 = .ok (.return_, 1) := by decide +kernel
def site : List Cond := [.fieldLink "java/lang/String" 38 "java/lang/String" "COMPACT_STRINGS" "Z", Cmp3.tab, CodL.tab, .laysFinal "java/lang/String" "java/lang/String" "value" "[B", .fieldLink "java/lang/String" 9 "java/lang/String" "value" "[B", .laysFinal "java/lang/String" "java/lang/String" "coder" "B", .fieldLink "java/lang/String" 15 "java/lang/String" "coder" "B"] ++ objW "java/lang/String" 1 ++ staticW "java/lang/String" 177 Cmp3.yN ++ staticW "java/lang/String" 47 CodL.yN
def tab : Cond := tabOf yN yB 6 none site
def P (a : Addr) (D : Cell) (fV fC : Field) (b : Addr) (A : Cell) (z : Int32) (o len : Nat) (args : Array Value) (s : State) : Prop := args = #[.ref a, .ref b, .int (Int32.ofNat o), .int (Int32.ofNat len), .null] ∧ Blank "java/lang/String" a D s ∧ Found "java/lang/String" "value" "[B" fV s ∧ Found "java/lang/String" "coder" "B" fC s ∧ Ch b A s ∧ StaticIs s "java/lang/String" "COMPACT_STRINGS" "Z" (.int z) ∧ ¬ z = 0 ∧ 0 < len ∧ o + len ≤ A.slots.size ∧ len ≤ 536870912 ∧ ∀ i, i < len → ¬ 255 < cv A (o + i)
def E (a : Addr) (D : Cell) (fV fC : Field) (A : Cell) (o len : Nat) (r : Option Value) (s u : State) : Prop := Got a D fV fC A o len r s u
/-- len > 0, no char of the range above 255: a Latin-1 String of their low bytes -/
theorem law (l : Launch) (a : Addr) (D : Cell) (fV fC : Field) (b : Addr) (A : Cell) (z : Int32) (o len : Nat) : Law l yN 5 4 2 35 yB 6 none site (P a D fV fC b A z o len) (E a D fV fC A o len) [⟨a, fC.slot⟩, ⟨a, fV.slot⟩] 1 len := by
  refine Law.of_walk (plainFor_of_name (by decide +kernel)) (by decide +kernel) (by decide +kernel) (by decide) (fun _ _ h => by rw [h.1]; rfl) (fun _ U U' hal hh h => ⟨h.1, h.2.1.mv hal hh, h.2.2.1.al hal, h.2.2.2.1.al hal, h.2.2.2.2.1.mv hal hh, h.2.2.2.2.2.1.there hal hh, h.2.2.2.2.2.2⟩) (fun r U U' V V' h1 hal h2 h => Got.mv r U U' V V' h1 hal h2 h) ?_
  intro p e s m args below meth c s₁ X0 hexec hbytes hml hret hlk hnm hown hh0 W hP
  obtain ⟨rfl, hB, f1, f2, hA, s1, hz, l0, l1, l2, hp⟩ := hP
  have a31 := hA.1.2.2.2
  have c1 : Steps p.tables e below (s₁.setTop (entryFrame m #[.ref a, .ref b, .int (Int32.ofNat o), .int (Int32.ofNat len), .null] 6)) (s₁.setTop (mkF m 0 #[.val (.ref a), .val (.ref b), .val (.int (Int32.ofNat o)), .val (.int (Int32.ofNat len)), .val .null, .unset] [])) := entry rfl
  have c2 : Steps p.tables e below (s₁.setTop (entryFrame m #[.ref a, .ref b, .int (Int32.ofNat o), .int (Int32.ofNat len), .null] 6)) (s₁.setTop (mkF m 1 #[.val (.ref a), .val (.ref b), .val (.int (Int32.ofNat o)), .val (.int (Int32.ofNat len)), .val .null, .unset] [.ref a])) := c1.trans (by
    refine XS.aloadN X0.here hexec rfl (hb hbytes d0) rfl rfl ?_
    exact Steps.refl _)
  obtain ⟨T3, X3, q3, st3⟩ := X0.oinit hexec hown (wks W (objW "java/lang/String" 1)) (g := (mkF m 1 #[.val (.ref a), .val (.ref b), .val (.int (Int32.ofNat o)), .val (.int (Int32.ofNat len)), .val .null, .unset] [.ref a])) rfl (by rw [hml]; rfl) (rest := []) rfl (hb hbytes d1) (W := 0) (by show 2 * 0 + 0 ≤ _; decide) (Nat.le_of_ble_eq_true rfl) (Nat.le_of_ble_eq_true rfl)
  have hh3 := q3.trans hh0
  have c4 : Steps p.tables e below (s₁.setTop (entryFrame m #[.ref a, .ref b, .int (Int32.ofNat o), .int (Int32.ofNat len), .null] 6)) (T3.setTop (mkF m 27 #[.val (.ref a), .val (.ref b), .val (.int (Int32.ofNat o)), .val (.int (Int32.ofNat len)), .val .null, .unset] [])) := (c2.trans (st3 _ (Steps.refl _))).trans (by
    refine XS.iloadN X3.here hexec rfl (hb hbytes d4) rfl ?_
    refine XS.ifYes X3.here hexec rfl (pc0 := 5) rfl (hb hbytes d5) rfl (i0_ne_t (nz32 (by omega) l0)) (by decide) rfl ?_
    exact Steps.refl _)
  obtain ⟨T5, X5, q5, st5⟩ := X3.sget hexec hown (wk W (.fieldLink "java/lang/String" 38 "java/lang/String" "COMPACT_STRINGS" "Z")) s1 (fun _ _ h => by rw [hh3]; exact h) (g := (mkF m 27 #[.val (.ref a), .val (.ref b), .val (.int (Int32.ofNat o)), .val (.int (Int32.ofNat len)), .val .null, .unset] [])) rfl (hb hbytes d27)
  have hh5 := q5.trans hh3
  have c6 : Steps p.tables e below (s₁.setTop (entryFrame m #[.ref a, .ref b, .int (Int32.ofNat o), .int (Int32.ofNat len), .null] 6)) (T5.setTop (mkF m 30 #[.val (.ref a), .val (.ref b), .val (.int (Int32.ofNat o)), .val (.int (Int32.ofNat len)), .val .null, .unset] [.int z])) := c4.trans (st5 _ (Steps.refl _))
  have c7 : Steps p.tables e below (s₁.setTop (entryFrame m #[.ref a, .ref b, .int (Int32.ofNat o), .int (Int32.ofNat len), .null] 6)) (T5.setTop (mkF m 36 #[.val (.ref a), .val (.ref b), .val (.int (Int32.ofNat o)), .val (.int (Int32.ofNat len)), .val .null, .unset] [.int (Int32.ofNat len), .int (Int32.ofNat o), .ref b])) := c6.trans (by
    refine XS.ifNo X5.here hexec rfl (hb hbytes d30) rfl (i0_eq_f hz) ?_
    refine XS.aloadN X5.here hexec rfl (hb hbytes d33) rfl rfl ?_
    refine XS.iloadN X5.here hexec rfl (hb hbytes d34) rfl ?_
    refine XS.iloadN X5.here hexec rfl (hb hbytes d35) rfl ?_
    exact Steps.refl _)
  obtain ⟨v8, T8, X8, E8, g8⟩ := X5.callS hexec (Cmp3.law l b A o len) hown (wks W (staticW "java/lang/String" 177 Cmp3.yN)) (wk W Cmp3.tab) (W := 0) (Nat.le_of_ble_eq_true rfl) (Nat.le_of_ble_eq_true rfl) (Nat.le_refl _) (by show 0 + len ≤ len; omega) (g := (mkF m 36 #[.val (.ref a), .val (.ref b), .val (.int (Int32.ofNat o)), .val (.int (Int32.ofNat len)), .val .null, .unset] [.int (Int32.ofNat len), .int (Int32.ofNat o), .ref b])) rfl (by rw [hml]; rfl) c7 (argsL := [.ref b, .int (Int32.ofNat o), .int (Int32.ofNat len)]) (rest := []) rfl rfl (by show 2 * 0 + 0 ≤ _; decide) (hb hbytes d36) (⟨rfl, hA.mv X5.warmed.alike hh5, l1, l2, hp⟩)
  obtain ⟨e8, z8⟩ := E8
  obtain ⟨rfl, N, n1, n2, n3, n4, n5, n6⟩ := NewArr.mv _ T5 s _ _ hh5.symm (Vm.Alike.refl _) rfl e8
  rw [hh5] at z8
  have hB1 := hB.keep X8.warmed.alike (n6 _ _ hB.1)
  have hne : s.heap.size ≠ a := (Nat.ne_of_lt (Array.getElem?_eq_some_iff.mp hB.1).1).symm
  have c9 : Steps p.tables e below (s₁.setTop (entryFrame m #[.ref a, .ref b, .int (Int32.ofNat o), .int (Int32.ofNat len), .null] 6)) (T8.setTop (mkF m 39 #[.val (.ref a), .val (.ref b), .val (.int (Int32.ofNat o)), .val (.int (Int32.ofNat len)), .val .null, .unset] [.ref s.heap.size])) := g8
  have c10 : Steps p.tables e below (s₁.setTop (entryFrame m #[.ref a, .ref b, .int (Int32.ofNat o), .int (Int32.ofNat len), .null] 6)) (T8.setTop (mkF m 45 #[.val (.ref a), .val (.ref b), .val (.int (Int32.ofNat o)), .val (.int (Int32.ofNat len)), .val .null, .val (.ref s.heap.size)] [.int (Int32.ofNat N.slots.size), .ref s.heap.size, .ref a])) := by
    have hc : Steps p.tables e below (s₁.setTop (entryFrame m #[.ref a, .ref b, .int (Int32.ofNat o), .int (Int32.ofNat len), .null] 6)) (T8.setTop (mkF m 45 #[.val (.ref a), .val (.ref b), .val (.int (Int32.ofNat o)), .val (.int (Int32.ofNat len)), .val .null, .val (.ref s.heap.size)] [.int (Int32.ofNat len), .ref s.heap.size, .ref a])) := c9.trans (by
      refine XS.astore X8.here hexec rfl (hb hbytes d39) rfl rfl rfl ?_
      refine XS.aloadN X8.here hexec rfl (hb hbytes d41) rfl rfl ?_
      refine XS.aload X8.here hexec rfl (hb hbytes d42) rfl rfl ?_
      refine XS.iloadN X8.here hexec rfl (hb hbytes d44) rfl ?_
      exact Steps.refl _)
    rw [n4]; exact hc
  obtain ⟨v11, T11, X11, E11, g11⟩ := X8.callS hexec (CodL.law l s.heap.size N) hown (wks W (staticW "java/lang/String" 47 CodL.yN)) (wk W CodL.tab) (W := 1) (Nat.le_of_ble_eq_true rfl) (Nat.le_of_ble_eq_true rfl) (Nat.le_refl _) (by show 0 + len + 0 ≤ len; omega) (g := (mkF m 45 #[.val (.ref a), .val (.ref b), .val (.int (Int32.ofNat o)), .val (.int (Int32.ofNat len)), .val .null, .val (.ref s.heap.size)] [.int (Int32.ofNat N.slots.size), .ref s.heap.size, .ref a])) rfl (by rw [hml]; rfl) c10 (argsL := [.ref s.heap.size, .int (Int32.ofNat N.slots.size)]) (rest := [.ref a]) rfl rfl (by show 2 * 0 + (1 + 0) ≤ _; decide) (hb hbytes d45) (⟨rfl, n1⟩)
  obtain ⟨rfl, q11⟩ := E11
  have hB11 := hB1.mv (X8.warmed.alike.symm.trans X11.warmed.alike) q11
  have c12 : Steps p.tables e below (s₁.setTop (entryFrame m #[.ref a, .ref b, .int (Int32.ofNat o), .int (Int32.ofNat len), .null] 6)) (T11.setTop (mkF m 48 #[.val (.ref a), .val (.ref b), .val (.int (Int32.ofNat o)), .val (.int (Int32.ofNat len)), .val .null, .val (.ref s.heap.size)] [.int 0, .ref a])) := g11
  obtain ⟨T13, X13, p13, bl13, sl13, st13⟩ := X11.finit hexec hown (wk W (.fieldLink "java/lang/String" 15 "java/lang/String" "coder" "B")) (Or.inr ⟨_, (wk W (.laysFinal "java/lang/String" "java/lang/String" "coder" "B"))⟩) (Or.inl ⟨rfl, hnm⟩) f2 (Or.inl rfl) hB11 (t := .byte) (by decide +kernel) rfl (g := (mkF m 48 #[.val (.ref a), .val (.ref b), .val (.int (Int32.ofNat o)), .val (.int (Int32.ofNat len)), .val .null, .val (.ref s.heap.size)] [.int 0, .ref a])) rfl (rest := []) rfl (hb hbytes d48)
  have c14 : Steps p.tables e below (s₁.setTop (entryFrame m #[.ref a, .ref b, .int (Int32.ofNat o), .int (Int32.ofNat len), .null] 6)) (T13.setTop (mkF m 54 #[.val (.ref a), .val (.ref b), .val (.int (Int32.ofNat o)), .val (.int (Int32.ofNat len)), .val .null, .val (.ref s.heap.size)] [.ref s.heap.size, .ref a])) := (c12.trans (st13 _ (Steps.refl _))).trans (by
    refine XS.aloadN X13.here hexec rfl (hb hbytes d51) rfl rfl ?_
    refine XS.aload X13.here hexec rfl (hb hbytes d52) rfl rfl ?_
    exact Steps.refl _)
  obtain ⟨T15, X15, p15, bl15, sl15, st15⟩ := X13.finit hexec hown (wk W (.fieldLink "java/lang/String" 9 "java/lang/String" "value" "[B")) (Or.inr ⟨_, (wk W (.laysFinal "java/lang/String" "java/lang/String" "value" "[B"))⟩) (Or.inl ⟨rfl, hnm⟩) f1 (Or.inl rfl) bl13 (t := (.array .byte)) (by decide +kernel) rfl (g := (mkF m 54 #[.val (.ref a), .val (.ref b), .val (.int (Int32.ofNat o)), .val (.int (Int32.ofNat len)), .val .null, .val (.ref s.heap.size)] [.ref s.heap.size, .ref a])) rfl (rest := []) rfl (hb hbytes d54)
  have c16 : Steps p.tables e below (s₁.setTop (entryFrame m #[.ref a, .ref b, .int (Int32.ofNat o), .int (Int32.ofNat len), .null] 6)) (T15.setTop (mkF m 57 #[.val (.ref a), .val (.ref b), .val (.int (Int32.ofNat o)), .val (.int (Int32.ofNat len)), .val .null, .val (.ref s.heap.size)] [])) := c14.trans (st15 _ (Steps.refl _))
  have ap := apart (Or.inr ⟨_, (wk W (.laysFinal "java/lang/String" "java/lang/String" "value" "[B"))⟩) (Or.inr ⟨_, (wk W (.laysFinal "java/lang/String" "java/lang/String" "coder" "B"))⟩) f1 f2 (t₁ := .array .byte) (t₂ := .byte) (by decide +kernel) (by decide +kernel) (by decide)
  have al := X8.warmed.alike.symm.trans X15.warmed.alike
  have n7 : T11.heap[s.heap.size]? = some N := by rw [q11]; exact n1.1
  exact ⟨T15, none, _, _, _, X15, by simp, rfl, by omega, (fun _ => rfl), ⟨rfl, _, N, bl15, ((Same.refl D _).set _ (by simp)).set _ (by simp), sl15, (Cell.slots_setSlot_ne _ ap).trans sl13, n1.keep al (p15.other hne (p13.other hne n7)), n2, by rw [al.findClass]; exact n3, n4, n5, fun y c h1 h2 => p15.other h1 (p13.other h1 (by rw [q11]; exact n6 y c h2)), by rw [p15.2.2, p13.2.2, q11]; exact z8⟩, fun fs hl => c16.trans (X15.returnOut hexec hret (hb hbytes d57) hl)⟩
end New4
namespace New1
def yN : MethodName := ⟨"java/lang/String", "<init>", "([C)V"⟩
abbrev yB : ByteArray := jdk_42_method_3_code
theorem d0 : decode yB 0 = .ok (.aload_n 0, 1) := by decide +kernel
theorem d1 : decode yB 1 = .ok (.aload_n 1, 1) := by decide +kernel
theorem d2 : decode yB 2 = .ok (.iconst 0, 1) := by decide +kernel
theorem d3 : decode yB 3 = .ok (.aload_n 1, 1) := by decide +kernel
theorem d4 : decode yB 4 = .ok (.arraylength, 1) := by decide +kernel
theorem d5 : decode yB 5 = .ok (.aconst_null, 1) := by decide +kernel
theorem d6 : decode yB 6 = .ok (.invokespecial 27, 3) := by decide +kernel
theorem d9 : decode yB 9 = .ok (.return_, 1) := by decide +kernel
def site : List Cond := [New4.tab] ++ initW "java/lang/String" 27 New4.yN
def tab : Cond := tabOf yN yB 2 none site
def P (a : Addr) (D : Cell) (fV fC : Field) (b : Addr) (A : Cell) (z : Int32) (args : Array Value) (s : State) : Prop := args = #[.ref a, .ref b] ∧ Blank "java/lang/String" a D s ∧ Found "java/lang/String" "value" "[B" fV s ∧ Found "java/lang/String" "coder" "B" fC s ∧ Ch b A s ∧ StaticIs s "java/lang/String" "COMPACT_STRINGS" "Z" (.int z) ∧ ¬ z = 0 ∧ 0 < A.slots.size ∧ A.slots.size ≤ 536870912 ∧ ∀ i, i < A.slots.size → ¬ 255 < cv A i
def E (a : Addr) (D : Cell) (fV fC : Field) (A : Cell) (r : Option Value) (s u : State) : Prop := Got a D fV fC A 0 A.slots.size r s u
/-- new String(chars), not empty, no char above 255: a Latin-1 String of their low bytes -/
theorem law (l : Launch) (a : Addr) (D : Cell) (fV fC : Field) (b : Addr) (A : Cell) (z : Int32) : Law l yN 2 1 3 52 yB 2 none site (P a D fV fC b A z) (E a D fV fC A) [⟨a, fC.slot⟩, ⟨a, fV.slot⟩] 1 A.slots.size := by
  refine Law.of_walk (plainFor_of_name (by decide +kernel)) (by decide +kernel) (by decide +kernel) (by decide) (fun _ _ h => by rw [h.1]; rfl) (fun _ U U' hal hh h => ⟨h.1, h.2.1.mv hal hh, h.2.2.1.al hal, h.2.2.2.1.al hal, h.2.2.2.2.1.mv hal hh, h.2.2.2.2.2.1.there hal hh, h.2.2.2.2.2.2⟩) (fun r U U' V V' h1 hal h2 h => Got.mv r U U' V V' h1 hal h2 h) ?_
  intro p e s m args below meth c s₁ X0 hexec hbytes hml hret hlk hnm hown hh0 W hP
  obtain ⟨rfl, hB, f1, f2, hA, s1, hz, l0, l2, hp⟩ := hP
  have c1 : Steps p.tables e below (s₁.setTop (entryFrame m #[.ref a, .ref b] 2)) (s₁.setTop (mkF m 0 #[.val (.ref a), .val (.ref b)] [])) := entry rfl
  have c2 : Steps p.tables e below (s₁.setTop (entryFrame m #[.ref a, .ref b] 2)) (s₁.setTop (mkF m 6 #[.val (.ref a), .val (.ref b)] [.null, .int (Int32.ofNat A.slots.size), .int 0, .ref b, .ref a])) := c1.trans (by
    refine XS.aloadN X0.here hexec rfl (hb hbytes d0) rfl rfl ?_
    refine XS.aloadN X0.here hexec rfl (hb hbytes d1) rfl rfl ?_
    refine iconstV X0.here hexec rfl 0 (hb hbytes d2) (by decide) ?_
    refine XS.aloadN X0.here hexec rfl (hb hbytes d3) rfl rfl ?_
    refine X0.alen hexec (hA.1.mv X0.warmed.alike hh0) rfl rfl (hb hbytes d4) ?_
    refine XS.aconstNull X0.here hexec rfl (hb hbytes d5) ?_
    exact Steps.refl _)
  obtain ⟨v3, T3, X3, E3, g3⟩ := X0.callN hexec (New4.law l a D fV fC b A z 0 A.slots.size) rfl hown (wks W (initW "java/lang/String" 27 New4.yN)) (W New4.tab (by simp only [site, List.mem_cons, List.mem_append, true_or, or_true])) (W := 0) (Nat.le_of_ble_eq_true rfl) (Nat.le_of_ble_eq_true rfl) (Nat.le_refl _) (by show 0 + A.slots.size ≤ A.slots.size; omega) (g := (mkF m 6 #[.val (.ref a), .val (.ref b)] [.null, .int (Int32.ofNat A.slots.size), .int (Int32.ofNat 0), .ref b, .ref a])) rfl (by rw [hml]; rfl) c2 (argsL := [.ref b, .int (Int32.ofNat 0), .int (Int32.ofNat A.slots.size), .null]) (rest := []) rfl rfl (by show 2 * 0 + 0 ≤ _; decide) (hb hbytes d6) (⟨rfl, hB.mv X0.warmed.alike hh0, f1.al X0.warmed.alike, f2.al X0.warmed.alike, hA.mv X0.warmed.alike hh0, s1.there X0.warmed.alike hh0, hz, l0, by omega, l2, fun i hi => by rw [Nat.zero_add]; exact hp i hi⟩)
  have e0 := Got.mv _ s₁ s _ _ hh0.symm (Vm.Alike.refl _) rfl E3
  obtain rfl := e0.1
  have c4 : Steps p.tables e below (s₁.setTop (entryFrame m #[.ref a, .ref b] 2)) (T3.setTop (mkF m 9 #[.val (.ref a), .val (.ref b)] [])) := g3
  exact ⟨T3, none, _, _, _, X3, by simp, rfl, by omega, (fun _ => rfl), e0, fun fs hl => c4.trans (X3.returnOut hexec hret (hb hbytes d9) hl)⟩
theorem pays {l : Launch} {R : Room} {p : Program} {e : Env} {below : List Frame} {s : State} {sargs : Array Value} {len W : Nat} (a : Addr) (D : Cell) (fV fC : Field) (b : Addr) (A : Cell) (z : Int32) (htab : tab.before sargs s = true) (hfr : 4 ≤ R.frames) (hlo : W + 65 ≤ R.locals) :
    Back l R p e below s sargs yN len W (fun A₁ a₁ => A₁.cells + 1 ≤ R.cells ∧ A₁.slots + A.slots.size ≤ R.slots ∧ P a D fV fC b A z a₁ A₁.U) (fun A₁ _ v₁ B₁ => E a D fV fC A v₁ A₁.U B₁.U ∧ B₁.locs = A₁.locs ++ [⟨a, fC.slot⟩, ⟨a, fV.slot⟩] ∧ B₁.cells = A₁.cells + 1 ∧ B₁.slots = A₁.slots + A.slots.size) :=
  (law l a D fV fC b A z).pays htab hfr (by omega)
end New1
/-- the byte, read back as charAt reads it, is the char -/
theorem lo8_mask {x : Int32} (h0 : ¬ x < 0) (h1 : ¬ 255 < x) : lo8 x &&& 255 = x := by
  have t : ∀ k : Fin 256, lo8 (Int32.ofNat k.val) &&& 255 = Int32.ofNat k.val := by decide +kernel
  rw [Int32.lt_iff_toInt_lt] at h0 h1
  have e0 : (0 : Int32).toInt = 0 := rfl
  have e1 : (255 : Int32).toInt = 255 := rfl
  obtain ⟨k, hk⟩ : ∃ k : Nat, x.toInt = k := ⟨x.toInt.toNat, by omega⟩
  have hx : x = Int32.ofNat k := Int32.toInt_inj.mp (by rw [hk, Int32.toInt_ofNat_small (by omega)])
  rw [hx]
  exact t ⟨k, by omega⟩
end StrChars
namespace StrChars.Road
open Jvm Sem ClassFile Op Lib Jvm.Stand Jvm.Free Jvm.Free.XT
open Jvm.Lib.Cold (StaticIs)
abbrev ST : String := "java/lang/String"
/-- every table word that New1's law asks, flat -/
abbrev words : List Jvm.Cond := [.code New1.yN New1.yB 2 none, .initialized ST, .methodLink ST 27 New4.yN, .instanceMethod New4.yN,
  .code New4.yN New4.yB 6 none, .fieldLink ST 38 ST "COMPACT_STRINGS" "Z", .laysFinal ST ST "value" "[B", .fieldLink ST 9 ST "value" "[B", .laysFinal ST ST "coder" "B", .fieldLink ST 15 ST "coder" "B",
  .methodLink ST 1 Lib.objectInit, .instanceMethod Lib.objectInit, .code Lib.objectInit ⟨#[0xb1]⟩ 1 none, .methodLink ST 177 Cmp3.yN, .static Cmp3.yN, .methodLink ST 47 CodL.yN, .static CodL.yN,
  .code Cmp3.yN Cmp3.yB 6 (some (.array .byte)), .initialized U16, .arrayClass .byte, .methodLink U16 115 Cmp5.yN, .static Cmp5.yN, .code Cmp5.yN Cmp5.yB 7 (some .int), .code CodL.yN CodL.yB 2 (some .byte)]
theorem tab_of {a : Array Value} {s : State} (h : ∀ w ∈ words, w.before a s = true) : New1.tab.before a s = true := by
  have h5 : Cmp5.tab.before a s = true := unparts (wk h (.code Cmp5.yN Cmp5.yB 7 (some .int))) (wks h (.initialized Cmp5.yN.cls :: Cmp5.site))
  have hc : CodL.tab.before a s = true := unparts (wk h (.code CodL.yN CodL.yB 2 (some .byte))) (wks h (.initialized CodL.yN.cls :: CodL.site))
  have q5 : ∀ w ∈ Cmp5.tab :: words, w.before a s = true := fun w hw => (List.mem_cons.mp hw).elim (fun e => e ▸ h5) (h w)
  have h3 : Cmp3.tab.before a s = true := unparts (wk q5 (.code Cmp3.yN Cmp3.yB 6 (some (.array .byte)))) (wks q5 (.initialized Cmp3.yN.cls :: Cmp3.site))
  have q3 : ∀ w ∈ Cmp3.tab :: CodL.tab :: words, w.before a s = true := fun w hw => (List.mem_cons.mp hw).elim (fun e => e ▸ h3) fun hw => (List.mem_cons.mp hw).elim (fun e => e ▸ hc) (h w)
  have h4 : New4.tab.before a s = true := unparts (wk q3 (.code New4.yN New4.yB 6 none)) (wks q3 (.initialized New4.yN.cls :: New4.site))
  have q4 : ∀ w ∈ New4.tab :: words, w.before a s = true := fun w hw => (List.mem_cons.mp hw).elim (fun e => e ▸ h4) (h w)
  exact unparts (wk q4 (.code New1.yN New1.yB 2 none)) (wks q4 (.initialized New1.yN.cls :: New1.site))
/-- the words ride from the start Z to the walk's own state -/
theorem moved {Z s : State} {a0 args : Array Value} (hZ : Z.Warmed39 s.vm) (hw : ∀ d ∈ words, d.before a0 Z = true) : ∀ d ∈ words, d.before args s = true := fun d hd => by
  have q := hw d hd
  have t : ∀ d ∈ words, d = .arrayClass .byte ∨ (d.onTables && d.keepsFace) = true := by decide +kernel
  rcases t d hd with rfl | t
  · exact RoadKit.mvA hZ q
  · exact RoadKit.mv hZ q t
/-- WHAT COMES BACK, over the tables of the start Z: h the heap at the call, h' behind it -/
def Q (Z : State) (x : Addr) (A : Cell) (h : Heap) (v : Option Value) (h' : Heap) (L : List Loc) : Prop := v = none ∧ (∀ y ∈ L, y.base = x) ∧ RoadKit.Keep h h' [x] ∧ h'.size = h.size + 1 ∧ RoadKit.Exa Z h' x ST ∧ RoadKit.Fld Z h' x ST "value" "[B" (.ref h.size) ∧ RoadKit.Fld Z h' x ST "coder" "B" (.int 0) ∧
  (∃ V : Cell, RoadKit.Arr Z h' h.size V .byte ∧ V.vm = .none ∧ Z.vm.findClass "[B" = some V.cls ∧ V.slots.size = A.slots.size ∧ ∀ j, j < A.slots.size → V.slots[j]? = some (.int (lo8 (cv A j)))) ∧
  ∀ (O n d : String) (w : Value), RoadKit.Fld Z h x O n d w → RoadKit.slotOf Z O n d ≠ RoadKit.slotOf Z ST "value" "[B" → RoadKit.slotOf Z O n d ≠ RoadKit.slotOf Z ST "coder" "B" → RoadKit.Fld Z h' x O n d w
/-- **new String(chars) AT A CALL, IN THE ROAD'S FORM**: for specialBack behind newO: x the fresh String, b the char[] with the cell A -/
theorem back {p : Program} {l : Launch} {e : Env} {R : Room} {s : State} {args : Array Value} {below : List Frame} {len W : Nat} {Z : State} {a0 : Array Value} {h : Heap} (hZ : Z.Warmed39 s.vm) (hw : ∀ d ∈ words, d.before a0 Z = true) {kI : Nat} (wi : (Jvm.Cond.instantiable ST kI).before a0 Z = true)
    {x b : Addr} {A : Cell} {z : Int32} {v0 c0 : Value} (E : RoadKit.Exa Z h x ST) (V : RoadKit.Fld Z h x ST "value" "[B" v0) (C : RoadKit.Fld Z h x ST "coder" "B" c0) (K : RoadKit.Arr Z h b A .char) (hty : Typed .char A) (S : RoadKit.Sta Z h ST "COMPACT_STRINGS" "Z" (.int z)) (hz : ¬ z = 0)
    (l0 : 0 < A.slots.size) (l2 : A.slots.size ≤ 536870912) (hp : ∀ i, i < A.slots.size → ¬ 255 < cv A i) (hfr : 4 ≤ R.frames) (hlo : W + 65 ≤ R.locals) :
    Back l R p e below s args New1.yN len W (fun P a => a = #[.ref x, .ref b] ∧ P.U.heap = h ∧ P.cells + 1 ≤ R.cells ∧ P.slots + A.slots.size ≤ R.slots)
      (fun P _ v B => ∃ L, Q Z x A h v B.U.heap L ∧ B.locs = P.locs ++ L ∧ B.cells = P.cells + 1 ∧ B.slots = P.slots + A.slots.size) := by
  intro m meth c P g ig mk a X hg hsize hdg hW hn hp'
  obtain ⟨rfl, rfl, r1, r2⟩ := hp'
  have al : Z.vm.Alike P.U.vm := hZ.alike.trans X.warmed.alike
  obtain ⟨D, cfV, kV, iV, fV, hD, gV, stV, knV, obV, asV, slV⟩ := id V
  obtain ⟨D', cfC, kC, iC, fC, hD', gC, stC, -, -, asC, slC⟩ := id C
  cases hD.symm.trans hD'
  obtain ⟨D2, kD, e1, e2, e3, e4, e5⟩ := id E
  cases hD.symm.trans e1
  obtain ⟨c2, k2, i1, i2, i3, -⟩ := Cond.instantiable_spec wi
  cases e2.symm.trans i1
  cases e3.symm.trans i2
  obtain ⟨kU, u1, u2⟩ := al.2.2 _ _ e3
  have hB : Blank ST x D P.U := ⟨hD, ⟨knV, fun q hq => by rw [hq] at obV; cases obV⟩, by rw [al.findClass]; exact e2, kU, u1, by rw [u2]; exact i3, by rw [u2]; exact e5 i3⟩
  have F1 : Found ST "value" "[B" fV P.U := ⟨SBG.found_only al ⟨cfV, kV, iV, gV⟩, stV⟩
  have F2 : Found ST "coder" "B" fC P.U := ⟨SBG.found_only al ⟨cfC, kC, iC, gC⟩, stC⟩
  have hA : Ch b A P.U := ⟨⟨K.1, State.isArrayOf_alike al K.2.1, K.2.2, by omega⟩, hty⟩
  have hS : StaticIs P.U ST "COMPACT_STRINGS" "Z" (.int z) := by
    obtain ⟨cfS, iS, kS, fS, st, cS, t1, t2, t3, t4, t5, t6, t7⟩ := S
    exact StaticIs.there (s := { Z with heap := P.U.heap }) ⟨cfS, iS, kS, fS, st, cS, t1, t2, t3, t4, t5, (fun q => by rw [q] at t6; cases t6), t7⟩ al rfl
  obtain ⟨v, B, X', ⟨⟨hv, E', V', q1, q2, q3, q4, q5, q6, q7, q8, q9, q10, q11⟩, hl, hc, hs⟩, st⟩ := New1.pays x D fV fC b A z (tab_of (moved hZ hw)) hfr hlo m meth c P g ig mk _ X hg hsize hdg hW hn ⟨r1, r2, rfl, hB, F1, F2, hA, hS, hz, l0, l2, hp⟩
  have al' : Z.vm.Alike B.U.vm := hZ.alike.trans X'.warmed.alike
  have hsz : E'.slots.size = D.slots.size := by
    obtain ⟨-, -, -, kB, w1, w2, w3⟩ := q1
    obtain ⟨kB', y1, y2⟩ := al'.2.2 _ _ e3
    rw [q2.2.1] at w1
    cases w1.symm.trans y1
    rw [w3, e5 i3, y2]
  refine ⟨v, B, X', ⟨_, ⟨hv, ?_, ⟨by omega, fun y cy hy hn' => q10 y cy (by simpa using hn') hy, fun y cy hy => ?_⟩, q11, ⟨E', _, q1.1, by rw [q2.2.1]; exact e2, by rw [q2.2.1]; exact e3, by rw [q2.1]; exact obV, fun _ => by rw [hsz]; exact e5 i3⟩,
    ⟨E', cfV, kV, iV, fV, q1.1, gV, stV, by rw [q2.1]; exact knV, by rw [q2.1]; exact obV, by rw [q2.2.1]; exact asV, q3⟩, ⟨E', cfC, kC, iC, fC, q1.1, gC, stC, by rw [q2.1]; exact knV, by rw [q2.1]; exact obV, by rw [q2.2.1]; exact asC, q4⟩,
    ⟨V', ⟨q5.1, State.isArrayOf_alike al'.symm q5.2.1, q5.2.2.1⟩, q6, by rw [← al'.findClass]; exact q7, q8, fun j hj => by have := q9 j hj; rwa [Nat.zero_add] at this⟩, fun O n d w F n1 n2 => ?_⟩, hl, hc, hs⟩, st⟩
  · intro y hy
    simp only [List.mem_cons, List.not_mem_nil, or_false] at hy
    rcases hy with rfl | rfl <;> rfl
  · by_cases q : y = x
    · subst q
      cases hD.symm.trans hy
      exact ⟨E', q1.1, q2.2.1, q2.1, hsz⟩
    · exact ⟨cy, q10 y cy q hy, rfl, rfl, rfl⟩
  · obtain ⟨D3, cf, k, i, f, g1, g2, g3, g4, g5, g6, g7⟩ := F
    cases hD.symm.trans g1
    simp only [RoadKit.slotOf, g2, gV, gC, Option.map_some, Option.getD_some] at n1 n2
    exact ⟨E', cf, k, i, f, q1.1, g2, g3, by rw [q2.1]; exact g4, by rw [q2.1]; exact g5, by rw [q2.2.1]; exact g6, by rw [q2.2.2 f.slot (by simp [n1, n2])]; exact g7⟩
end StrChars.Road
namespace StrChars.Road
open Jvm Sem ClassFile Op Lib Jvm.Stand Jvm.Free Jvm.Free.XT
/-- WHAT COMES BACK, the byte[] as a list of values -/
def QA (Z : State) (x : Addr) (zn : Int32) (cs : List Int32) (h : Heap) (v : Option Value) (h' : Heap) (L : List Loc) : Prop := v = none ∧ (∀ y ∈ L, y.base = x) ∧ RoadKit.Keep h h' [x] ∧ h'.size = h.size + 1 ∧ RoadKit.Exa Z h' x ST ∧ RoadKit.Fld Z h' x ST "value" "[B" (.ref h.size) ∧ RoadKit.Fld Z h' x ST "coder" "B" (.int 0) ∧
  (∃ kb, Z.vm.findClass "[B" = some kb ∧ RoadKit.Arv Z h' h.size kb .byte zn (cs.map fun c => .int (lo8 c)) (.int 0)) ∧
  ∀ (O n d : String) (w : Value), RoadKit.Fld Z h x O n d w → RoadKit.slotOf Z O n d ≠ RoadKit.slotOf Z ST "value" "[B" → RoadKit.slotOf Z O n d ≠ RoadKit.slotOf Z ST "coder" "B" → RoadKit.Fld Z h' x O n d w
/-- **new String(chars) AT A CALL, THE ARRAYS AS LISTS**: the char[] at b holds cs, not empty, no char above 255 -/
theorem backArv {p : Program} {l : Launch} {e : Env} {R : Room} {s : State} {args : Array Value} {below : List Frame} {len W : Nat} {Z : State} {a0 : Array Value} {h : Heap} (hZ : Z.Warmed39 s.vm) (hw : ∀ d ∈ words, d.before a0 Z = true) {kI : Nat} (wi : (Jvm.Cond.instantiable ST kI).before a0 Z = true)
    {x b : Addr} {k : ClassId} {zn z : Int32} {cs : List Int32} {dv v0 c0 : Value} (E : RoadKit.Exa Z h x ST) (V : RoadKit.Fld Z h x ST "value" "[B" v0) (C : RoadKit.Fld Z h x ST "coder" "B" c0) (K : RoadKit.Arv Z h b k .char zn (cs.map Value.int) dv) (S : RoadKit.Sta Z h ST "COMPACT_STRINGS" "Z" (.int z)) (hz : ¬ z = 0)
    (hlen : zn.toNatClampNeg = cs.length) (h0 : 0 < cs.length) (hbig : cs.length ≤ 536870912) (hall : ∀ c ∈ cs, ¬ 255 < c) (hfr : 4 ≤ R.frames) (hlo : W + 65 ≤ R.locals) :
    Back l R p e below s args New1.yN len W (fun P a => a = #[.ref x, .ref b] ∧ P.U.heap = h ∧ P.cells + 1 ≤ R.cells ∧ P.slots + cs.length ≤ R.slots)
      (fun P _ v B => ∃ L, QA Z x zn cs h v B.U.heap L ∧ B.locs = P.locs ++ L ∧ B.cells = P.cells + 1 ∧ B.slots = P.slots + cs.length) := by
  obtain ⟨A, K1, K2, K3, K4, K5, K6⟩ := K
  have e : A.slots.size = cs.length := K3.trans hlen
  have hat : ∀ (i : Nat) (hi : i < cs.length), A.slots[i]? = some (.int cs[i]) := fun i hi => by rw [K5 i (by omega)]; simp [List.getD_eq_getElem?_getD, hi]
  have hcv : ∀ (i : Nat) (hi : i < cs.length), cv A i = cs[i] := fun i hi => by unfold cv; rw [hat i hi]
  have hty : Typed .char A := fun i v hv => by
    have hi : i < A.slots.size := (Array.getElem?_eq_some_iff.mp hv).1
    have q := K5 i hi
    rw [hv] at q
    rw [Option.some.inj q]
    exact K6 i hi
  refine Back.mono (back hZ hw wi E V C K1 hty S hz (by omega) (by omega) (fun i hi => by rw [hcv i (by omega)]; exact hall _ (List.getElem_mem _)) hfr hlo) (fun P a hp => ⟨hp.1, hp.2.1, hp.2.2.1, by rw [e]; exact hp.2.2.2⟩) (fun P a v B hp hq => ?_)
  obtain ⟨L, ⟨q1, q2, q3, q4, q5, q6, q7, ⟨V', v1, v2, v3, v4, v5⟩, q9⟩, hl, hc, hs⟩ := hq
  refine ⟨L, ⟨q1, q2, q3, q4, q5, q6, q7, ⟨V'.cls, v3, V', v1, rfl, by rw [v4, e, hlen], K4, fun i hi => ?_, fun i hi => ?_⟩, q9⟩, hl, hc, by rw [hs, e]⟩
  · have hi' : i < cs.length := by omega
    rw [v5 i (by omega), hcv i hi']; simp [List.getD_eq_getElem?_getD, hi']
  · have hi' : i < cs.length := by omega
    simp only [List.getD_eq_getElem?_getD, List.getElem?_map, List.getElem?_eq_getElem hi', Option.map_some, Option.getD_some]
    exact fits_lo8 _
end StrChars.Road
namespace StrChars.Road
open Jvm Sem ClassFile Op Lib Jvm.Stand Jvm.Free Jvm.Free.XT
/-- WHAT COMES BACK, in the writer's own shape -/
def QV (Z : State) (x : Addr) (N : Int32) (bs : List Int32) (h : Heap) (n0 : Nat) (v : Option Value) (h' : Heap) (L : List Loc) : Prop := v = none ∧ RoadKit.Fr n0 L ∧ RoadKit.Keep h h' [x] ∧ RoadKit.Exa Z h' x ST ∧ RoadKit.Fld Z h' x ST "coder" "B" (.int 0) ∧
  ∃ (t : Addr) (kb : ClassId), n0 ≤ t ∧ h.size ≤ t ∧ ¬ t = x ∧ RoadKit.Fld Z h' x ST "value" "[B" (.ref t) ∧ RoadKit.Arv Z h' t kb .byte N (bs.map Value.int) (.int 0)
/-- **new String(chars) AT A CALL, FOR THE WRITER**: a char[] of n known ints, each 0 to 255 -/
theorem backV {p : Program} {l : Launch} {e : Env} {R : Room} {s : State} {args : Array Value} {below : List Frame} {len W : Nat} {Z : State} {a0 : Array Value} {h : Heap} (hZ : Z.Warmed39 s.vm) (hw : ∀ d ∈ words, d.before a0 Z = true) {kI : Nat} (wi : (Jvm.Cond.instantiable ST kI).before a0 Z = true)
    {x b : Addr} {kC : ClassId} {cs bs : List Int32} {d v0 c0 : Value} {z N : Int32} {n n0 : Nat} (hx0 : n0 ≤ x) (hh0 : n0 ≤ h.size) (E : RoadKit.Exa Z h x ST) (V : RoadKit.Fld Z h x ST "value" "[B" v0) (C : RoadKit.Fld Z h x ST "coder" "B" c0) (K : RoadKit.Arv Z h b kC .char N (cs.map Value.int) d) (S : RoadKit.Sta Z h ST "COMPACT_STRINGS" "Z" (.int z)) (hz : ¬ z = 0)
    (hn : cs.length = n) (hN : N = Int32.ofNat n) (l0 : 0 < n) (l2 : n ≤ 4000) (hp : ∀ c ∈ cs, ¬ c < 0 ∧ ¬ (255 : Int32) < c) (hb : bs = cs.map (fun c => c.toInt8.toInt32)) (hfr : 4 ≤ R.frames) (hlo : W + 65 ≤ R.locals) :
    Back l R p e below s args (⟨"java/lang/String", "<init>", "([C)V"⟩ : MethodName) len W (fun P a => a = #[.ref x, .ref b] ∧ P.U.heap = h ∧ P.cells + 1 ≤ R.cells ∧ P.slots + n ≤ R.slots)
      (fun P _ v B => ∃ L, QV Z x N bs h n0 v B.U.heap L ∧ B.locs = P.locs ++ L ∧ B.cells = P.cells + 1 ∧ B.slots = P.slots + n) := by
  subst hn hN hb
  refine Back.mono (backArv hZ hw wi E V C K S hz (n32 (by omega)) l0 (by omega) (fun c hc => (hp c hc).2) hfr hlo) (fun P a hp => hp) (fun P a v B hp hq => ?_)
  obtain ⟨L, ⟨q1, q2, q3, q4, q5, q6, q7, ⟨kb, v1, v2⟩, q9⟩, hl, hc, hs⟩ := hq
  exact ⟨L, ⟨q1, fun y hy => by rw [q2 y hy]; exact hx0, q3, q5, q7, h.size, kb, hh0, Nat.le_refl _, Nat.ne_of_gt E.lt, q6, by rw [List.map_map]; exact v2⟩, hl, hc, hs⟩
end StrChars.Road
namespace StrChars
open Jvm Sem ClassFile Op Lib Jvm.Stand Jvm.Free.XT Jvm.Free.ALB Jvm.Free.JM Jvm.Free
open Jvm.Lib.Cold (StaticIs)
def hi8 (x : Int32) : Int32 := lo8 (x >>> ((8 : Int32) &&& 31))
/-- what StringUTF16.getChar makes of two bytes -/
def pairCh (u v : Int32) : Int32 := (((u &&& 255) <<< ((0 : Int32) &&& 31)) ||| ((v &&& 255) <<< ((8 : Int32) &&& 31))).toUInt32.toUInt16.toUInt32.toInt32
theorem shr0 (c : Int32) : c >>> ((0 : Int32) &&& 31) = c := by
  have e : ((0 : Int32) &&& 31) = 0 := by decide
  rw [e]
  apply Int32.toBitVec_inj.mp
  rw [Int32.toBitVec_shiftRight]
  have e1 : ((0 : Int32).toBitVec.smod 32) = 0#32 := by decide
  rw [e1, BitVec.sshiftRight_eq']
  exact BitVec.sshiftRight_zero
theorem lo8_and (x : Int32) : (lo8 x &&& 255).toBitVec.toNat = x.toBitVec.toNat % 256 := by
  have h : (lo8 x).toBitVec = (x.toBitVec.signExtend 8).signExtend 32 := by rw [lo8, Int8.toBitVec_toInt32, Int32.toBitVec_toInt8]
  rw [Int32.toBitVec_and, BitVec.toNat_and, h]
  have e : ((x.toBitVec.signExtend 8).signExtend 32).toNat % 256 = x.toBitVec.toNat % 256 := by
    rw [BitVec.toNat_signExtend]
    have hlt := x.toBitVec.isLt
    simp only [BitVec.toNat_setWidth, BitVec.toNat_signExtend]
    split <;> split <;> omega
  rw [← e]
  exact Nat.and_two_pow_sub_one_eq_mod _ 8
theorem pair_says {c : Int32} (h0 : ¬ c < 0) (h1 : ¬ 65535 < c) : pairCh (lo8 c) (hi8 c) = c := by
  rw [Int32.lt_iff_toInt_lt] at h0 h1
  have e0 : (0 : Int32).toInt = 0 := rfl
  have e1 : (65535 : Int32).toInt = 65535 := rfl
  have hc : c.toInt = c.toBitVec.toNat := by
    have := c.toBitVec.isLt
    have e : c.toInt = c.toBitVec.toInt := rfl
    rw [e] at h0 h1
    rw [e]
    rw [BitVec.toInt_eq_toNat_cond] at h0 h1 ⊢
    split at h0 <;> split <;> omega
  have hn : c.toBitVec.toNat < 65536 := by omega
  have a1 := lo8_and c
  have a2 : (hi8 c &&& 255).toBitVec.toNat = c.toBitVec.toNat / 256 := by
    rw [hi8, lo8_and]
    have e : ((8 : Int32) &&& 31) = 8 := by decide
    rw [e, Int32.toBitVec_shiftRight]
    have e2 : ((8 : Int32).toBitVec.smod 32) = 8#32 := by decide
    rw [e2, BitVec.sshiftRight_eq', BitVec.toNat_sshiftRight_of_msb_false (by rw [BitVec.msb_eq_false_iff_two_mul_lt]; omega)]
    show c.toBitVec.toNat >>> 8 % 256 = _
    rw [Nat.shiftRight_eq_div_pow]
    omega
  unfold pairCh
  apply Int32.toBitVec_inj.mp
  apply BitVec.eq_of_toNat_eq
  have f0 : ((0 : Int32) &&& 31) = 0 := by decide
  have f8 : ((8 : Int32) &&& 31) = 8 := by decide
  rw [f0, f8]
  have g : (((lo8 c &&& 255) <<< (0 : Int32)) ||| ((hi8 c &&& 255) <<< (8 : Int32))).toBitVec.toNat = c.toBitVec.toNat := by
    rw [Int32.toBitVec_or, Int32.toBitVec_shiftLeft, Int32.toBitVec_shiftLeft]
    have s0 : ((0 : Int32).toBitVec.smod 32) = 0#32 := by decide
    have s8 : ((8 : Int32).toBitVec.smod 32) = 8#32 := by decide
    rw [s0, s8, BitVec.toNat_or]
    simp only [BitVec.shiftLeft_eq', BitVec.toNat_shiftLeft, a1, a2]
    show (c.toBitVec.toNat % 256) <<< 0 % 2 ^ 32 ||| (c.toBitVec.toNat / 256) <<< 8 % 2 ^ 32 = _
    rw [Nat.shiftLeft_zero, Nat.mod_eq_of_lt (show c.toBitVec.toNat % 256 < 2 ^ 32 by omega), Nat.mod_eq_of_lt (show (c.toBitVec.toNat / 256) <<< 8 < 2 ^ 32 by rw [Nat.shiftLeft_eq]; omega), Nat.or_comm, ← Nat.shiftLeft_add_eq_or_of_lt (by omega), Nat.shiftLeft_eq]
    omega
  show BitVec.toNat (((((lo8 c &&& 255) <<< (0 : Int32)) ||| ((hi8 c &&& 255) <<< (8 : Int32))).toBitVec.setWidth 16).setWidth 32) = _
  rw [BitVec.toNat_setWidth, BitVec.toNat_setWidth, g]
  omega
end StrChars
namespace StrChars
open Jvm Sem ClassFile Op Lib Jvm.Stand Jvm.Free.XT Jvm.Free.ALB Jvm.Free.JM Jvm.Free
open Jvm.Lib.Cold (StaticIs)
theorem shr1 {n : Nat} (h : 2 * n < 2 ^ 31) : Int32.ofNat (2 * n) >>> ((1 : Int32) &&& 31) = Int32.ofNat n := by
  have e : ((1 : Int32) &&& 31) = 1 := by decide
  rw [e]
  apply Int32.toBitVec_inj.mp
  rw [Int32.toBitVec_shiftRight]
  have e1 : ((1 : Int32).toBitVec.smod 32) = 1#32 := by decide
  have hm : (BitVec.ofNat 32 (2 * n)).toNat = 2 * n := by rw [BitVec.toNat_ofNat, Nat.mod_eq_of_lt (by omega)]
  rw [e1, BitVec.sshiftRight_eq']
  apply BitVec.eq_of_toNat_eq
  show ((BitVec.ofNat 32 (2 * n)).sshiftRight 1).toNat = (BitVec.ofNat 32 n).toNat
  rw [BitVec.toNat_sshiftRight_of_msb_false (by rw [BitVec.msb_eq_false_iff_two_mul_lt, hm]; omega), hm, BitVec.toNat_ofNat, Nat.shiftRight_eq_div_pow]
  omega
/-- charAt's cast of a byte read back -/
def chr8 (u : Int32) : Int32 := (u &&& 255).toUInt32.toUInt16.toUInt32.toInt32
theorem chr8_lo8 {c : Int32} (h0 : ¬ c < 0) (h1 : ¬ 255 < c) : chr8 (lo8 c) = c := by
  have t : ∀ k : Fin 256, (Int32.ofNat k.val).toUInt32.toUInt16.toUInt32.toInt32 = Int32.ofNat k.val := by decide +kernel
  unfold chr8
  rw [lo8_mask h0 h1]
  rw [Int32.lt_iff_toInt_lt] at h0 h1
  have e0 : (0 : Int32).toInt = 0 := rfl
  have e1 : (255 : Int32).toInt = 255 := rfl
  obtain ⟨k, hk⟩ : ∃ k : Nat, c.toInt = k := ⟨c.toInt.toNat, by omega⟩
  have hx : c = Int32.ofNat k := Int32.toInt_inj.mp (by rw [hk, Int32.toInt_ofNat_small (by omega)])
  rw [hx]
  exact t ⟨k, by omega⟩
theorem narrow_ch {c : Int32} (h0 : ¬ c < 0) (h1 : ¬ 65535 < c) : narrow .char (.int c) = .int c := by
  have q : narrow .char (.int (pairCh (lo8 c) (hi8 c))) = .int (pairCh (lo8 c) (hi8 c)) := narrow_c _
  rwa [pair_says h0 h1] at q
/-- the array's cell V codes the n chars f 0 .. f (n - 1) by the coder cd, as the JDK does: coder 1 just where some char is above 255 -/
def Cod (cd : Int32) (n : Nat) (f : Nat → Int32) (V : Cell) : Prop := (cd = 0 ∧ V.slots.size = n ∧ ∀ j, j < n → V.slots[j]? = some (.int (lo8 (f j))) ∧ ¬ 255 < f j) ∨ (cd = 1 ∧ V.slots.size = 2 * n ∧ (∀ j, j < n → V.slots[2 * j]? = some (.int (lo8 (f j))) ∧ V.slots[2 * j + 1]? = some (.int (hi8 (f j)))) ∧ ∃ j, j < n ∧ 255 < f j)
theorem Cod.cd {cd : Int32} {n : Nat} {f : Nat → Int32} {V : Cell} (h : Cod cd n f V) : cd = 0 ∨ cd = 1 := h.imp (fun q => q.1) fun q => q.1
theorem Cod.len {cd : Int32} {n : Nat} {f : Nat → Int32} {V : Cell} (h : Cod cd n f V) (hs : V.slots.size < 2 ^ 31) : Int32.ofNat V.slots.size >>> (cd &&& 31) = Int32.ofNat n := by
  rcases h with ⟨rfl, h, -⟩ | ⟨rfl, h, -⟩
  · rw [shr0, h]
  · rw [h, shr1 (by omega)]
/-- **x is a String of the n chars f 0 .. f (n - 1)**, Latin-1 or UTF-16; its array at t has the cell V -/
def Txt (x t : Addr) (V : Cell) (cd : Int32) (n : Nat) (f : Nat → Int32) (U : State) : Prop := Exact "java/lang/String" x U ∧ Has x "java/lang/String" "value" "[B" (.ref t) U ∧ Has x "java/lang/String" "coder" "B" (.int cd) U ∧ XT.Arr .byte t V U ∧ Cod cd n f V ∧ ∀ j, j < n → ¬ f j < 0 ∧ ¬ 65535 < f j
theorem Txt.mv {x t : Addr} {V : Cell} {cd : Int32} {n : Nat} {f : Nat → Int32} {U U' : State} (h : Txt x t V cd n f U) (hal : U.vm.Alike U'.vm) (hh : U'.heap = U.heap) : Txt x t V cd n f U' := ⟨h.1.mv hal hh, h.2.1.mv hal hh, h.2.2.1.mv hal hh, h.2.2.2.1.mv hal hh, h.2.2.2.2⟩
namespace Cdr
def yN : MethodName := ⟨"java/lang/String", "coder", "()B"⟩
abbrev yB : ByteArray := jdk_42_method_152_code
theorem d0 : decode yB 0 = .ok (.getstatic 38, 3) := by decide +kernel
theorem d3 : decode yB 3 = .ok (.ifCond (.eq) 10, 3) := by decide +kernel
theorem d6 : decode yB 6 = .ok (.aload_n 0, 1) := by decide +kernel
theorem d7 : decode yB 7 = .ok (.getfield 15, 3) := by decide +kernel
theorem d10 : decode yB 10 = .ok (.goto 4, 3) := by decide +kernel
theorem d14 : decode yB 14 = .ok (.ireturn, 1) := by decide +kernel
def site : List Cond := [.fieldLink "java/lang/String" 38 "java/lang/String" "COMPACT_STRINGS" "Z", .fieldLink "java/lang/String" 15 "java/lang/String" "coder" "B"]
def tab : Cond := tabOf yN yB 1 (some .byte) site
def P (x : Addr) (cd z : Int32) (args : Array Value) (s : State) : Prop := args = #[.ref x] ∧ Has x "java/lang/String" "coder" "B" (.int cd) s ∧ (cd = 0 ∨ cd = 1) ∧ StaticIs s "java/lang/String" "COMPACT_STRINGS" "Z" (.int z) ∧ ¬ z = 0
def E (cd : Int32) (r : Option Value) (s u : State) : Prop := XT.PureE (some (.int cd)) r s u
theorem law (l : Launch) (x : Addr) (cd z : Int32) : Law l yN 1 0 0 0 yB 1 (some .byte) site (P x cd z) (E cd) [] 0 0 := by
  refine Law.of_walk (plainFor_of_name (by decide +kernel)) (by decide +kernel) (by decide +kernel) (by decide) (fun _ _ h => by rw [h.1]; rfl) (fun _ U U' hal hh h => ⟨h.1, h.2.1.mv hal hh, h.2.2.1, h.2.2.2.1.there hal hh, h.2.2.2.2⟩) (fun r U U' V V' h1 hal h2 h => XT.PureE.mv r U U' V V' h1 hal h2 h) ?_
  intro p e s m args below meth c s₁ X0 hexec hbytes hml hret hlk hnm hown hh0 W hP
  obtain ⟨rfl, hx, hc, s1, hz⟩ := hP
  have c1 : Steps p.tables e below (s₁.setTop (entryFrame m #[.ref x] 1)) (s₁.setTop (mkF m 0 #[.val (.ref x)] [])) := entry rfl
  obtain ⟨T2, X2, q2, st2⟩ := X0.sget hexec hown (wk W (.fieldLink "java/lang/String" 38 "java/lang/String" "COMPACT_STRINGS" "Z")) s1 (fun _ _ h => by rw [hh0]; exact h) (g := (mkF m 0 #[.val (.ref x)] [])) rfl (hb hbytes d0)
  have hh2 := q2.trans hh0
  have c3 : Steps p.tables e below (s₁.setTop (entryFrame m #[.ref x] 1)) (T2.setTop (mkF m 7 #[.val (.ref x)] [.ref x])) := (c1.trans (st2 _ (Steps.refl _))).trans (by
    refine XS.ifNo X2.here hexec rfl (hb hbytes d3) rfl (i0_eq_f hz) ?_
    refine XS.aloadN X2.here hexec rfl (hb hbytes d6) rfl rfl ?_
    exact Steps.refl _)
  obtain ⟨T4, X4, q4, st4⟩ := X2.hget hexec hown (wk W (.fieldLink "java/lang/String" 15 "java/lang/String" "coder" "B")) (hx.mv X2.warmed.alike hh2) (g := (mkF m 7 #[.val (.ref x)] [.ref x])) rfl (rest := []) rfl (hb hbytes d7)
  have c5 : Steps p.tables e below (s₁.setTop (entryFrame m #[.ref x] 1)) (T4.setTop (mkF m 14 #[.val (.ref x)] [.int cd])) := (c3.trans (st4 _ (Steps.refl _))).trans (by
    refine XS.goto X4.here hexec rfl (pc0 := 10) rfl (hb hbytes d10) (by decide) rfl ?_
    exact Steps.refl _)
  exact ⟨T4, some (.int cd), _, _, _, X4, rfl, rfl, rfl, (fun h => by cases h), ⟨rfl, q4.trans hh2⟩, fun fs hl => c5.trans (X4.ireturnOut hexec hret (by rcases hc with rfl | rfl <;> rfl) (Or.inr (Or.inr (Or.inl rfl))) (hb hbytes d14) hl)⟩
end Cdr
namespace Len
def yN : MethodName := ⟨"java/lang/String", "length", "()I"⟩
abbrev yB : ByteArray := jdk_42_method_54_code
theorem d0 : decode yB 0 = .ok (.aload_n 0, 1) := by decide +kernel
theorem d1 : decode yB 1 = .ok (.getfield 9, 3) := by decide +kernel
theorem d4 : decode yB 4 = .ok (.arraylength, 1) := by decide +kernel
theorem d5 : decode yB 5 = .ok (.aload_n 0, 1) := by decide +kernel
theorem d6 : decode yB 6 = .ok (.invokevirtual 335, 3) := by decide +kernel
theorem d9 : decode yB 9 = .ok (.ishr, 1) := by decide +kernel
theorem d10 : decode yB 10 = .ok (.ireturn, 1) := by decide +kernel
def site : List Cond := [.fieldLink "java/lang/String" 9 "java/lang/String" "value" "[B", Cdr.tab] ++ virtW "java/lang/String" 335 "java/lang/String" Cdr.yN Cdr.yN
def tab : Cond := tabOf yN yB 1 (some .int) site
def P (x t : Addr) (V : Cell) (cd : Int32) (n : Nat) (f : Nat → Int32) (z : Int32) (args : Array Value) (s : State) : Prop := args = #[.ref x] ∧ Txt x t V cd n f s ∧ StaticIs s "java/lang/String" "COMPACT_STRINGS" "Z" (.int z) ∧ ¬ z = 0
def E (n : Nat) (r : Option Value) (s u : State) : Prop := XT.PureE (some (.int (Int32.ofNat n))) r s u
/-- length() of a String of n chars, in either coding -/
theorem law (l : Launch) (x t : Addr) (V : Cell) (cd : Int32) (n : Nat) (f : Nat → Int32) (z : Int32) : Law l yN 1 0 1 13 yB 1 (some .int) site (P x t V cd n f z) (E n) [] 0 0 := by
  refine Law.of_walk (plainFor_of_name (by decide +kernel)) (by decide +kernel) (by decide +kernel) (by decide) (fun _ _ h => by rw [h.1]; rfl) (fun _ U U' hal hh h => ⟨h.1, h.2.1.mv hal hh, h.2.2.1.there hal hh, h.2.2.2⟩) (fun r U U' V V' h1 hal h2 h => XT.PureE.mv r U U' V V' h1 hal h2 h) ?_
  intro p e s m args below meth c s₁ X0 hexec hbytes hml hret hlk hnm hown hh0 W hP
  obtain ⟨rfl, hx, s1, hz⟩ := hP
  have v31 := hx.2.2.2.1.2.2.2
  have c1 : Steps p.tables e below (s₁.setTop (entryFrame m #[.ref x] 1)) (s₁.setTop (mkF m 1 #[.val (.ref x)] [.ref x])) := Steps.trans (entry rfl) (by
    show Steps p.tables e below (s₁.setTop (mkF m 0 #[.val (.ref x)] [])) _
    refine XS.aloadN X0.here hexec rfl (hb hbytes d0) rfl rfl ?_
    exact Steps.refl _)
  obtain ⟨T2, X2, q2, st2⟩ := X0.hget hexec hown (wk W (.fieldLink "java/lang/String" 9 "java/lang/String" "value" "[B")) (hx.mv X0.warmed.alike hh0).2.1 (g := (mkF m 1 #[.val (.ref x)] [.ref x])) rfl (rest := []) rfl (hb hbytes d1)
  have hh2 := q2.trans hh0
  have hx2 := hx.mv X2.warmed.alike hh2
  have c3 : Steps p.tables e below (s₁.setTop (entryFrame m #[.ref x] 1)) (T2.setTop (mkF m 6 #[.val (.ref x)] [.ref x, .int (Int32.ofNat V.slots.size)])) := (c1.trans (st2 _ (Steps.refl _))).trans (by
    refine X2.alen hexec hx2.2.2.2.1 rfl rfl (hb hbytes d4) ?_
    refine XS.aloadN X2.here hexec rfl (hb hbytes d5) rfl rfl ?_
    exact Steps.refl _)
  obtain ⟨v4, T4, X4, E4, g4⟩ := X2.callV hexec (Cdr.law l x cd z) hown (wks W (virtW "java/lang/String" 335 "java/lang/String" Cdr.yN Cdr.yN)) rfl (by decide) (wk W Cdr.tab) (W := 1) (Nat.le_of_ble_eq_true rfl) (Nat.le_of_ble_eq_true rfl) (Nat.le_refl _) (Nat.le_refl _) (hx2.1.fc X2.warmed.alike) hx2.1.is (g := (mkF m 6 #[.val (.ref x)] [.ref x, .int (Int32.ofNat V.slots.size)])) rfl (by rw [hml]; rfl) c3 (argsL := []) (rest := [.int (Int32.ofNat V.slots.size)]) rfl rfl (by show 2 * 0 + (1 + 0) ≤ _; decide) (hb hbytes d6) (⟨rfl, hx2.2.2.1, hx.2.2.2.2.1.cd, s1.there X2.warmed.alike hh2, hz⟩)
  obtain ⟨rfl, q4⟩ := E4
  have c5 : Steps p.tables e below (s₁.setTop (entryFrame m #[.ref x] 1)) (T4.setTop (mkF m 10 #[.val (.ref x)] [.int (Int32.ofNat V.slots.size >>> (cd &&& 31))])) := Steps.trans g4 (by
    refine ishr X4.here hexec rfl (hb hbytes d9) rfl ?_
    exact Steps.refl _)
  rw [hx.2.2.2.2.1.len v31] at c5
  exact ⟨T4, some (.int (Int32.ofNat n)), _, _, _, X4, rfl, rfl, rfl, (fun h => by cases h), ⟨rfl, q4.trans hh2⟩, fun fs hl => c5.trans (X4.ireturnOut hexec hret rfl (Or.inl rfl) (hb hbytes d10) hl)⟩
theorem pays {l : Launch} {R : Room} {p : Program} {e : Env} {below : List Frame} {s : State} {sargs : Array Value} {len W : Nat} (x t : Addr) (V : Cell) (cd : Int32) (n : Nat) (f : Nat → Int32) (z : Int32) (htab : tab.before sargs s = true) (hfr : 2 ≤ R.frames) (hlo : W + 25 ≤ R.locals) :
    Back l R p e below s sargs yN len W (fun A₁ a₁ => A₁.cells + 0 ≤ R.cells ∧ A₁.slots + 0 ≤ R.slots ∧ P x t V cd n f z a₁ A₁.U) (fun A₁ _ v₁ B₁ => E n v₁ A₁.U B₁.U ∧ B₁.locs = A₁.locs ++ [] ∧ B₁.cells = A₁.cells + 0 ∧ B₁.slots = A₁.slots + 0) :=
  (law l x t V cd n f z).pays htab hfr (by omega)
end Len
namespace IsL
def yN : MethodName := ⟨"java/lang/String", "isLatin1", "()Z"⟩
abbrev yB : ByteArray := jdk_42_method_154_code
theorem d0 : decode yB 0 = .ok (.getstatic 38, 3) := by decide +kernel
theorem d3 : decode yB 3 = .ok (.ifCond (.eq) 14, 3) := by decide +kernel
theorem d6 : decode yB 6 = .ok (.aload_n 0, 1) := by decide +kernel
theorem d7 : decode yB 7 = .ok (.getfield 15, 3) := by decide +kernel
theorem d10 : decode yB 10 = .ok (.ifCond (.ne) 7, 3) := by decide +kernel
theorem d13 : decode yB 13 = .ok (.iconst 1, 1) := by decide +kernel
theorem d14 : decode yB 14 = .ok (.goto 4, 3) := by decide +kernel
theorem d17 : decode yB 17 = .ok (.iconst 0, 1) := by decide +kernel
theorem d18 : decode yB 18 = .ok (.ireturn, 1) := by decide +kernel
def site : List Cond := [.fieldLink "java/lang/String" 38 "java/lang/String" "COMPACT_STRINGS" "Z", .fieldLink "java/lang/String" 15 "java/lang/String" "coder" "B"]
def tab : Cond := tabOf yN yB 1 (some .boolean) site
def P (x : Addr) (cd z : Int32) (args : Array Value) (s : State) : Prop := args = #[.ref x] ∧ Has x "java/lang/String" "coder" "B" (.int cd) s ∧ (cd = 0 ∨ cd = 1) ∧ StaticIs s "java/lang/String" "COMPACT_STRINGS" "Z" (.int z) ∧ ¬ z = 0
def E (cd : Int32) (r : Option Value) (s u : State) : Prop := XT.PureE (some (.int (1 - cd))) r s u
theorem law (l : Launch) (x : Addr) (cd z : Int32) : Law l yN 1 0 0 0 yB 1 (some .boolean) site (P x cd z) (E cd) [] 0 0 := by
  refine Law.of_walk (plainFor_of_name (by decide +kernel)) (by decide +kernel) (by decide +kernel) (by decide) (fun _ _ h => by rw [h.1]; rfl) (fun _ U U' hal hh h => ⟨h.1, h.2.1.mv hal hh, h.2.2.1, h.2.2.2.1.there hal hh, h.2.2.2.2⟩) (fun r U U' V V' h1 hal h2 h => XT.PureE.mv r U U' V V' h1 hal h2 h) ?_
  intro p e s m args below meth c s₁ X0 hexec hbytes hml hret hlk hnm hown hh0 W hP
  obtain ⟨rfl, hx, hc, s1, hz⟩ := hP
  have c1 : Steps p.tables e below (s₁.setTop (entryFrame m #[.ref x] 1)) (s₁.setTop (mkF m 0 #[.val (.ref x)] [])) := entry rfl
  obtain ⟨T2, X2, q2, st2⟩ := X0.sget hexec hown (wk W (.fieldLink "java/lang/String" 38 "java/lang/String" "COMPACT_STRINGS" "Z")) s1 (fun _ _ h => by rw [hh0]; exact h) (g := (mkF m 0 #[.val (.ref x)] [])) rfl (hb hbytes d0)
  have hh2 := q2.trans hh0
  have c3 : Steps p.tables e below (s₁.setTop (entryFrame m #[.ref x] 1)) (T2.setTop (mkF m 7 #[.val (.ref x)] [.ref x])) := (c1.trans (st2 _ (Steps.refl _))).trans (by
    refine XS.ifNo X2.here hexec rfl (hb hbytes d3) rfl (i0_eq_f hz) ?_
    refine XS.aloadN X2.here hexec rfl (hb hbytes d6) rfl rfl ?_
    exact Steps.refl _)
  obtain ⟨T4, X4, q4, st4⟩ := X2.hget hexec hown (wk W (.fieldLink "java/lang/String" 15 "java/lang/String" "coder" "B")) (hx.mv X2.warmed.alike hh2) (g := (mkF m 7 #[.val (.ref x)] [.ref x])) rfl (rest := []) rfl (hb hbytes d7)
  have c5 : Steps p.tables e below (s₁.setTop (entryFrame m #[.ref x] 1)) (T4.setTop (mkF m 10 #[.val (.ref x)] [.int cd])) := c3.trans (st4 _ (Steps.refl _))
  have c6 : Steps p.tables e below (s₁.setTop (entryFrame m #[.ref x] 1)) (T4.setTop (mkF m 18 #[.val (.ref x)] [.int (1 - cd)])) := by
    rcases hc with rfl | rfl
    · exact c5.trans (by
        refine XS.ifNo X4.here hexec rfl (hb hbytes d10) rfl (i0_ne_f rfl) ?_
        refine iconstV X4.here hexec rfl 1 (hb hbytes d13) (by decide) ?_
        refine XS.goto X4.here hexec rfl (pc0 := 14) rfl (hb hbytes d14) (by decide) rfl ?_
        exact Steps.refl _)
    · exact c5.trans (by
        refine XS.ifYes X4.here hexec rfl (pc0 := 10) rfl (hb hbytes d10) rfl (i0_ne_t (by decide)) (by decide) rfl ?_
        refine iconstV X4.here hexec rfl 0 (hb hbytes d17) (by decide) ?_
        exact Steps.refl _)
  exact ⟨T4, some (.int (1 - cd)), _, _, _, X4, rfl, rfl, rfl, (fun h => by cases h), ⟨rfl, q4.trans hh2⟩, fun fs hl => c6.trans (X4.ireturnOut hexec hret (by rcases hc with rfl | rfl <;> rfl) (Or.inr (Or.inl rfl)) (hb hbytes d18) hl)⟩
end IsL
namespace LChA
def yN : MethodName := ⟨"java/lang/StringLatin1", "charAt", "([BI)C"⟩
abbrev yB : ByteArray := jdk_43_method_2_code
theorem d0 : decode yB 0 = .ok (.iload_n 1, 1) := by decide +kernel
theorem d1 : decode yB 1 = .ok (.aload_n 0, 1) := by decide +kernel
theorem d2 : decode yB 2 = .ok (.arraylength, 1) := by decide +kernel
theorem d3 : decode yB 3 = .ok (.invokestatic 9, 3) := by decide +kernel
theorem d6 : decode yB 6 = .ok (.aload_n 0, 1) := by decide +kernel
theorem d7 : decode yB 7 = .ok (.iload_n 1, 1) := by decide +kernel
theorem d8 : decode yB 8 = .ok (.baload, 1) := by decide +kernel
theorem d9 : decode yB 9 = .ok (.sipush 255, 3) := by decide +kernel
theorem d12 : decode yB 12 = .ok (.iand, 1) := by decide +kernel
theorem d13 : decode yB 13 = .ok (.i2c, 1) := by decide +kernel
theorem d14 : decode yB 14 = .ok (.ireturn, 1) := by decide +kernel
def site : List Cond := [JO.Str_checkIndex.tab] ++ staticW "java/lang/StringLatin1" 9 JO.Str_checkIndex.yN
def tab : Cond := tabOf yN yB 2 (some .char) site
def P (t : Addr) (V : Cell) (i : Nat) (u : Int32) (fm : Value) (args : Array Value) (s : State) : Prop := args = #[.ref t, .int (Int32.ofNat i)] ∧ XT.Arr .byte t V s ∧ V.slots[i]? = some (.int u) ∧ (StaticIs s "jdk/internal/util/Preconditions" "SIOOBE_FORMATTER" "Ljava/util/function/BiFunction;" fm ∧ fm.isRef = true)
def E (u : Int32) (r : Option Value) (s w : State) : Prop := XT.PureE (some (.int (chr8 u))) r s w
theorem law (l : Launch) (t : Addr) (V : Cell) (i : Nat) (u : Int32) (fm : Value) : Law l yN 2 2 2 27 yB 2 (some .char) site (P t V i u fm) (E u) [] 0 0 := by
  refine Law.of_walk (plainFor_of_name (by decide +kernel)) (by decide +kernel) (by decide +kernel) (by decide) (fun _ _ h => by rw [h.1]; rfl) (fun _ U U' hal hh h => ⟨h.1, h.2.1.mv hal hh, h.2.2.1, h.2.2.2.1.there hal hh, h.2.2.2.2⟩) (fun r U U' V V' h1 hal h2 h => XT.PureE.mv r U U' V V' h1 hal h2 h) ?_
  intro p e s m args below meth c s₁ X0 hexec hbytes hml hret hlk hnm hown hh0 W hP
  obtain ⟨rfl, hV, hu, s1, rf⟩ := hP
  have v31 := hV.2.2.2
  have hi : i < V.slots.size := (Array.getElem?_eq_some_iff.mp hu).1
  have c1 : Steps p.tables e below (s₁.setTop (entryFrame m #[.ref t, .int (Int32.ofNat i)] 2)) (s₁.setTop (mkF m 0 #[.val (.ref t), .val (.int (Int32.ofNat i))] [])) := entry rfl
  have c2 : Steps p.tables e below (s₁.setTop (entryFrame m #[.ref t, .int (Int32.ofNat i)] 2)) (s₁.setTop (mkF m 3 #[.val (.ref t), .val (.int (Int32.ofNat i))] [.int (Int32.ofNat V.slots.size), .int (Int32.ofNat i)])) := c1.trans (by
    refine XS.iloadN X0.here hexec rfl (hb hbytes d0) rfl ?_
    refine XS.aloadN X0.here hexec rfl (hb hbytes d1) rfl rfl ?_
    refine X0.alen hexec (hV.mv X0.warmed.alike hh0) rfl rfl (hb hbytes d2) ?_
    exact Steps.refl _)
  obtain ⟨v3, T3, X3, E3, g3⟩ := X0.callS hexec (JO.Str_checkIndex.law l (Int32.ofNat i) (Int32.ofNat V.slots.size) fm) hown (wks W (staticW "java/lang/StringLatin1" 9 JO.Str_checkIndex.yN)) (wk W JO.Str_checkIndex.tab) (W := 0) (Nat.le_of_ble_eq_true rfl) (Nat.le_of_ble_eq_true rfl) (Nat.le_refl _) (Nat.le_refl _) (g := (mkF m 3 #[.val (.ref t), .val (.int (Int32.ofNat i))] [.int (Int32.ofNat V.slots.size), .int (Int32.ofNat i)])) rfl (by rw [hml]; rfl) c2 (argsL := [.int (Int32.ofNat i), .int (Int32.ofNat V.slots.size)]) (rest := []) rfl rfl (by show 2 * 0 + 0 ≤ _; decide) (hb hbytes d3) (⟨rfl, rf, s1.there X0.warmed.alike hh0, Int32.ofNat_not_neg (by omega), lt32 v31 hi⟩)
  obtain ⟨rfl, q3⟩ := E3
  have hh3 := q3.trans hh0
  have c4 : Steps p.tables e below (s₁.setTop (entryFrame m #[.ref t, .int (Int32.ofNat i)] 2)) (T3.setTop (mkF m 14 #[.val (.ref t), .val (.int (Int32.ofNat i))] [.int (chr8 u)])) := Steps.trans g3 (by
    refine XS.aloadN X3.here hexec rfl (hb hbytes d6) rfl rfl ?_
    refine XS.iloadN X3.here hexec rfl (hb hbytes d7) rfl ?_
    refine X3.aget hexec (hV.mv X3.warmed.alike hh3) rfl hu rfl rfl (hb hbytes d8) ?_
    refine sipushV X3.here hexec rfl 255 (hb hbytes d9) (by decide) ?_
    refine XS.iand X3.here hexec rfl (hb hbytes d12) rfl ?_
    refine i2c X3.here hexec rfl (hb hbytes d13) rfl ?_
    exact Steps.refl _)
  exact ⟨T3, some (.int (chr8 u)), _, _, _, X3, rfl, rfl, rfl, (fun h => by cases h), ⟨rfl, hh3⟩, fun fs hl => c4.trans (X3.ireturnOut hexec hret (narrow_c _) (Or.inr (Or.inr (Or.inr (Or.inl rfl)))) (hb hbytes d14) hl)⟩
end LChA
end StrChars
namespace StrChars.Road
open Jvm Sem ClassFile Op Lib Jvm.Stand Jvm.Free Jvm.Free.XT
open Jvm.Lib.Cold (StaticIs)
theorem consq {a : Array Value} {s : State} {c : Jvm.Cond} {L : List Jvm.Cond} (h0 : c.before a s = true) (h : ∀ w ∈ L, w.before a s = true) : ∀ w ∈ c :: L, w.before a s = true := fun w hw => (List.mem_cons.mp hw).elim (fun e => e ▸ h0) (h w)
/-- the words of String.length(), either coding -/
abbrev wordsLen : List Jvm.Cond := [.code Len.yN Len.yB 1 (some .int), .initialized ST, .fieldLink ST 9 ST "value" "[B", .fieldLink ST 38 ST "COMPACT_STRINGS" "Z", .fieldLink ST 15 ST "coder" "B", .code Cdr.yN Cdr.yB 1 (some .byte), .methodLink ST 335 Cdr.yN, .declares Cdr.yN, .selects ST Cdr.yN Cdr.yN, .instanceMethod Cdr.yN]
theorem tabLen_of {a : Array Value} {s : State} (h : ∀ w ∈ wordsLen, w.before a s = true) : Len.tab.before a s = true := by
  have hc : Cdr.tab.before a s = true := unparts (wk h (.code Cdr.yN Cdr.yB 1 (some .byte))) (wks h (.initialized Cdr.yN.cls :: Cdr.site))
  have q := consq hc h
  exact unparts (wk q (.code Len.yN Len.yB 1 (some .int))) (wks q (.initialized Len.yN.cls :: Len.site))
theorem movedLen {Z s : State} {a0 args : Array Value} (hZ : Z.Warmed39 s.vm) (hw : ∀ d ∈ wordsLen, d.before a0 Z = true) : ∀ d ∈ wordsLen, d.before args s = true := fun d hd => by
  have q := hw d hd
  have t : ∀ d ∈ wordsLen, d = .arrayClass .byte ∨ (d.onTables && d.keepsFace) = true := by decide +kernel
  rcases t d hd with rfl | t
  · exact RoadKit.mvA hZ q
  · exact RoadKit.mv hZ q t
/-- the bytes of the chars cs, low before high -/
def wideBytes : List Int32 → List Value
  | [] => []
  | c :: cs => .int (lo8 c) :: .int (hi8 c) :: wideBytes cs
theorem wide_lo (d : Value) : ∀ (cs : List Int32) (j : Nat), j < cs.length → (wideBytes cs).getD (2 * j) d = .int (lo8 (cs.getD j 0))
  | [], j, h => absurd h (Nat.not_lt_zero j)
  | c :: cs, 0, _ => rfl
  | c :: cs, j + 1, h => by
    have q := wide_lo d cs j (by simpa using h)
    rw [show 2 * (j + 1) = 2 * j + 1 + 1 from by omega]
    simpa [wideBytes] using q
theorem wide_hi (d : Value) : ∀ (cs : List Int32) (j : Nat), j < cs.length → (wideBytes cs).getD (2 * j + 1) d = .int (hi8 (cs.getD j 0))
  | [], j, h => absurd h (Nat.not_lt_zero j)
  | c :: cs, 0, _ => rfl
  | c :: cs, j + 1, h => by
    have q := wide_hi d cs j (by simpa using h)
    rw [show 2 * (j + 1) + 1 = 2 * j + 1 + 1 + 1 from by omega]
    simpa [wideBytes] using q
theorem low_at (d : Value) (cs : List Int32) (j : Nat) (h : j < cs.length) : (cs.map fun c => Value.int (lo8 c)).getD j d = .int (lo8 (cs.getD j 0)) := by
  simp [List.getD_eq_getElem?_getD, h]
/-- an array of N2 bytes vs codes the chars cs by the coder cd -/
def CodA (cs : List Int32) (cd N2 : Int32) (vs : List Value) : Prop := (cd = 0 ∧ N2 = Int32.ofNat cs.length ∧ vs = (cs.map fun c => Value.int (lo8 c)) ∧ ∀ c ∈ cs, ¬ 255 < c) ∨ (cd = 1 ∧ N2 = Int32.ofNat (2 * cs.length) ∧ vs = wideBytes cs ∧ ∃ c ∈ cs, 255 < c)
theorem CodA.cod {cs : List Int32} {cd N2 : Int32} {vs : List Value} {V : Cell} (h : CodA cs cd N2 vs) (hn : 2 * cs.length < 2 ^ 31) (hs : V.slots.size = N2.toNatClampNeg) (hv : RoadKit.Has V vs (.int 0)) : Cod cd cs.length (fun j => cs.getD j 0) V := by
  rcases h with ⟨rfl, rfl, rfl, h⟩ | ⟨rfl, rfl, rfl, c, hc, hw⟩
  · rw [n32 (by omega)] at hs
    exact Or.inl ⟨rfl, hs, fun j hj => ⟨by rw [hv j (by omega), low_at _ _ _ hj], by
      have e : cs.getD j 0 = cs[j] := by simp [List.getD_eq_getElem?_getD, hj]
      show ¬ 255 < cs.getD j 0
      rw [e]; exact h _ (List.getElem_mem _)⟩⟩
  · rw [n32 (by omega)] at hs
    obtain ⟨j, hj, rfl⟩ := List.getElem_of_mem hc
    exact Or.inr ⟨rfl, hs, fun j hj => ⟨by rw [hv _ (by omega), wide_lo _ _ _ hj], by rw [hv _ (by omega), wide_hi _ _ _ hj]⟩, j, hj, by
      have e : cs.getD j 0 = cs[j] := by simp [List.getD_eq_getElem?_getD, hj]
      show 255 < cs.getD j 0
      rw [e]; exact hw⟩
/-- an object of exactly java/lang/String, its two fields found: as the laws ask it -/
theorem strObj {Z U : State} {a0 : Array Value} {kI : Nat} (wi : (Jvm.Cond.instantiable ST kI).before a0 Z = true) (al : Z.vm.Alike U.vm) {x : Addr} {v0 c0 : Value} (E : RoadKit.Exa Z U.heap x ST) (V : RoadKit.Fld Z U.heap x ST "value" "[B" v0) (C : RoadKit.Fld Z U.heap x ST "coder" "B" c0) :
    ∃ (D : Cell) (fV fC : Field), Blank ST x D U ∧ Found ST "value" "[B" fV U ∧ Found ST "coder" "B" fC U ∧ D.slots[fV.slot]? = some v0 ∧ D.slots[fC.slot]? = some c0 ∧ RoadKit.slotOf Z ST "value" "[B" = fV.slot ∧ RoadKit.slotOf Z ST "coder" "B" = fC.slot := by
  obtain ⟨D, cfV, kV, iV, fV, hD, gV, stV, knV, obV, asV, slV⟩ := V
  obtain ⟨D', cfC, kC, iC, fC, hD', gC, stC, -, -, asC, slC⟩ := C
  cases hD.symm.trans hD'
  obtain ⟨D2, kD, e1, e2, e3, e4, e5⟩ := E
  cases hD.symm.trans e1
  obtain ⟨c2, k2, i1, i2, i3, -⟩ := Cond.instantiable_spec wi
  cases e2.symm.trans i1
  cases e3.symm.trans i2
  obtain ⟨kU, u1, u2⟩ := al.2.2 _ _ e3
  exact ⟨D, fV, fC, ⟨hD, ⟨knV, fun q hq => by rw [hq] at obV; cases obV⟩, by rw [al.findClass]; exact e2, kU, u1, by rw [u2]; exact i3, by rw [u2]; exact e5 i3⟩, ⟨SBG.found_only al ⟨cfV, kV, iV, gV⟩, stV⟩, ⟨SBG.found_only al ⟨cfC, kC, iC, gC⟩, stC⟩, slV, slC, by simp [RoadKit.slotOf, gV], by simp [RoadKit.slotOf, gC]⟩
theorem sta_is {Z U : State} (al : Z.vm.Alike U.vm) {C n d : String} {v : Value} (S : RoadKit.Sta Z U.heap C n d v) : StaticIs U C n d v := by
  obtain ⟨cfS, iS, kS, fS, st, cS, t1, t2, t3, t4, t5, t6, t7⟩ := S
  exact StaticIs.there (s := { Z with heap := U.heap }) ⟨cfS, iS, kS, fS, st, cS, t1, t2, t3, t4, t5, (fun q => by rw [q] at t6; cases t6), t7⟩ al rfl
/-- **length() OF SUCH A STRING** -/
theorem lenW {p : Program} {l : Launch} {e : Env} {R : Room} {s : State} {args : Array Value} {below : List Frame} {len W : Nat} {Z : State} {a0 : Array Value} {h : Heap} (hZ : Z.Warmed39 s.vm) (hw : ∀ d ∈ wordsLen, d.before a0 Z = true) {kI : Nat} (wi : (Jvm.Cond.instantiable ST kI).before a0 Z = true)
    {x t : Addr} {kb : ClassId} {cs : List Int32} {cd N2 z : Int32} {vs : List Value} (E : RoadKit.Exa Z h x ST) (V : RoadKit.Fld Z h x ST "value" "[B" (.ref t)) (C : RoadKit.Fld Z h x ST "coder" "B" (.int cd)) (K : RoadKit.Arv Z h t kb .byte N2 vs (.int 0)) (hc : CodA cs cd N2 vs) (hb : ∀ c ∈ cs, ¬ c < 0 ∧ ¬ (65535 : Int32) < c)
    (S : RoadKit.Sta Z h ST "COMPACT_STRINGS" "Z" (.int z)) (hz : ¬ z = 0) (l2 : cs.length ≤ 4000) (hfr : 2 ≤ R.frames) (hlo : W + 25 ≤ R.locals) :
    Back l R p e below s args (⟨"java/lang/String", "length", "()I"⟩ : MethodName) len W (fun P a => a = #[.ref x] ∧ P.U.heap = h ∧ P.cells + 0 ≤ R.cells ∧ P.slots + 0 ≤ R.slots)
      (fun P _ v B => ∃ L, (v = some (.int (Int32.ofNat cs.length)) ∧ L = [] ∧ B.U.heap = h) ∧ B.locs = P.locs ++ L ∧ B.cells = P.cells + 0 ∧ B.slots = P.slots + 0) := by
  obtain ⟨A, K1, K2, K3, K4, K5, K6⟩ := K
  have hcod := hc.cod (by omega) K3 K5
  intro m meth c P g ig mk a X hg hsize hdg hW hn hp'
  obtain ⟨rfl, rfl, r1, r2⟩ := hp'
  have al : Z.vm.Alike P.U.vm := hZ.alike.trans X.warmed.alike
  obtain ⟨D, fV, fC, hB, F1, F2, g1, g2, -, -⟩ := strObj wi al E V C
  have hx : Txt x t A cd cs.length (fun j => cs.getD j 0) P.U := ⟨⟨_, hB.2.2.1, D, hB.1, rfl, by cases q : D.vm <;> first | rfl | exact absurd q (hB.2.1.2 _)⟩, Has.of hB F1 g1, Has.of hB F2 g2, ⟨K1.1, State.isArrayOf_alike al K1.2.1, K1.2.2, by rcases hcod with ⟨-, q, -⟩ | ⟨-, q, -⟩ <;> omega⟩, hcod, fun j hj => by
    have e : cs.getD j 0 = cs[j] := by simp [List.getD_eq_getElem?_getD, hj]
    show ¬ cs.getD j 0 < 0 ∧ ¬ 65535 < cs.getD j 0
    rw [e]; exact hb _ (List.getElem_mem _)⟩
  obtain ⟨v, B, X', ⟨⟨hv, hh⟩, hl, hk, hs⟩, st⟩ := Len.pays x t A cd cs.length (fun j => cs.getD j 0) z (tabLen_of (movedLen hZ hw)) hfr hlo m meth c P g ig mk _ X hg hsize hdg hW hn ⟨r1, r2, rfl, hx, sta_is al S, hz⟩
  exact ⟨v, B, X', ⟨[], ⟨hv, rfl, hh⟩, hl, hk, hs⟩, st⟩
end StrChars.Road
namespace StrChars.Road
open Jvm Sem ClassFile Op Lib Jvm.Stand Jvm.Free Jvm.Free.XT
open Jvm.Lib.Cold (StaticIs)
/-- the road's facts of a String, as the laws ask it -/
theorem txt_of {Z U : State} {a0 : Array Value} {kI : Nat} (wi : (Jvm.Cond.instantiable ST kI).before a0 Z = true) (al : Z.vm.Alike U.vm) {x t : Addr} {kb : ClassId} {cs : List Int32} {cd N2 : Int32} {vs : List Value} (E : RoadKit.Exa Z U.heap x ST) (V : RoadKit.Fld Z U.heap x ST "value" "[B" (.ref t)) (C : RoadKit.Fld Z U.heap x ST "coder" "B" (.int cd)) (K : RoadKit.Arv Z U.heap t kb .byte N2 vs (.int 0)) (hc : CodA cs cd N2 vs) (hb : ∀ c ∈ cs, ¬ c < 0 ∧ ¬ (65535 : Int32) < c) (l2 : cs.length ≤ 4000) :
    ∃ A, Txt x t A cd cs.length (fun j => cs.getD j 0) U := by
  obtain ⟨A, K1, K2, K3, K4, K5, K6⟩ := K
  have hcod := hc.cod (by omega) K3 K5
  obtain ⟨D, fV, fC, hB, F1, F2, g1, g2, -, -⟩ := strObj wi al E V C
  exact ⟨A, ⟨_, hB.2.2.1, D, hB.1, rfl, by cases q : D.vm <;> first | rfl | exact absurd q (hB.2.1.2 _)⟩, Has.of hB F1 g1, Has.of hB F2 g2, ⟨K1.1, State.isArrayOf_alike al K1.2.1, K1.2.2, by rcases hcod with ⟨-, q, -⟩ | ⟨-, q, -⟩ <;> omega⟩, hcod, fun j hj => by
    have e : cs.getD j 0 = cs[j] := by simp [List.getD_eq_getElem?_getD, hj]
    show ¬ cs.getD j 0 < 0 ∧ ¬ 65535 < cs.getD j 0
    rw [e]; exact hb _ (List.getElem_mem _)⟩
end StrChars.Road
namespace StrChars
open Jvm Sem ClassFile Op Lib Jvm.Stand Jvm.Free.XT Jvm.Free.ALB Jvm.Free.JM Jvm.Free
open Jvm.Lib.Cold (StaticIs)
namespace ChN
def yN : MethodName := ⟨"java/lang/String", "charAt", "(I)C"⟩
abbrev yB : ByteArray := jdk_42_method_56_code
theorem d0 : decode yB 0 = .ok (.aload_n 0, 1) := by decide +kernel
theorem d1 : decode yB 1 = .ok (.invokevirtual 492, 3) := by decide +kernel
theorem d4 : decode yB 4 = .ok (.ifCond (.eq) 12, 3) := by decide +kernel
theorem d7 : decode yB 7 = .ok (.aload_n 0, 1) := by decide +kernel
theorem d8 : decode yB 8 = .ok (.getfield 9, 3) := by decide +kernel
theorem d11 : decode yB 11 = .ok (.iload_n 1, 1) := by decide +kernel
theorem d12 : decode yB 12 = .ok (.invokestatic 495, 3) := by decide +kernel
theorem d15 : decode yB 15 = .ok (.ireturn, 1) := by decide +kernel
def site : List Cond := [.fieldLink "java/lang/String" 9 "java/lang/String" "value" "[B", IsL.tab, LChA.tab] ++ virtW "java/lang/String" 492 "java/lang/String" IsL.yN IsL.yN ++ staticW "java/lang/String" 495 LChA.yN
def tab : Cond := tabOf yN yB 2 (some .char) site
def P (x t : Addr) (V : Cell) (n : Nat) (f : Nat → Int32) (z : Int32) (fm : Value) (i : Nat) (args : Array Value) (s : State) : Prop := args = #[.ref x, .int (Int32.ofNat i)] ∧ Txt x t V 0 n f s ∧ i < n ∧ StaticIs s "java/lang/String" "COMPACT_STRINGS" "Z" (.int z) ∧ ¬ z = 0 ∧ StaticIs s "jdk/internal/util/Preconditions" "SIOOBE_FORMATTER" "Ljava/util/function/BiFunction;" fm ∧ fm.isRef = true
def E (f : Nat → Int32) (i : Nat) (r : Option Value) (s u : State) : Prop := XT.PureE (some (.int (f i))) r s u
/-- charAt(i) of a Latin-1 String of n chars, i < n: f i -/
theorem law (l : Launch) (x t : Addr) (V : Cell) (n : Nat) (f : Nat → Int32) (z : Int32) (fm : Value) (i : Nat) : Law l yN 2 1 3 40 yB 2 (some .char) site (P x t V n f z fm i) (E f i) [] 0 0 := by
  refine Law.of_walk (plainFor_of_name (by decide +kernel)) (by decide +kernel) (by decide +kernel) (by decide) (fun _ _ h => by rw [h.1]; rfl) (fun _ U U' hal hh h => ⟨h.1, h.2.1.mv hal hh, h.2.2.1, h.2.2.2.1.there hal hh, h.2.2.2.2.1, h.2.2.2.2.2.1.there hal hh, h.2.2.2.2.2.2⟩) (fun r U U' V V' h1 hal h2 h => XT.PureE.mv r U U' V V' h1 hal h2 h) ?_
  intro p e s m args below meth c s₁ X0 hexec hbytes hml hret hlk hnm hown hh0 W hP
  obtain ⟨rfl, hx, hi, s1, hz, s3, rf⟩ := hP
  have v31 := hx.2.2.2.1.2.2.2
  have hr := hx.2.2.2.2.2 i hi
  have hx0 := hx.mv X0.warmed.alike hh0
  have c1 : Steps p.tables e below (s₁.setTop (entryFrame m #[.ref x, .int (Int32.ofNat i)] 2)) (s₁.setTop (mkF m 1 #[.val (.ref x), .val (.int (Int32.ofNat i))] [.ref x])) := Steps.trans (entry rfl) (by
    show Steps p.tables e below (s₁.setTop (mkF m 0 #[.val (.ref x), .val (.int (Int32.ofNat i))] [])) _
    refine XS.aloadN X0.here hexec rfl (hb hbytes d0) rfl rfl ?_
    exact Steps.refl _)
  obtain ⟨v2, T2, X2, E2, g2⟩ := X0.callV hexec (IsL.law l x 0 z) hown (wks W (virtW "java/lang/String" 492 "java/lang/String" IsL.yN IsL.yN)) rfl (by decide) (wk W IsL.tab) (W := 0) (Nat.le_of_ble_eq_true rfl) (Nat.le_of_ble_eq_true rfl) (Nat.le_refl _) (Nat.le_refl _) (hx0.1.fc X0.warmed.alike) hx0.1.is (g := (mkF m 1 #[.val (.ref x), .val (.int (Int32.ofNat i))] [.ref x])) rfl (by rw [hml]; rfl) c1 (argsL := []) (rest := []) rfl rfl (by show 2 * 0 + 0 ≤ _; decide) (hb hbytes d1) (⟨rfl, hx0.2.2.1, hx.2.2.2.2.1.cd, s1.there X0.warmed.alike hh0, hz⟩)
  obtain ⟨rfl, q2⟩ := E2
  have hh2 := q2.trans hh0
  have hx2 := hx.mv X2.warmed.alike hh2
  obtain ⟨-, k1, k2⟩ | ⟨k0, -⟩ := hx.2.2.2.2.1
  · have c3 : Steps p.tables e below (s₁.setTop (entryFrame m #[.ref x, .int (Int32.ofNat i)] 2)) (T2.setTop (mkF m 8 #[.val (.ref x), .val (.int (Int32.ofNat i))] [.ref x])) := Steps.trans g2 (by
      refine XS.ifNo X2.here hexec rfl (hb hbytes d4) rfl (i0_eq_f (by decide)) ?_
      refine XS.aloadN X2.here hexec rfl (hb hbytes d7) rfl rfl ?_
      exact Steps.refl _)
    obtain ⟨T4, X4, q4, st4⟩ := X2.hget hexec hown (wk W (.fieldLink "java/lang/String" 9 "java/lang/String" "value" "[B")) hx2.2.1 (g := (mkF m 8 #[.val (.ref x), .val (.int (Int32.ofNat i))] [.ref x])) rfl (rest := []) rfl (hb hbytes d8)
    have hh4 := q4.trans hh2
    have c5 : Steps p.tables e below (s₁.setTop (entryFrame m #[.ref x, .int (Int32.ofNat i)] 2)) (T4.setTop (mkF m 12 #[.val (.ref x), .val (.int (Int32.ofNat i))] [.int (Int32.ofNat i), .ref t])) := (c3.trans (st4 _ (Steps.refl _))).trans (by
      refine XS.iloadN X4.here hexec rfl (hb hbytes d11) rfl ?_
      exact Steps.refl _)
    obtain ⟨v6, T6, X6, E6, g6⟩ := X4.callS hexec (LChA.law l t V i (lo8 (f i)) fm) hown (wks W (staticW "java/lang/String" 495 LChA.yN)) (wk W LChA.tab) (W := 0) (Nat.le_of_ble_eq_true rfl) (Nat.le_of_ble_eq_true rfl) (Nat.le_refl _) (Nat.le_refl _) (g := (mkF m 12 #[.val (.ref x), .val (.int (Int32.ofNat i))] [.int (Int32.ofNat i), .ref t])) rfl (by rw [hml]; rfl) c5 (argsL := [.ref t, .int (Int32.ofNat i)]) (rest := []) rfl rfl (by show 2 * 0 + 0 ≤ _; decide) (hb hbytes d12) (⟨rfl, hx.2.2.2.1.mv X4.warmed.alike hh4, (k2 i hi).1, s3.there X4.warmed.alike hh4, rf⟩)
    obtain ⟨rfl, q6⟩ := E6
    rw [chr8_lo8 hr.1 (k2 i hi).2] at g6
    exact ⟨T6, some (.int (f i)), _, _, _, X6, rfl, rfl, rfl, (fun h => by cases h), ⟨rfl, q6.trans hh4⟩, fun fs hl => Steps.trans g6 (X6.ireturnOut hexec hret (narrow_ch hr.1 hr.2) (Or.inr (Or.inr (Or.inr (Or.inl rfl)))) (hb hbytes d15) hl)⟩
  · exact absurd k0 (by decide)
theorem pays {l : Launch} {R : Room} {p : Program} {e : Env} {below : List Frame} {s : State} {sargs : Array Value} {len W : Nat} (x t : Addr) (V : Cell) (n : Nat) (f : Nat → Int32) (z : Int32) (fm : Value) (i : Nat) (htab : tab.before sargs s = true) (hfr : 4 ≤ R.frames) (hlo : W + 53 ≤ R.locals) :
    Back l R p e below s sargs yN len W (fun A₁ a₁ => A₁.cells + 0 ≤ R.cells ∧ A₁.slots + 0 ≤ R.slots ∧ P x t V n f z fm i a₁ A₁.U) (fun A₁ _ v₁ B₁ => E f i v₁ A₁.U B₁.U ∧ B₁.locs = A₁.locs ++ [] ∧ B₁.cells = A₁.cells + 0 ∧ B₁.slots = A₁.slots + 0) :=
  (law l x t V n f z fm i).pays htab hfr (by omega)
end ChN
end StrChars
namespace StrChars.Road
open Jvm Sem ClassFile Op Lib Jvm.Stand Jvm.Free Jvm.Free.XT
open Jvm.Lib.Cold (StaticIs)
/-- the words of String.charAt(int), the Latin-1 road alone -/
abbrev wordsChN : List Jvm.Cond := [.code ChN.yN ChN.yB 2 (some .char), .initialized ST, .fieldLink ST 9 ST "value" "[B", .fieldLink ST 38 ST "COMPACT_STRINGS" "Z", .fieldLink ST 15 ST "coder" "B", .code IsL.yN IsL.yB 1 (some .boolean), .methodLink ST 492 IsL.yN, .declares IsL.yN, .selects ST IsL.yN IsL.yN, .instanceMethod IsL.yN,
  .methodLink ST 495 LChA.yN, .static LChA.yN, .code LChA.yN LChA.yB 2 (some .char), .initialized "java/lang/StringLatin1", .methodLink "java/lang/StringLatin1" 9 JO.Str_checkIndex.yN, .static JO.Str_checkIndex.yN, .code JO.Str_checkIndex.yN JO.Str_checkIndex.yB 2 none,
  .fieldLink ST 1053 "jdk/internal/util/Preconditions" "SIOOBE_FORMATTER" "Ljava/util/function/BiFunction;", .methodLink ST 1059 JC.PreCheck.yN, .static JC.PreCheck.yN, .code JC.PreCheck.yN JC.PreCheck.yB 3 (some .int), .initialized "jdk/internal/util/Preconditions"]
theorem tabChN_of {a : Array Value} {s : State} (h : ∀ w ∈ wordsChN, w.before a s = true) : ChN.tab.before a s = true := by
  have hp : JC.PreCheck.tab.before a s = true := unparts (wk h (.code JC.PreCheck.yN JC.PreCheck.yB 3 (some .int))) (wks h (.initialized JC.PreCheck.yN.cls :: JC.PreCheck.site))
  have qk := consq hp h
  have hk : JO.Str_checkIndex.tab.before a s = true := unparts (wk qk (.code JO.Str_checkIndex.yN JO.Str_checkIndex.yB 2 none)) (wks qk (.initialized JO.Str_checkIndex.yN.cls :: JO.Str_checkIndex.site))
  have ql := consq hk h
  have hl : LChA.tab.before a s = true := unparts (wk ql (.code LChA.yN LChA.yB 2 (some .char))) (wks ql (.initialized LChA.yN.cls :: LChA.site))
  have hi : IsL.tab.before a s = true := unparts (wk h (.code IsL.yN IsL.yB 1 (some .boolean))) (wks h (.initialized IsL.yN.cls :: IsL.site))
  have q := consq hi (consq hl h)
  exact unparts (wk q (.code ChN.yN ChN.yB 2 (some .char))) (wks q (.initialized ChN.yN.cls :: ChN.site))
theorem movedChN {Z s : State} {a0 args : Array Value} (hZ : Z.Warmed39 s.vm) (hw : ∀ d ∈ wordsChN, d.before a0 Z = true) : ∀ d ∈ wordsChN, d.before args s = true := fun d hd => by
  have t : ∀ d ∈ wordsChN, (d.onTables && d.keepsFace) = true := by decide +kernel
  exact RoadKit.mv hZ (hw d hd) (t d hd)
/-- **charAt(i) OF A LATIN-1 STRING**, i < n: the char -/
theorem chN {p : Program} {l : Launch} {e : Env} {R : Room} {s : State} {args : Array Value} {below : List Frame} {len W : Nat} {Z : State} {a0 : Array Value} {h : Heap} (hZ : Z.Warmed39 s.vm) (hw : ∀ d ∈ wordsChN, d.before a0 Z = true) {kI : Nat} (wi : (Jvm.Cond.instantiable ST kI).before a0 Z = true)
    {x t : Addr} {kb : ClassId} {cs : List Int32} {N2 z : Int32} {vs : List Value} {fm : Value} {i : Nat} {j : Int32} (E : RoadKit.Exa Z h x ST) (V : RoadKit.Fld Z h x ST "value" "[B" (.ref t)) (C : RoadKit.Fld Z h x ST "coder" "B" (.int 0)) (K : RoadKit.Arv Z h t kb .byte N2 vs (.int 0)) (hc : CodA cs 0 N2 vs) (hb : ∀ c ∈ cs, ¬ c < 0 ∧ ¬ (65535 : Int32) < c)
    (S : RoadKit.Sta Z h ST "COMPACT_STRINGS" "Z" (.int z)) (hz : ¬ z = 0) (F : RoadKit.Sta Z h "jdk/internal/util/Preconditions" "SIOOBE_FORMATTER" "Ljava/util/function/BiFunction;" fm) (rf : fm.isRef = true) (l2 : cs.length ≤ 4000) (hi : i < cs.length) (hj : j = Int32.ofNat i) (hfr : 4 ≤ R.frames) (hlo : W + 53 ≤ R.locals) :
    Back l R p e below s args (⟨"java/lang/String", "charAt", "(I)C"⟩ : MethodName) len W (fun P a => a = #[.ref x, .int j] ∧ P.U.heap = h ∧ P.cells + 0 ≤ R.cells ∧ P.slots + 0 ≤ R.slots)
      (fun P _ v B => ∃ L, (v = some (.int (cs.getD i 0)) ∧ L = [] ∧ B.U.heap = h) ∧ B.locs = P.locs ++ L ∧ B.cells = P.cells + 0 ∧ B.slots = P.slots + 0) := by
  subst hj
  intro m meth c P g ig mk a X hg hsize hdg hW hn hp'
  obtain ⟨rfl, rfl, r1, r2⟩ := hp'
  have al : Z.vm.Alike P.U.vm := hZ.alike.trans X.warmed.alike
  obtain ⟨A, hx⟩ := txt_of wi al E V C K hc hb l2
  obtain ⟨v, B, X', ⟨⟨hv, hh⟩, hl, hk, hs⟩, st⟩ := ChN.pays x t A cs.length (fun j => cs.getD j 0) z fm i (tabChN_of (movedChN hZ hw)) hfr hlo m meth c P g ig mk _ X hg hsize hdg hW hn ⟨r1, r2, rfl, hx, hi, sta_is al S, hz, sta_is al F, rf⟩
  exact ⟨v, B, X', ⟨[], ⟨hv, rfl, hh⟩, hl, hk, hs⟩, st⟩
/-- what backV says of its String, as the contracts of this text ask it: cs's low bytes, coder 0 -/
theorem codOf {cs : List Int32} {n : Nat} (hn : cs.length = n) (hb : ∀ c ∈ cs, ¬ 255 < c) : CodA cs 0 (Int32.ofNat n) ((cs.map lo8).map Value.int) := Or.inl ⟨rfl, by rw [hn], by simp [List.map_map, Function.comp_def], hb⟩
end StrChars.Road
end Jvm.Pilot.@@N@@
namespace Jvm.Pilot.@@N@@
namespace OwnS
open Jvm Jvm.ClassFile Sem Op Lib Jvm.Free Jvm.Stand Jvm.LawKit Jvm.RoadKit Bundle Jvm.OwnKit
abbrev ST : String := "java/lang/String"
/-- a String that spells cs -/
def Str (Z : State) (h : Heap) (x : Addr) (cs : List Int32) : Prop := Exa Z h x ST ∧ ∃ (t : Addr) (kb : ClassId) (cd N2 : Int32) (vs : List Value), Fld Z h x ST "value" "[B" (.ref t) ∧ Fld Z h x ST "coder" "B" (.int cd) ∧ Arv Z h t kb .byte N2 vs (.int 0) ∧ StrChars.Road.CodA cs cd N2 vs ∧ (∀ c ∈ cs, ¬ c < 0 ∧ ¬ (65535 : Int32) < c) ∧ cs.length ≤ 4000
section A
variable {k : Ctx} {R : Room} {Z : State} {EL : List (String × Nat)} {n0 n W : Nat} {h h' : Heap} {x b x' : Addr} {cs ds : List Int32} {a0 : Array Value} {kC : ClassId} {d v0 c0 : Value} {z N : Int32}
theorem Str.ext (S : Str Z h x cs) (E : Ext h h') : Str Z h' x cs := by
  obtain ⟨e, t, kb, cd, N2, vs, v, c, a, r⟩ := S
  exact ⟨e.ext E, t, kb, cd, N2, vs, v.ext E, c.ext E, a.ext E, r⟩
theorem old_le (hO : Old Z n0 h) : n0 ≤ h.size := hO.1 ▸ hO.2.1
theorem payV (hEL : EW Z a0 EL) (hws : ∀ d ∈ StrChars.Road.words, d.before a0 Z = true) (wi : (Jvm.Cond.instantiable ST 4).before a0 Z = true) (hO : Old Z n0 h) (hx0 : n0 ≤ x) (E : Exa Z h x ST) (V : Fld Z h x ST "value" "[B" v0) (C : Fld Z h x ST "coder" "B" c0) (K : Arv Z h b kC .char N (cs.map Value.int) d) (S : Sta Z Z.heap ST "COMPACT_STRINGS" "Z" (.int z)) (hz : ¬ z = 0)
    (hn : cs.length = n) (hN : N = Int32.ofNat n) (l0 : 0 < n) (l2 : n ≤ 4000) (hp : ∀ c ∈ cs, ¬ c < 0 ∧ ¬ (255 : Int32) < c) (hfr : 4 ≤ R.frames) (hlo : W + 65 ≤ R.locals) :
    Paid k R Z EL n0 (⟨"java/lang/String", "<init>", "([C)V"⟩ : MethodName) W #[.ref x, .ref b] h [x] 1 n (fun v h' => v = none ∧ Str Z h' x cs) :=
  Paid.of_back hEL (fun p l e s args below hZ => StrChars.Road.backV hZ hws wi hx0 (old_le hO) E V C K (S.ext hO.2) hz hn hN l0 l2 hp rfl hfr hlo) (fun v h' L q => by
    obtain ⟨q1, q2, q3, q4, q5, t, kb, -, -, -, q6, q7⟩ := q
    subst hN
    refine ⟨⟨q1, q4, t, kb, 0, _, _, q6, q5, q7, StrChars.Road.codOf hn (fun c hc => (hp c hc).2), fun c hc => ⟨(hp c hc).1, fun q => (hp c hc).2 ?_⟩, by omega⟩, q3, q2⟩
    rw [Int32.lt_iff_toInt_lt] at q ⊢
    have e0 : (255 : Int32).toInt = 255 := rfl
    have e1 : (65535 : Int32).toInt = 65535 := rfl
    omega)
end A
/-! the empty String -/
section Emp0
variable {k : Ctx} {R : Room} {Z : State} {EL : List (String × Nat)} {n0 n W : Nat} {h h' : Heap} {x b : Addr} {cs : List Int32} {a0 : Array Value} {kC : ClassId} {d v0 c0 : Value} {z N : Int32}
theorem e4_8 : decode StrChars.New4.yB 8 = .ok (.aload_n 0, 1) := by decide +kernel
theorem e4_9 : decode StrChars.New4.yB 9 = .ok (.ldc 7, 2) := by decide +kernel
theorem e4_11 : decode StrChars.New4.yB 11 = .ok (.getfield 9, 3) := by decide +kernel
theorem e4_14 : decode StrChars.New4.yB 14 = .ok (.putfield 9, 3) := by decide +kernel
theorem e4_17 : decode StrChars.New4.yB 17 = .ok (.aload_n 0, 1) := by decide +kernel
theorem e4_18 : decode StrChars.New4.yB 18 = .ok (.ldc 7, 2) := by decide +kernel
theorem e4_20 : decode StrChars.New4.yB 20 = .ok (.getfield 15, 3) := by decide +kernel
theorem e4_23 : decode StrChars.New4.yB 23 = .ok (.putfield 15, 3) := by decide +kernel
theorem e4_26 : decode StrChars.New4.yB 26 = .ok (.return_, 1) := by decide +kernel
theorem pnST : plainName "java/lang/String" = true := by first | (simp [plainName, overriddenIn]; done) | decide +kernel
theorem pd4 : parseMethodDescriptor "([CIILjava/lang/Void;)V" = some ⟨[.array .char, .int, .int, .object "java/lang/Void"], none⟩ := by decide +kernel
abbrev rm4 : Room := { frames := 1, cells := 4, slots := 8, locals := 12 }
abbrev rm1 : Room := { frames := 2, cells := 4, slots := 8, locals := 29 }
/-- the words that the empty road asks beside StrChars.Road.words -/
abbrev wordsE : List Jvm.Cond := [.stringLink ST 7 "", .instantiable ST 4, .soleField ST "value", .soleField ST "coder"]
theorem atomsOf (hws : ∀ d ∈ StrChars.Road.words, d.before a0 Z = true) (wi : (Jvm.Cond.instantiable ST 4).before a0 Z = true) (w1 : (Jvm.Cond.soleField ST "value").before a0 Z = true) (w2 : (Jvm.Cond.soleField ST "coder").before a0 Z = true) : ∀ a ∈ Bundle.stringAtoms, a.before a0 Z = true := fun a ha => by
  simp only [Bundle.stringAtoms, Bundle.sN, List.mem_cons, List.not_mem_nil, or_false] at ha
  rcases ha with rfl | rfl | rfl | rfl | rfl | rfl | rfl
  · exact hws _ (by decide +kernel)
  · exact wi
  · exact hws _ (by decide +kernel)
  · exact hws _ (by decide +kernel)
  · exact hws _ (by decide +kernel)
  · exact w1
  · exact w2
set_option maxRecDepth 65536 in
set_option maxHeartbeats 4000000 in
theorem met4 (hEL : EW Z a0 EL) (hmem : (ST, 7) ∈ EL) (hws : ∀ d ∈ StrChars.Road.words, d.before a0 Z = true) (hwe : ∀ d ∈ wordsE, d.before a0 Z = true) (hO : Old Z n0 h) (hx0 : n0 ≤ x) (E : Exa Z h x ST) (V : Fld Z h x ST "value" "[B" v0) (C : Fld Z h x ST "coder" "B" c0) :
    Met Z EL n0 StrChars.New4.yN StrChars.New4.yB 6 none rm4 #[.ref x, .ref b, .int 0, .int 0, .null] h [x] (fun v h' => v = none ∧ Str Z h' x []) := by
  have wi := hwe (.instantiable ST 4) (by decide +kernel)
  have wl := hwe (.stringLink ST 7 "") (by decide +kernel)
  have wS := atomsOf hws wi (hwe _ (by decide +kernel)) (hwe _ (by decide +kernel))
  have wfv := hws (.fieldLink ST 9 ST "value" "[B") (by decide +kernel)
  have wfc := hws (.fieldLink ST 15 ST "coder" "B") (by decide +kernel)
  have wlv := hws (.laysFinal ST ST "value" "[B") (by decide +kernel)
  have wlc := hws (.laysFinal ST ST "coder" "B") (by decide +kernel)
  refine Met.of_walk (a0 := a0) pnST hEL hO (allS ⟨E.lt, hx0⟩ all0) (L0 := #[.val (.ref x), .val (.ref b), .val (.int 0), .val (.int 0), .val .null, .unset]) (fun m => by first | (simp [entryFrame, mkF, argsToLocals, Value.category]; done) | rfl) rfl ?_
  intro k H0
  have H1 := H0.aloadN 1 StrChars.New4.d0 rfl
  have H2 := H1.initO 4 (hws (.methodLink ST 1 Lib.objectInit) (by decide +kernel)) (hws (.instanceMethod Lib.objectInit) (by decide +kernel)) (hws (.code Lib.objectInit ⟨#[0xb1]⟩ 1 none) (by decide +kernel)) StrChars.New4.d1 (by decide) (W := 0) (by decide) (by decide)
  have H3 := H2.iloadN 5 StrChars.New4.d4 rfl
  have H4 := H3.ifNo 8 StrChars.New4.d5 rfl
  have H5 := H4.aloadN 9 e4_8 rfl
  obtain ⟨a1, h1, b1, k1, E1, A1, C1, V1, K1, N1, H6⟩ := H5.ldcR 11 wl wS hEL hmem (vs := []) (z := 0) ⟨by simp, rfl⟩ (by decide) rfl e4_9 (n := 0) (by decide) (by decide) (by decide) (by decide)
  have H7 := H6.getF 14 wfv V1 e4_11
  obtain ⟨h2, W2, K2, E2, F2, H8⟩ := H7.putF 17 wfv (V.ext E1) (E.ext E1) (Or.inr ⟨wlv, rfl, rfl⟩) wi (ty := .array .byte) (by decide) rfl rfl e4_14 (List.mem_cons_self ..)
  have nvc : RoadKit.slotOf Z ST "coder" "B" ≠ RoadKit.slotOf Z ST "value" "[B" := slot_ne (Or.inr wlc) (Or.inr wlv) (by decide) (t := .byte) (by decide) (t' := .array .byte) (by decide)
  have C2 : Fld Z h2 x ST "coder" "B" c0 := (C.ext E1).other W2 (Or.inr nvc)
  have H9 := H8.aloadN 18 e4_17 rfl
  obtain ⟨a3, h3, b3, k3, E3, A3, C3, V3, K3, N3, H10⟩ := H9.ldcR 20 wl wS hEL hmem (vs := []) (z := 0) ⟨by simp, rfl⟩ (by decide) rfl e4_18 (n := 0) (by decide) (by decide) (by decide) (by decide)
  have H11 := H10.getF 23 wfc C3 e4_20
  obtain ⟨h4, W4, K4, E4, F4, H12⟩ := H11.putF 26 wfc (C2.ext E3) (E2.ext E3) (Or.inr ⟨wlc, rfl, rfl⟩) wi (ty := .byte) (by decide) rfl rfl e4_23 (List.mem_cons_self ..)
  have nx : b1 ∉ [x] := ninS (fun q => (N1 x (List.mem_cons_self ..)).2 q.symm) nin0
  refine H12.retV rfl e4_26 (by decide) (by decide) ⟨rfl, E4, b1, k1, 0, 0, [], (F2.ext E3).other W4 (Or.inr (Ne.symm nvc)), F4, ((K1.keep K2 nx).ext E3).keep K4 nx, Or.inl ⟨rfl, rfl, rfl, by simp⟩, by simp, by simp⟩
set_option maxRecDepth 65536 in
set_option maxHeartbeats 4000000 in
theorem met1 (hEL : EW Z a0 EL) (hmem : (ST, 7) ∈ EL) (hws : ∀ d ∈ StrChars.Road.words, d.before a0 Z = true) (hwe : ∀ d ∈ wordsE, d.before a0 Z = true) (hO : Old Z n0 h) (hx0 : n0 ≤ x) (E : Exa Z h x ST) (V : Fld Z h x ST "value" "[B" v0) (C : Fld Z h x ST "coder" "B" c0) {vs : List Value} (K : Arv Z h b kC .char 0 vs d) :
    Met Z EL n0 StrChars.New1.yN StrChars.New1.yB 2 none rm1 #[.ref x, .ref b] h [x] (fun v h' => v = none ∧ Str Z h' x []) := by
  refine Met.of_walk (a0 := a0) pnST hEL hO (allS ⟨E.lt, hx0⟩ all0) (L0 := #[.val (.ref x), .val (.ref b)]) (fun m => by first | (simp [entryFrame, mkF, argsToLocals, Value.category]; done) | rfl) rfl ?_
  intro k H0
  have H1 := H0.aloadN 1 StrChars.New1.d0 rfl
  have H2 := H1.aloadN 2 StrChars.New1.d1 rfl
  have H3 := H2.iconst 3 0 StrChars.New1.d2
  have H4 := H3.aloadN 4 StrChars.New1.d3 rfl
  have H5 := H4.alen 5 K StrChars.New1.d4
  have H6 := H5.anull 6 StrChars.New1.d5
  obtain ⟨v, h', ⟨rfl, hQ⟩, hK, H7⟩ := H6.callI 9 (z := StrChars.New4.yN) rfl (hws (.methodLink ST 27 StrChars.New4.yN) (by decide +kernel)) (hws (.instanceMethod StrChars.New4.yN) (by decide +kernel)) (hws (.code StrChars.New4.yN StrChars.New4.yB 6 none) (by decide +kernel)) (by decide) (a := x) (argsL := [.ref b, .int 0, .int 0, .null]) (rest := [])
    (Paid.of_met (W := 0) (met4 (b := b) hEL hmem hws hwe hO hx0 E V C) (hws (.code StrChars.New4.yN StrChars.New4.yB 6 none) (by decide +kernel)) (hws (.initialized ST) (by decide +kernel)) hEL (by decide) (by decide)) (lenOf pd4 rfl) rfl (by decide) StrChars.New1.d6 (by decide) (by decide) (fun x q => q)
  exact H7.retV rfl StrChars.New1.d9 (by decide) (by decide) ⟨rfl, hQ⟩
/-- new String(char[]) of any known chars up to 255, the empty one too: 4 cells, n + 8 slots -/
theorem payStr (hEL : EW Z a0 EL) (hmem : (ST, 7) ∈ EL) (hws : ∀ d ∈ StrChars.Road.words, d.before a0 Z = true) (hwe : ∀ d ∈ wordsE, d.before a0 Z = true) (hO : Old Z n0 h) (hx0 : n0 ≤ x) (E : Exa Z h x ST) (V : Fld Z h x ST "value" "[B" v0) (C : Fld Z h x ST "coder" "B" c0) (K : Arv Z h b kC .char N (cs.map Value.int) d) (S : Sta Z Z.heap ST "COMPACT_STRINGS" "Z" (.int z)) (hz : ¬ z = 0)
    {cap : Nat} (hn : cs.length = n) (hcap : n ≤ cap) (hN : N = Int32.ofNat n) (l2 : cap ≤ 4000) (hp : ∀ c ∈ cs, ¬ c < 0 ∧ ¬ (255 : Int32) < c) (hfr : 4 ≤ R.frames) (hlo : W + 65 ≤ R.locals) :
    Paid k R Z EL n0 (⟨"java/lang/String", "<init>", "([C)V"⟩ : MethodName) W #[.ref x, .ref b] h [x] 4 (cap + 8) (fun v h' => v = none ∧ Str Z h' x cs) := by
  rcases Nat.eq_zero_or_pos n with h0 | h0
  · subst h0
    subst hN
    obtain rfl : cs = [] := List.eq_nil_of_length_eq_zero hn
    exact (Paid.of_met (met1 hEL hmem hws hwe hO hx0 E V C K) (hws (.code StrChars.New1.yN StrChars.New1.yB 2 none) (by decide +kernel)) (hws (.initialized ST) (by decide +kernel)) hEL (by show 2 + 1 ≤ _; omega) (by show W + (2 + 11) + 29 ≤ _; omega)).more (by decide) (by show 8 ≤ _; omega)
  · exact (payV hEL hws (hwe _ (by decide +kernel)) hO hx0 E V C K S hz hn hN h0 (by omega) hp hfr hlo).more (by decide) (by omega)
end Emp0
/-! equals, isEmpty, length, charAt -/
section Calls0
variable {k : Ctx} {R : Room} {Z : State} {EL : List (String × Nat)} {n0 W : Nat} {h : Heap} {x x' : Addr} {cs ds : List Int32} {a0 : Array Value} {z : Int32}
theorem frOf {L : List Loc} (q : L = []) : Fr n0 L := by subst q; exact Fr.nil n0
theorem payLen (hEL : EW Z a0 EL) (hw : ∀ d ∈ StrChars.Road.wordsLen, d.before a0 Z = true) (wi : (Jvm.Cond.instantiable ST 4).before a0 Z = true) (hO : Old Z n0 h) (A : Str Z h x cs) (S : Sta Z Z.heap ST "COMPACT_STRINGS" "Z" (.int z)) (hz : ¬ z = 0) (hfr : 2 ≤ R.frames) (hlo : W + 25 ≤ R.locals) :
    Paid k R Z EL n0 (⟨"java/lang/String", "length", "()I"⟩ : MethodName) W #[.ref x] h [] 0 0 (fun v h' => h' = h ∧ v = some (.int (Int32.ofNat cs.length))) := by
  obtain ⟨a1, a2, a3, a4, a5, a6, a7, a8, a9, a10, a11, a12⟩ := A
  exact Paid.of_back (QB := fun v h' L => v = some (.int (Int32.ofNat cs.length)) ∧ L = [] ∧ h' = h) hEL (fun p l e s args below hZ => StrChars.Road.lenW hZ hw wi a1 a7 a8 a9 a10 a11 (S.ext hO.2) hz a12 hfr hlo) (fun v h' L q => by
    obtain ⟨q1, q2, rfl⟩ := q
    exact ⟨⟨rfl, q1⟩, Keep.refl _ _, frOf q2⟩)
theorem payCh (hEL : EW Z a0 EL) (hw : ∀ d ∈ StrChars.Road.wordsChN, d.before a0 Z = true) (wi : (Jvm.Cond.instantiable ST 4).before a0 Z = true) (hO : Old Z n0 h) (A : Str Z h x cs) (h8 : ∀ c ∈ cs, ¬ (255 : Int32) < c) (S : Sta Z Z.heap ST "COMPACT_STRINGS" "Z" (.int z)) (hz : ¬ z = 0) {fm : Value} (F : Sta Z Z.heap "jdk/internal/util/Preconditions" "SIOOBE_FORMATTER" "Ljava/util/function/BiFunction;" fm) (rf : fm.isRef = true) {i : Nat} {j : Int32} (hi : i < cs.length) (hj : j = Int32.ofNat i) (hfr : 4 ≤ R.frames) (hlo : W + 53 ≤ R.locals) :
    Paid k R Z EL n0 (⟨"java/lang/String", "charAt", "(I)C"⟩ : MethodName) W #[.ref x, .int j] h [] 0 0 (fun v h' => h' = h ∧ v = some (.int (cs.getD i 0))) := by
  obtain ⟨a1, a2, a3, a4, a5, a6, a7, a8, a9, a10, a11, a12⟩ := A
  have hcd : a4 = 0 := by
    rcases a10 with q | q
    · exact q.1
    · obtain ⟨c, hc, hq⟩ := q.2.2.2; exact absurd hq (h8 c hc)
  subst hcd
  exact Paid.of_back (QB := fun v h' L => v = some (.int (cs.getD i 0)) ∧ L = [] ∧ h' = h) hEL (fun p l e s args below hZ => StrChars.Road.chN hZ hw wi a1 a7 a8 a9 a10 a11 (S.ext hO.2) hz (F.ext hO.2) rf a12 hi hj hfr hlo) (fun v h' L q => by
    obtain ⟨q1, q2, rfl⟩ := q
    exact ⟨⟨rfl, q1⟩, Keep.refl _ _, frOf q2⟩)
end Calls0
end OwnS
end Jvm.Pilot.@@N@@
namespace Jvm.Pilot.@@N@@
open Jvm Jvm.ClassFile Sem Op Lib Jvm.Free Jvm.Stand Jvm.LawKit Jvm.RoadKit Bundle Jvm.OwnKit OwnS Jvm.Pilot.@@N@@.Jvm.D

abbrev C8 (x : Int32) : Prop := ¬ x < 0 ∧ ¬ (255 : Int32) < x
theorem C8.nar {x : Int32} (h : C8 x) : nar .char x = x := nar_char h.1 (fun q => h.2 (by rw [Int32.lt_iff_toInt_lt] at q ⊢; have e0 : (255 : Int32).toInt = 255 := rfl; have e1 : (65535 : Int32).toInt = 65535 := rfl; omega))
theorem c8m (p : Int32) : C8 ((p &&& (255 : Int32)).toUInt32.toUInt16.toUInt32.toInt32) := by
  rw [i2c_mask]
  obtain ⟨q1, q2⟩ := c_and p 255 (by decide)
  have e0 : (255 : Int32).toInt = 255 := rfl
  have e1 : (0 : Int32).toInt = 0 := rfl
  constructor <;> rw [Int32.lt_iff_toInt_lt] <;> omega
theorem mask3 (p : Int32) : (p &&& (3 : Int32)) = 0 ∨ (p &&& (3 : Int32)) = 1 ∨ (p &&& (3 : Int32)) = 2 ∨ (p &&& (3 : Int32)) = 3 := by
  obtain ⟨q1, q2⟩ := c_and p 3 (by decide)
  have e3 : (3 : Int32).toInt = 3 := rfl
  have e2 : (2 : Int32).toInt = 2 := rfl
  have e1 : (1 : Int32).toInt = 1 := rfl
  have e0 : (0 : Int32).toInt = 0 := rfl
  have : (p &&& 3).toInt = 0 ∨ (p &&& 3).toInt = 1 ∨ (p &&& 3).toInt = 2 ∨ (p &&& 3).toInt = 3 := by omega
  rcases this with q | q | q | q
  · exact Or.inl (Int32.toInt_inj.mp (q.trans e0.symm))
  · exact Or.inr (Or.inl (Int32.toInt_inj.mp (q.trans e1.symm)))
  · exact Or.inr (Or.inr (Or.inl (Int32.toInt_inj.mp (q.trans e2.symm))))
  · exact Or.inr (Or.inr (Or.inr (Int32.toInt_inj.mp (q.trans e3.symm))))
abbrev In4 (t : Int32) : Prop := t = 0 ∨ t = 1 ∨ t = 2 ∨ t = 3
def chs (l x0 x1 x2 : Int32) : List Int32 := if l = 0 then [] else if l = 1 then [x0] else if l = 2 then [x0, x1] else [x0, x1, x2]
theorem chs_len {l : Int32} (x0 x1 x2 : Int32) (hl : In4 l) : l = Int32.ofNat (chs l x0 x1 x2).length := by rcases hl with rfl | rfl | rfl | rfl <;> rfl
theorem chs_le (l x0 x1 x2 : Int32) : (chs l x0 x1 x2).length ≤ 3 := by
  unfold chs
  split
  · simp
  split
  · simp
  split <;> simp
theorem chs_c8 {l x0 x1 x2 : Int32} (c0 : C8 x0) (c1 : C8 x1) (c2 : C8 x2) : ∀ c ∈ chs l x0 x1 x2, ¬ c < 0 ∧ ¬ (255 : Int32) < c := by
  intro c hc
  unfold chs at hc
  split at hc
  · simp at hc
  split at hc
  · simp only [List.mem_cons, List.not_mem_nil, or_false] at hc; subst hc; exact c0
  split at hc
  · simp only [List.mem_cons, List.not_mem_nil, or_false] at hc; rcases hc with rfl | rfl <;> first | exact c0 | exact c1
  · simp only [List.mem_cons, List.not_mem_nil, or_false] at hc; rcases hc with rfl | rfl | rfl <;> first | exact c0 | exact c1 | exact c2

theorem dCp_0 : decode method_2_code 0 = .ok (.iload_n 0, 1) := by decide +kernel
theorem dCp_1 : decode method_2_code 1 = .ok (.ldc 7, 2) := by decide +kernel
theorem dCp_3 : decode method_2_code 3 = .ok (.iand, 1) := by decide +kernel
theorem dCp_4 : decode method_2_code 4 = .ok (.ldc 8, 2) := by decide +kernel
theorem dCp_6 : decode method_2_code 6 = .ok (.irem, 1) := by decide +kernel
theorem dCp_7 : decode method_2_code 7 = .ok (.istore_n 1, 1) := by decide +kernel
theorem dCp_8 : decode method_2_code 8 = .ok (.iload_n 1, 1) := by decide +kernel
theorem dCp_9 : decode method_2_code 9 = .ok (.ldc 9, 2) := by decide +kernel
theorem dCp_11 : decode method_2_code 11 = .ok (.if_icmp .lt 15, 3) := by decide +kernel
theorem dCp_14 : decode method_2_code 14 = .ok (.iload_n 1, 1) := by decide +kernel
theorem dCp_15 : decode method_2_code 15 = .ok (.ldc 10, 2) := by decide +kernel
theorem dCp_17 : decode method_2_code 17 = .ok (.if_icmp .gt 9, 3) := by decide +kernel
theorem dCp_20 : decode method_2_code 20 = .ok (.iload_n 1, 1) := by decide +kernel
theorem dCp_21 : decode method_2_code 21 = .ok (.sipush 2048, 3) := by decide +kernel
theorem dCp_24 : decode method_2_code 24 = .ok (.iadd, 1) := by decide +kernel
theorem dCp_25 : decode method_2_code 25 = .ok (.istore_n 1, 1) := by decide +kernel
theorem dCp_26 : decode method_2_code 26 = .ok (.iload_n 1, 1) := by decide +kernel
theorem dCp_27 : decode method_2_code 27 = .ok (.ireturn, 1) := by decide +kernel
theorem dPt_0 : decode method_3_code 0 = .ok (.iload_n 2, 1) := by decide +kernel
theorem dPt_1 : decode method_3_code 1 = .ok (.ldc 11, 2) := by decide +kernel
theorem dPt_3 : decode method_3_code 3 = .ok (.if_icmp .ge 12, 3) := by decide +kernel
theorem dPt_6 : decode method_3_code 6 = .ok (.aload_n 0, 1) := by decide +kernel
theorem dPt_7 : decode method_3_code 7 = .ok (.iload_n 1, 1) := by decide +kernel
theorem dPt_8 : decode method_3_code 8 = .ok (.iload_n 2, 1) := by decide +kernel
theorem dPt_9 : decode method_3_code 9 = .ok (.i2c, 1) := by decide +kernel
theorem dPt_10 : decode method_3_code 10 = .ok (.castore, 1) := by decide +kernel
theorem dPt_11 : decode method_3_code 11 = .ok (.iload_n 1, 1) := by decide +kernel
theorem dPt_12 : decode method_3_code 12 = .ok (.iconst 1, 1) := by decide +kernel
theorem dPt_13 : decode method_3_code 13 = .ok (.iadd, 1) := by decide +kernel
theorem dPt_14 : decode method_3_code 14 = .ok (.ireturn, 1) := by decide +kernel
theorem dPt_15 : decode method_3_code 15 = .ok (.iload_n 2, 1) := by decide +kernel
theorem dPt_16 : decode method_3_code 16 = .ok (.ldc 11, 2) := by decide +kernel
theorem dPt_18 : decode method_3_code 18 = .ok (.isub, 1) := by decide +kernel
theorem dPt_19 : decode method_3_code 19 = .ok (.istore_n 3, 1) := by decide +kernel
theorem dPt_20 : decode method_3_code 20 = .ok (.aload_n 0, 1) := by decide +kernel
theorem dPt_21 : decode method_3_code 21 = .ok (.iload_n 1, 1) := by decide +kernel
theorem dPt_22 : decode method_3_code 22 = .ok (.ldc 9, 2) := by decide +kernel
theorem dPt_24 : decode method_3_code 24 = .ok (.iload_n 3, 1) := by decide +kernel
theorem dPt_25 : decode method_3_code 25 = .ok (.bipush 10, 2) := by decide +kernel
theorem dPt_27 : decode method_3_code 27 = .ok (.ishr, 1) := by decide +kernel
theorem dPt_28 : decode method_3_code 28 = .ok (.iadd, 1) := by decide +kernel
theorem dPt_29 : decode method_3_code 29 = .ok (.i2c, 1) := by decide +kernel
theorem dPt_30 : decode method_3_code 30 = .ok (.castore, 1) := by decide +kernel
theorem dPt_31 : decode method_3_code 31 = .ok (.aload_n 0, 1) := by decide +kernel
theorem dPt_32 : decode method_3_code 32 = .ok (.iload_n 1, 1) := by decide +kernel
theorem dPt_33 : decode method_3_code 33 = .ok (.iconst 1, 1) := by decide +kernel
theorem dPt_34 : decode method_3_code 34 = .ok (.iadd, 1) := by decide +kernel
theorem dPt_35 : decode method_3_code 35 = .ok (.ldc 12, 2) := by decide +kernel
theorem dPt_37 : decode method_3_code 37 = .ok (.iload_n 3, 1) := by decide +kernel
theorem dPt_38 : decode method_3_code 38 = .ok (.sipush 1023, 3) := by decide +kernel
theorem dPt_41 : decode method_3_code 41 = .ok (.iand, 1) := by decide +kernel
theorem dPt_42 : decode method_3_code 42 = .ok (.iadd, 1) := by decide +kernel
theorem dPt_43 : decode method_3_code 43 = .ok (.i2c, 1) := by decide +kernel
theorem dPt_44 : decode method_3_code 44 = .ok (.castore, 1) := by decide +kernel
theorem dPt_45 : decode method_3_code 45 = .ok (.iload_n 1, 1) := by decide +kernel
theorem dPt_46 : decode method_3_code 46 = .ok (.iconst 2, 1) := by decide +kernel
theorem dPt_47 : decode method_3_code 47 = .ok (.iadd, 1) := by decide +kernel
theorem dPt_48 : decode method_3_code 48 = .ok (.ireturn, 1) := by decide +kernel
theorem dXa_0 : decode method_4_code 0 = .ok (.iload_n 1, 1) := by decide +kernel
theorem dXa_1 : decode method_4_code 1 = .ok (.ifCond .ne 14, 3) := by decide +kernel
theorem dXa_4 : decode method_4_code 4 = .ok (.new 13, 3) := by decide +kernel
theorem dXa_7 : decode method_4_code 7 = .ok (.dup, 1) := by decide +kernel
theorem dXa_8 : decode method_4_code 8 = .ok (.iconst 0, 1) := by decide +kernel
theorem dXa_9 : decode method_4_code 9 = .ok (.newarray .char, 2) := by decide +kernel
theorem dXa_11 : decode method_4_code 11 = .ok (.invokespecial 15, 3) := by decide +kernel
theorem dXa_14 : decode method_4_code 14 = .ok (.areturn, 1) := by decide +kernel
theorem dXa_15 : decode method_4_code 15 = .ok (.iload_n 1, 1) := by decide +kernel
theorem dXa_16 : decode method_4_code 16 = .ok (.iconst 1, 1) := by decide +kernel
theorem dXa_17 : decode method_4_code 17 = .ok (.if_icmp .ne 20, 3) := by decide +kernel
theorem dXa_20 : decode method_4_code 20 = .ok (.new 13, 3) := by decide +kernel
theorem dXa_23 : decode method_4_code 23 = .ok (.dup, 1) := by decide +kernel
theorem dXa_24 : decode method_4_code 24 = .ok (.iconst 1, 1) := by decide +kernel
theorem dXa_25 : decode method_4_code 25 = .ok (.newarray .char, 2) := by decide +kernel
theorem dXa_27 : decode method_4_code 27 = .ok (.dup, 1) := by decide +kernel
theorem dXa_28 : decode method_4_code 28 = .ok (.iconst 0, 1) := by decide +kernel
theorem dXa_29 : decode method_4_code 29 = .ok (.aload_n 0, 1) := by decide +kernel
theorem dXa_30 : decode method_4_code 30 = .ok (.iconst 0, 1) := by decide +kernel
theorem dXa_31 : decode method_4_code 31 = .ok (.caload, 1) := by decide +kernel
theorem dXa_32 : decode method_4_code 32 = .ok (.castore, 1) := by decide +kernel
theorem dXa_33 : decode method_4_code 33 = .ok (.invokespecial 15, 3) := by decide +kernel
theorem dXa_36 : decode method_4_code 36 = .ok (.areturn, 1) := by decide +kernel
theorem dXa_37 : decode method_4_code 37 = .ok (.iload_n 1, 1) := by decide +kernel
theorem dXa_38 : decode method_4_code 38 = .ok (.iconst 2, 1) := by decide +kernel
theorem dXa_39 : decode method_4_code 39 = .ok (.if_icmp .ne 26, 3) := by decide +kernel
theorem dXa_42 : decode method_4_code 42 = .ok (.new 13, 3) := by decide +kernel
theorem dXa_45 : decode method_4_code 45 = .ok (.dup, 1) := by decide +kernel
theorem dXa_46 : decode method_4_code 46 = .ok (.iconst 2, 1) := by decide +kernel
theorem dXa_47 : decode method_4_code 47 = .ok (.newarray .char, 2) := by decide +kernel
theorem dXa_49 : decode method_4_code 49 = .ok (.dup, 1) := by decide +kernel
theorem dXa_50 : decode method_4_code 50 = .ok (.iconst 0, 1) := by decide +kernel
theorem dXa_51 : decode method_4_code 51 = .ok (.aload_n 0, 1) := by decide +kernel
theorem dXa_52 : decode method_4_code 52 = .ok (.iconst 0, 1) := by decide +kernel
theorem dXa_53 : decode method_4_code 53 = .ok (.caload, 1) := by decide +kernel
theorem dXa_54 : decode method_4_code 54 = .ok (.castore, 1) := by decide +kernel
theorem dXa_55 : decode method_4_code 55 = .ok (.dup, 1) := by decide +kernel
theorem dXa_56 : decode method_4_code 56 = .ok (.iconst 1, 1) := by decide +kernel
theorem dXa_57 : decode method_4_code 57 = .ok (.aload_n 0, 1) := by decide +kernel
theorem dXa_58 : decode method_4_code 58 = .ok (.iconst 1, 1) := by decide +kernel
theorem dXa_59 : decode method_4_code 59 = .ok (.caload, 1) := by decide +kernel
theorem dXa_60 : decode method_4_code 60 = .ok (.castore, 1) := by decide +kernel
theorem dXa_61 : decode method_4_code 61 = .ok (.invokespecial 15, 3) := by decide +kernel
theorem dXa_64 : decode method_4_code 64 = .ok (.areturn, 1) := by decide +kernel
theorem dXa_65 : decode method_4_code 65 = .ok (.iload_n 1, 1) := by decide +kernel
theorem dXa_66 : decode method_4_code 66 = .ok (.iconst 3, 1) := by decide +kernel
theorem dXa_67 : decode method_4_code 67 = .ok (.if_icmp .ne 32, 3) := by decide +kernel
theorem dXa_70 : decode method_4_code 70 = .ok (.new 13, 3) := by decide +kernel
theorem dXa_73 : decode method_4_code 73 = .ok (.dup, 1) := by decide +kernel
theorem dXa_74 : decode method_4_code 74 = .ok (.iconst 3, 1) := by decide +kernel
theorem dXa_75 : decode method_4_code 75 = .ok (.newarray .char, 2) := by decide +kernel
theorem dXa_77 : decode method_4_code 77 = .ok (.dup, 1) := by decide +kernel
theorem dXa_78 : decode method_4_code 78 = .ok (.iconst 0, 1) := by decide +kernel
theorem dXa_79 : decode method_4_code 79 = .ok (.aload_n 0, 1) := by decide +kernel
theorem dXa_80 : decode method_4_code 80 = .ok (.iconst 0, 1) := by decide +kernel
theorem dXa_81 : decode method_4_code 81 = .ok (.caload, 1) := by decide +kernel
theorem dXa_82 : decode method_4_code 82 = .ok (.castore, 1) := by decide +kernel
theorem dXa_83 : decode method_4_code 83 = .ok (.dup, 1) := by decide +kernel
theorem dXa_84 : decode method_4_code 84 = .ok (.iconst 1, 1) := by decide +kernel
theorem dXa_85 : decode method_4_code 85 = .ok (.aload_n 0, 1) := by decide +kernel
theorem dXa_86 : decode method_4_code 86 = .ok (.iconst 1, 1) := by decide +kernel
theorem dXa_87 : decode method_4_code 87 = .ok (.caload, 1) := by decide +kernel
theorem dXa_88 : decode method_4_code 88 = .ok (.castore, 1) := by decide +kernel
theorem dXa_89 : decode method_4_code 89 = .ok (.dup, 1) := by decide +kernel
theorem dXa_90 : decode method_4_code 90 = .ok (.iconst 2, 1) := by decide +kernel
theorem dXa_91 : decode method_4_code 91 = .ok (.aload_n 0, 1) := by decide +kernel
theorem dXa_92 : decode method_4_code 92 = .ok (.iconst 2, 1) := by decide +kernel
theorem dXa_93 : decode method_4_code 93 = .ok (.caload, 1) := by decide +kernel
theorem dXa_94 : decode method_4_code 94 = .ok (.castore, 1) := by decide +kernel
theorem dXa_95 : decode method_4_code 95 = .ok (.invokespecial 15, 3) := by decide +kernel
theorem dXa_98 : decode method_4_code 98 = .ok (.areturn, 1) := by decide +kernel
theorem dXa_99 : decode method_4_code 99 = .ok (.new 13, 3) := by decide +kernel
theorem dXa_102 : decode method_4_code 102 = .ok (.dup, 1) := by decide +kernel
theorem dXa_103 : decode method_4_code 103 = .ok (.iconst 4, 1) := by decide +kernel
theorem dXa_104 : decode method_4_code 104 = .ok (.newarray .char, 2) := by decide +kernel
theorem dXa_106 : decode method_4_code 106 = .ok (.dup, 1) := by decide +kernel
theorem dXa_107 : decode method_4_code 107 = .ok (.iconst 0, 1) := by decide +kernel
theorem dXa_108 : decode method_4_code 108 = .ok (.aload_n 0, 1) := by decide +kernel
theorem dXa_109 : decode method_4_code 109 = .ok (.iconst 0, 1) := by decide +kernel
theorem dXa_110 : decode method_4_code 110 = .ok (.caload, 1) := by decide +kernel
theorem dXa_111 : decode method_4_code 111 = .ok (.castore, 1) := by decide +kernel
theorem dXa_112 : decode method_4_code 112 = .ok (.dup, 1) := by decide +kernel
theorem dXa_113 : decode method_4_code 113 = .ok (.iconst 1, 1) := by decide +kernel
theorem dXa_114 : decode method_4_code 114 = .ok (.aload_n 0, 1) := by decide +kernel
theorem dXa_115 : decode method_4_code 115 = .ok (.iconst 1, 1) := by decide +kernel
theorem dXa_116 : decode method_4_code 116 = .ok (.caload, 1) := by decide +kernel
theorem dXa_117 : decode method_4_code 117 = .ok (.castore, 1) := by decide +kernel
theorem dXa_118 : decode method_4_code 118 = .ok (.dup, 1) := by decide +kernel
theorem dXa_119 : decode method_4_code 119 = .ok (.iconst 2, 1) := by decide +kernel
theorem dXa_120 : decode method_4_code 120 = .ok (.aload_n 0, 1) := by decide +kernel
theorem dXa_121 : decode method_4_code 121 = .ok (.iconst 2, 1) := by decide +kernel
theorem dXa_122 : decode method_4_code 122 = .ok (.caload, 1) := by decide +kernel
theorem dXa_123 : decode method_4_code 123 = .ok (.castore, 1) := by decide +kernel
theorem dXa_124 : decode method_4_code 124 = .ok (.dup, 1) := by decide +kernel
theorem dXa_125 : decode method_4_code 125 = .ok (.iconst 3, 1) := by decide +kernel
theorem dXa_126 : decode method_4_code 126 = .ok (.aload_n 0, 1) := by decide +kernel
theorem dXa_127 : decode method_4_code 127 = .ok (.iconst 3, 1) := by decide +kernel
theorem dXa_128 : decode method_4_code 128 = .ok (.caload, 1) := by decide +kernel
theorem dXa_129 : decode method_4_code 129 = .ok (.castore, 1) := by decide +kernel
theorem dXa_130 : decode method_4_code 130 = .ok (.invokespecial 15, 3) := by decide +kernel
theorem dXa_133 : decode method_4_code 133 = .ok (.areturn, 1) := by decide +kernel
theorem dSt_0 : decode method_5_code 0 = .ok (.iconst 4, 1) := by decide +kernel
theorem dSt_1 : decode method_5_code 1 = .ok (.newarray .char, 2) := by decide +kernel
theorem dSt_3 : decode method_5_code 3 = .ok (.astore_n 3, 1) := by decide +kernel
theorem dSt_4 : decode method_5_code 4 = .ok (.iconst 0, 1) := by decide +kernel
theorem dSt_5 : decode method_5_code 5 = .ok (.istore 4, 2) := by decide +kernel
theorem dSt_7 : decode method_5_code 7 = .ok (.iload_n 0, 1) := by decide +kernel
theorem dSt_8 : decode method_5_code 8 = .ok (.iconst 1, 1) := by decide +kernel
theorem dSt_9 : decode method_5_code 9 = .ok (.if_icmp .lt 12, 3) := by decide +kernel
theorem dSt_12 : decode method_5_code 12 = .ok (.aload_n 3, 1) := by decide +kernel
theorem dSt_13 : decode method_5_code 13 = .ok (.iload 4, 2) := by decide +kernel
theorem dSt_15 : decode method_5_code 15 = .ok (.iload_n 1, 1) := by decide +kernel
theorem dSt_16 : decode method_5_code 16 = .ok (.invokestatic 18, 3) := by decide +kernel
theorem dSt_19 : decode method_5_code 19 = .ok (.istore 4, 2) := by decide +kernel
theorem dSt_21 : decode method_5_code 21 = .ok (.iload_n 0, 1) := by decide +kernel
theorem dSt_22 : decode method_5_code 22 = .ok (.iconst 2, 1) := by decide +kernel
theorem dSt_23 : decode method_5_code 23 = .ok (.if_icmp .lt 12, 3) := by decide +kernel
theorem dSt_26 : decode method_5_code 26 = .ok (.aload_n 3, 1) := by decide +kernel
theorem dSt_27 : decode method_5_code 27 = .ok (.iload 4, 2) := by decide +kernel
theorem dSt_29 : decode method_5_code 29 = .ok (.iload_n 2, 1) := by decide +kernel
theorem dSt_30 : decode method_5_code 30 = .ok (.invokestatic 18, 3) := by decide +kernel
theorem dSt_33 : decode method_5_code 33 = .ok (.istore 4, 2) := by decide +kernel
theorem dSt_35 : decode method_5_code 35 = .ok (.aload_n 3, 1) := by decide +kernel
theorem dSt_36 : decode method_5_code 36 = .ok (.iload 4, 2) := by decide +kernel
theorem dSt_38 : decode method_5_code 38 = .ok (.invokestatic 24, 3) := by decide +kernel
theorem dSt_41 : decode method_5_code 41 = .ok (.areturn, 1) := by decide +kernel
theorem dCmp_0 : decode method_6_code 0 = .ok (.iload_n 0, 1) := by decide +kernel
theorem dCmp_1 : decode method_6_code 1 = .ok (.iload_n 1, 1) := by decide +kernel
theorem dCmp_2 : decode method_6_code 2 = .ok (.if_icmp .ge 5, 3) := by decide +kernel
theorem dCmp_5 : decode method_6_code 5 = .ok (.iconst (-1), 1) := by decide +kernel
theorem dCmp_6 : decode method_6_code 6 = .ok (.ireturn, 1) := by decide +kernel
theorem dCmp_7 : decode method_6_code 7 = .ok (.iload_n 0, 1) := by decide +kernel
theorem dCmp_8 : decode method_6_code 8 = .ok (.iload_n 1, 1) := by decide +kernel
theorem dCmp_9 : decode method_6_code 9 = .ok (.if_icmp .le 5, 3) := by decide +kernel
theorem dCmp_12 : decode method_6_code 12 = .ok (.iconst 1, 1) := by decide +kernel
theorem dCmp_13 : decode method_6_code 13 = .ok (.ireturn, 1) := by decide +kernel
theorem dCmp_14 : decode method_6_code 14 = .ok (.iconst 0, 1) := by decide +kernel
theorem dCmp_15 : decode method_6_code 15 = .ok (.ireturn, 1) := by decide +kernel
theorem dSg_0 : decode method_7_code 0 = .ok (.iload_n 0, 1) := by decide +kernel
theorem dSg_1 : decode method_7_code 1 = .ok (.ifCond .ge 5, 3) := by decide +kernel
theorem dSg_4 : decode method_7_code 4 = .ok (.iconst (-1), 1) := by decide +kernel
theorem dSg_5 : decode method_7_code 5 = .ok (.ireturn, 1) := by decide +kernel
theorem dSg_6 : decode method_7_code 6 = .ok (.iload_n 0, 1) := by decide +kernel
theorem dSg_7 : decode method_7_code 7 = .ok (.ifCond .le 5, 3) := by decide +kernel
theorem dSg_10 : decode method_7_code 10 = .ok (.iconst 1, 1) := by decide +kernel
theorem dSg_11 : decode method_7_code 11 = .ok (.ireturn, 1) := by decide +kernel
theorem dSg_12 : decode method_7_code 12 = .ok (.iconst 0, 1) := by decide +kernel
theorem dSg_13 : decode method_7_code 13 = .ok (.ireturn, 1) := by decide +kernel
theorem dRf_0 : decode method_8_code 0 = .ok (.iload_n 0, 1) := by decide +kernel
theorem dRf_1 : decode method_8_code 1 = .ok (.iconst 1, 1) := by decide +kernel
theorem dRf_2 : decode method_8_code 2 = .ok (.if_icmp .lt 44, 3) := by decide +kernel
theorem dRf_5 : decode method_8_code 5 = .ok (.iload_n 3, 1) := by decide +kernel
theorem dRf_6 : decode method_8_code 6 = .ok (.iconst 1, 1) := by decide +kernel
theorem dRf_7 : decode method_8_code 7 = .ok (.if_icmp .lt 39, 3) := by decide +kernel
theorem dRf_10 : decode method_8_code 10 = .ok (.iload_n 1, 1) := by decide +kernel
theorem dRf_11 : decode method_8_code 11 = .ok (.iload 4, 2) := by decide +kernel
theorem dRf_13 : decode method_8_code 13 = .ok (.if_icmp .eq 10, 3) := by decide +kernel
theorem dRf_16 : decode method_8_code 16 = .ok (.iload_n 1, 1) := by decide +kernel
theorem dRf_17 : decode method_8_code 17 = .ok (.iload 4, 2) := by decide +kernel
theorem dRf_19 : decode method_8_code 19 = .ok (.invokestatic 28, 3) := by decide +kernel
theorem dRf_22 : decode method_8_code 22 = .ok (.ireturn, 1) := by decide +kernel
theorem dRf_23 : decode method_8_code 23 = .ok (.iload_n 0, 1) := by decide +kernel
theorem dRf_24 : decode method_8_code 24 = .ok (.iconst 2, 1) := by decide +kernel
theorem dRf_25 : decode method_8_code 25 = .ok (.if_icmp .lt 21, 3) := by decide +kernel
theorem dRf_28 : decode method_8_code 28 = .ok (.iload_n 3, 1) := by decide +kernel
theorem dRf_29 : decode method_8_code 29 = .ok (.iconst 2, 1) := by decide +kernel
theorem dRf_30 : decode method_8_code 30 = .ok (.if_icmp .lt 16, 3) := by decide +kernel
theorem dRf_33 : decode method_8_code 33 = .ok (.iload_n 2, 1) := by decide +kernel
theorem dRf_34 : decode method_8_code 34 = .ok (.iload 5, 2) := by decide +kernel
theorem dRf_36 : decode method_8_code 36 = .ok (.if_icmp .eq 10, 3) := by decide +kernel
theorem dRf_39 : decode method_8_code 39 = .ok (.iload_n 2, 1) := by decide +kernel
theorem dRf_40 : decode method_8_code 40 = .ok (.iload 5, 2) := by decide +kernel
theorem dRf_42 : decode method_8_code 42 = .ok (.invokestatic 28, 3) := by decide +kernel
theorem dRf_45 : decode method_8_code 45 = .ok (.ireturn, 1) := by decide +kernel
theorem dRf_46 : decode method_8_code 46 = .ok (.iload_n 0, 1) := by decide +kernel
theorem dRf_47 : decode method_8_code 47 = .ok (.iload_n 3, 1) := by decide +kernel
theorem dRf_48 : decode method_8_code 48 = .ok (.invokestatic 28, 3) := by decide +kernel
theorem dRf_51 : decode method_8_code 51 = .ok (.ireturn, 1) := by decide +kernel
theorem dCo_0 : decode prog_11_method_2_code 0 = .ok (.aload_n 0, 1) := by decide +kernel
theorem dCo_1 : decode prog_11_method_2_code 1 = .ok (.invokevirtual 7, 3) := by decide +kernel
theorem dCo_4 : decode prog_11_method_2_code 4 = .ok (.aload_n 1, 1) := by decide +kernel
theorem dCo_5 : decode prog_11_method_2_code 5 = .ok (.invokevirtual 7, 3) := by decide +kernel
theorem dCo_8 : decode prog_11_method_2_code 8 = .ok (.invokestatic 13, 3) := by decide +kernel
theorem dCo_11 : decode prog_11_method_2_code 11 = .ok (.istore_n 2, 1) := by decide +kernel
theorem dCo_12 : decode prog_11_method_2_code 12 = .ok (.iconst 0, 1) := by decide +kernel
theorem dCo_13 : decode prog_11_method_2_code 13 = .ok (.istore_n 3, 1) := by decide +kernel
theorem dCo_14 : decode prog_11_method_2_code 14 = .ok (.iload_n 3, 1) := by decide +kernel
theorem dCo_15 : decode prog_11_method_2_code 15 = .ok (.iload_n 2, 1) := by decide +kernel
theorem dCo_16 : decode prog_11_method_2_code 16 = .ok (.if_icmp .ge 44, 3) := by decide +kernel
theorem dCo_19 : decode prog_11_method_2_code 19 = .ok (.aload_n 0, 1) := by decide +kernel
theorem dCo_20 : decode prog_11_method_2_code 20 = .ok (.iload_n 3, 1) := by decide +kernel
theorem dCo_21 : decode prog_11_method_2_code 21 = .ok (.invokevirtual 19, 3) := by decide +kernel
theorem dCo_24 : decode prog_11_method_2_code 24 = .ok (.istore 4, 2) := by decide +kernel
theorem dCo_26 : decode prog_11_method_2_code 26 = .ok (.aload_n 1, 1) := by decide +kernel
theorem dCo_27 : decode prog_11_method_2_code 27 = .ok (.iload_n 3, 1) := by decide +kernel
theorem dCo_28 : decode prog_11_method_2_code 28 = .ok (.invokevirtual 19, 3) := by decide +kernel
theorem dCo_31 : decode prog_11_method_2_code 31 = .ok (.istore 5, 2) := by decide +kernel
theorem dCo_33 : decode prog_11_method_2_code 33 = .ok (.iload 4, 2) := by decide +kernel
theorem dCo_35 : decode prog_11_method_2_code 35 = .ok (.iload 5, 2) := by decide +kernel
theorem dCo_37 : decode prog_11_method_2_code 37 = .ok (.if_icmp .eq 17, 3) := by decide +kernel
theorem dCo_40 : decode prog_11_method_2_code 40 = .ok (.iload 4, 2) := by decide +kernel
theorem dCo_42 : decode prog_11_method_2_code 42 = .ok (.invokestatic 23, 3) := by decide +kernel
theorem dCo_45 : decode prog_11_method_2_code 45 = .ok (.iload 5, 2) := by decide +kernel
theorem dCo_47 : decode prog_11_method_2_code 47 = .ok (.invokestatic 23, 3) := by decide +kernel
theorem dCo_50 : decode prog_11_method_2_code 50 = .ok (.invokestatic 29, 3) := by decide +kernel
theorem dCo_53 : decode prog_11_method_2_code 53 = .ok (.ireturn, 1) := by decide +kernel
theorem dCo_54 : decode prog_11_method_2_code 54 = .ok (.iinc 3 1, 3) := by decide +kernel
theorem dCo_57 : decode prog_11_method_2_code 57 = .ok (.goto (-43), 3) := by decide +kernel
theorem dCo_60 : decode prog_11_method_2_code 60 = .ok (.aload_n 0, 1) := by decide +kernel
theorem dCo_61 : decode prog_11_method_2_code 61 = .ok (.invokevirtual 7, 3) := by decide +kernel
theorem dCo_64 : decode prog_11_method_2_code 64 = .ok (.aload_n 1, 1) := by decide +kernel
theorem dCo_65 : decode prog_11_method_2_code 65 = .ok (.invokevirtual 7, 3) := by decide +kernel
theorem dCo_68 : decode prog_11_method_2_code 68 = .ok (.invokestatic 29, 3) := by decide +kernel
theorem dCo_71 : decode prog_11_method_2_code 71 = .ok (.ireturn, 1) := by decide +kernel
theorem dRk_0 : decode prog_11_method_3_code 0 = .ok (.iload_n 0, 1) := by decide +kernel
theorem dRk_1 : decode prog_11_method_3_code 1 = .ok (.ldc 34, 2) := by decide +kernel
theorem dRk_3 : decode prog_11_method_3_code 3 = .ok (.if_icmp .lt 12, 3) := by decide +kernel
theorem dRk_6 : decode prog_11_method_3_code 6 = .ok (.iload_n 0, 1) := by decide +kernel
theorem dRk_7 : decode prog_11_method_3_code 7 = .ok (.sipush 2048, 3) := by decide +kernel
theorem dRk_10 : decode prog_11_method_3_code 10 = .ok (.isub, 1) := by decide +kernel
theorem dRk_11 : decode prog_11_method_3_code 11 = .ok (.istore_n 1, 1) := by decide +kernel
theorem dRk_12 : decode prog_11_method_3_code 12 = .ok (.goto 20, 3) := by decide +kernel
theorem dRk_15 : decode prog_11_method_3_code 15 = .ok (.iload_n 0, 1) := by decide +kernel
theorem dRk_16 : decode prog_11_method_3_code 16 = .ok (.ldc 35, 2) := by decide +kernel
theorem dRk_18 : decode prog_11_method_3_code 18 = .ok (.if_icmp .lt 12, 3) := by decide +kernel
theorem dRk_21 : decode prog_11_method_3_code 21 = .ok (.iload_n 0, 1) := by decide +kernel
theorem dRk_22 : decode prog_11_method_3_code 22 = .ok (.sipush 8192, 3) := by decide +kernel
theorem dRk_25 : decode prog_11_method_3_code 25 = .ok (.iadd, 1) := by decide +kernel
theorem dRk_26 : decode prog_11_method_3_code 26 = .ok (.istore_n 1, 1) := by decide +kernel
theorem dRk_27 : decode prog_11_method_3_code 27 = .ok (.goto 5, 3) := by decide +kernel
theorem dRk_30 : decode prog_11_method_3_code 30 = .ok (.iload_n 0, 1) := by decide +kernel
theorem dRk_31 : decode prog_11_method_3_code 31 = .ok (.istore_n 1, 1) := by decide +kernel
theorem dRk_32 : decode prog_11_method_3_code 32 = .ok (.iload_n 1, 1) := by decide +kernel
theorem dRk_33 : decode prog_11_method_3_code 33 = .ok (.ireturn, 1) := by decide +kernel
theorem dMin_0 : decode jdk_29_method_69_code 0 = .ok (.iload_n 0, 1) := by decide +kernel
theorem dMin_1 : decode jdk_29_method_69_code 1 = .ok (.iload_n 1, 1) := by decide +kernel
theorem dMin_2 : decode jdk_29_method_69_code 2 = .ok (.if_icmp .gt 7, 3) := by decide +kernel
theorem dMin_5 : decode jdk_29_method_69_code 5 = .ok (.iload_n 0, 1) := by decide +kernel
theorem dMin_6 : decode jdk_29_method_69_code 6 = .ok (.goto 4, 3) := by decide +kernel
theorem dMin_9 : decode jdk_29_method_69_code 9 = .ok (.iload_n 1, 1) := by decide +kernel
theorem dMin_10 : decode jdk_29_method_69_code 10 = .ok (.ireturn, 1) := by decide +kernel
theorem dIC_0 : decode jdk_33_method_40_code 0 = .ok (.iload_n 0, 1) := by decide +kernel
theorem dIC_1 : decode jdk_33_method_40_code 1 = .ok (.iload_n 1, 1) := by decide +kernel
theorem dIC_2 : decode jdk_33_method_40_code 2 = .ok (.if_icmp .ge 7, 3) := by decide +kernel
theorem dIC_5 : decode jdk_33_method_40_code 5 = .ok (.iconst (-1), 1) := by decide +kernel
theorem dIC_6 : decode jdk_33_method_40_code 6 = .ok (.goto 13, 3) := by decide +kernel
theorem dIC_9 : decode jdk_33_method_40_code 9 = .ok (.iload_n 0, 1) := by decide +kernel
theorem dIC_10 : decode jdk_33_method_40_code 10 = .ok (.iload_n 1, 1) := by decide +kernel
theorem dIC_11 : decode jdk_33_method_40_code 11 = .ok (.if_icmp .ne 7, 3) := by decide +kernel
theorem dIC_14 : decode jdk_33_method_40_code 14 = .ok (.iconst 0, 1) := by decide +kernel
theorem dIC_15 : decode jdk_33_method_40_code 15 = .ok (.goto 4, 3) := by decide +kernel
theorem dIC_18 : decode jdk_33_method_40_code 18 = .ok (.iconst 1, 1) := by decide +kernel
theorem dIC_19 : decode jdk_33_method_40_code 19 = .ok (.ireturn, 1) := by decide +kernel
theorem dCA_0 : decode jdk_42_method_56_code 0 = .ok (.aload_n 0, 1) := by decide +kernel
theorem dCA_1 : decode jdk_42_method_56_code 1 = .ok (.invokevirtual 492, 3) := by decide +kernel
theorem dCA_4 : decode jdk_42_method_56_code 4 = .ok (.ifCond .eq 12, 3) := by decide +kernel
theorem dCA_7 : decode jdk_42_method_56_code 7 = .ok (.aload_n 0, 1) := by decide +kernel
theorem dCA_8 : decode jdk_42_method_56_code 8 = .ok (.getfield 9, 3) := by decide +kernel
theorem dCA_11 : decode jdk_42_method_56_code 11 = .ok (.iload_n 1, 1) := by decide +kernel
theorem dCA_12 : decode jdk_42_method_56_code 12 = .ok (.invokestatic 495, 3) := by decide +kernel
theorem dCA_15 : decode jdk_42_method_56_code 15 = .ok (.ireturn, 1) := by decide +kernel
theorem dCA_16 : decode jdk_42_method_56_code 16 = .ok (.aload_n 0, 1) := by decide +kernel
theorem dCA_17 : decode jdk_42_method_56_code 17 = .ok (.getfield 9, 3) := by decide +kernel
theorem dCA_20 : decode jdk_42_method_56_code 20 = .ok (.iload_n 1, 1) := by decide +kernel
theorem dCA_21 : decode jdk_42_method_56_code 21 = .ok (.invokestatic 498, 3) := by decide +kernel
theorem dCA_24 : decode jdk_42_method_56_code 24 = .ok (.ireturn, 1) := by decide +kernel
theorem dIL_0 : decode jdk_42_method_154_code 0 = .ok (.getstatic 38, 3) := by decide +kernel
theorem dIL_3 : decode jdk_42_method_154_code 3 = .ok (.ifCond .eq 14, 3) := by decide +kernel
theorem dIL_6 : decode jdk_42_method_154_code 6 = .ok (.aload_n 0, 1) := by decide +kernel
theorem dIL_7 : decode jdk_42_method_154_code 7 = .ok (.getfield 15, 3) := by decide +kernel
theorem dIL_10 : decode jdk_42_method_154_code 10 = .ok (.ifCond .ne 7, 3) := by decide +kernel
theorem dIL_13 : decode jdk_42_method_154_code 13 = .ok (.iconst 1, 1) := by decide +kernel
theorem dIL_14 : decode jdk_42_method_154_code 14 = .ok (.goto 4, 3) := by decide +kernel
theorem dIL_17 : decode jdk_42_method_154_code 17 = .ok (.iconst 0, 1) := by decide +kernel
theorem dIL_18 : decode jdk_42_method_154_code 18 = .ok (.ireturn, 1) := by decide +kernel
theorem dUC_0 : decode jdk_52_method_83_code 0 = .ok (.iload_n 1, 1) := by decide +kernel
theorem dUC_1 : decode jdk_52_method_83_code 1 = .ok (.aload_n 0, 1) := by decide +kernel
theorem dUC_2 : decode jdk_52_method_83_code 2 = .ok (.invokestatic 67, 3) := by decide +kernel
theorem dUC_5 : decode jdk_52_method_83_code 5 = .ok (.aload_n 0, 1) := by decide +kernel
theorem dUC_6 : decode jdk_52_method_83_code 6 = .ok (.iload_n 1, 1) := by decide +kernel
theorem dUC_7 : decode jdk_52_method_83_code 7 = .ok (.invokestatic 71, 3) := by decide +kernel
theorem dUC_10 : decode jdk_52_method_83_code 10 = .ok (.ireturn, 1) := by decide +kernel
theorem dUX_0 : decode jdk_52_method_91_code 0 = .ok (.iload_n 0, 1) := by decide +kernel
theorem dUX_1 : decode jdk_52_method_91_code 1 = .ok (.aload_n 1, 1) := by decide +kernel
theorem dUX_2 : decode jdk_52_method_91_code 2 = .ok (.invokestatic 48, 3) := by decide +kernel
theorem dUX_5 : decode jdk_52_method_91_code 5 = .ok (.invokestatic 414, 3) := by decide +kernel
theorem dUX_8 : decode jdk_52_method_91_code 8 = .ok (.return_, 1) := by decide +kernel
theorem dUL_0 : decode jdk_52_method_6_code 0 = .ok (.aload_n 0, 1) := by decide +kernel
theorem dUL_1 : decode jdk_52_method_6_code 1 = .ok (.arraylength, 1) := by decide +kernel
theorem dUL_2 : decode jdk_52_method_6_code 2 = .ok (.iconst 1, 1) := by decide +kernel
theorem dUL_3 : decode jdk_52_method_6_code 3 = .ok (.ishr, 1) := by decide +kernel
theorem dUL_4 : decode jdk_52_method_6_code 4 = .ok (.ireturn, 1) := by decide +kernel
theorem dSX_0 : decode jdk_42_method_155_code 0 = .ok (.iload_n 0, 1) := by decide +kernel
theorem dSX_1 : decode jdk_42_method_155_code 1 = .ok (.iload_n 1, 1) := by decide +kernel
theorem dSX_2 : decode jdk_42_method_155_code 2 = .ok (.getstatic 1053, 3) := by decide +kernel
theorem dSX_5 : decode jdk_42_method_155_code 5 = .ok (.invokestatic 1059, 3) := by decide +kernel
theorem dSX_8 : decode jdk_42_method_155_code 8 = .ok (.pop, 1) := by decide +kernel
theorem dSX_9 : decode jdk_42_method_155_code 9 = .ok (.return_, 1) := by decide +kernel
theorem dPX_0 : decode jdk_41_method_11_code 0 = .ok (.iload_n 0, 1) := by decide +kernel
theorem dPX_1 : decode jdk_41_method_11_code 1 = .ok (.ifCond .lt 8, 3) := by decide +kernel
theorem dPX_4 : decode jdk_41_method_11_code 4 = .ok (.iload_n 0, 1) := by decide +kernel
theorem dPX_5 : decode jdk_41_method_11_code 5 = .ok (.iload_n 1, 1) := by decide +kernel
theorem dPX_6 : decode jdk_41_method_11_code 6 = .ok (.if_icmp .lt 10, 3) := by decide +kernel
theorem dPX_9 : decode jdk_41_method_11_code 9 = .ok (.aload_n 2, 1) := by decide +kernel
theorem dPX_10 : decode jdk_41_method_11_code 10 = .ok (.iload_n 0, 1) := by decide +kernel
theorem dPX_11 : decode jdk_41_method_11_code 11 = .ok (.iload_n 1, 1) := by decide +kernel
theorem dPX_12 : decode jdk_41_method_11_code 12 = .ok (.invokestatic 95, 3) := by decide +kernel
theorem dPX_15 : decode jdk_41_method_11_code 15 = .ok (.athrow, 1) := by decide +kernel
theorem dPX_16 : decode jdk_41_method_11_code 16 = .ok (.iload_n 0, 1) := by decide +kernel
theorem dPX_17 : decode jdk_41_method_11_code 17 = .ok (.ireturn, 1) := by decide +kernel
theorem pd_0 : parseMethodDescriptor "(I)I" = some ⟨[.int], (some .int)⟩ := by decide +kernel
theorem pd_1 : parseMethodDescriptor "([CII)I" = some ⟨[(.array .char), .int, .int], (some .int)⟩ := by decide +kernel
theorem pd_2 : parseMethodDescriptor "([CI)Ljava/lang/String;" = some ⟨[(.array .char), .int], (some (.object "java/lang/String"))⟩ := by decide +kernel
theorem pd_3 : parseMethodDescriptor "(III)Ljava/lang/String;" = some ⟨[.int, .int, .int], (some (.object "java/lang/String"))⟩ := by decide +kernel
theorem pd_4 : parseMethodDescriptor "(II)I" = some ⟨[.int, .int], (some .int)⟩ := by decide +kernel
theorem pd_5 : parseMethodDescriptor "(I)I" = some ⟨[.int], (some .int)⟩ := by decide +kernel
theorem pd_6 : parseMethodDescriptor "(IIIIII)I" = some ⟨[.int, .int, .int, .int, .int, .int], (some .int)⟩ := by decide +kernel
theorem pd_7 : parseMethodDescriptor "(Ljava/lang/String;Ljava/lang/String;)I" = some ⟨[(.object "java/lang/String"), (.object "java/lang/String")], (some .int)⟩ := by decide +kernel
theorem pd_8 : parseMethodDescriptor "(C)I" = some ⟨[.char], (some .int)⟩ := by decide +kernel
theorem pd_9 : parseMethodDescriptor "(II)I" = some ⟨[.int, .int], (some .int)⟩ := by decide +kernel
theorem pd_10 : parseMethodDescriptor "(II)I" = some ⟨[.int, .int], (some .int)⟩ := by decide +kernel
theorem pd_11 : parseMethodDescriptor "(I)C" = some ⟨[.int], (some .char)⟩ := by decide +kernel
theorem pd_12 : parseMethodDescriptor "()Z" = some ⟨[], (some .boolean)⟩ := by decide +kernel
theorem pd_13 : parseMethodDescriptor "([BI)C" = some ⟨[(.array .byte), .int], (some .char)⟩ := by decide +kernel
theorem pd_14 : parseMethodDescriptor "(I[B)V" = some ⟨[.int, (.array .byte)], none⟩ := by decide +kernel
theorem pd_15 : parseMethodDescriptor "([B)I" = some ⟨[(.array .byte)], (some .int)⟩ := by decide +kernel
theorem pd_16 : parseMethodDescriptor "(II)V" = some ⟨[.int, .int], none⟩ := by decide +kernel
theorem pd_17 : parseMethodDescriptor "(IILjava/util/function/BiFunction;)I" = some ⟨[.int, .int, (.object "java/util/function/BiFunction")], (some .int)⟩ := by decide +kernel
theorem pd_18 : parseMethodDescriptor "()I" = some ⟨[], (some .int)⟩ := by decide +kernel
theorem pd_19 : parseMethodDescriptor "([C)V" = some ⟨[(.array .char)], none⟩ := by decide +kernel
theorem pnL : plainName "com/example/load_then_swap/loadthenswap/input/KeyOrderComparePinLaw" = true := by first | (simp [plainName, overriddenIn]; done) | decide +kernel
theorem pnK : plainName "com/example/load_then_swap/loadthenswap/input/KeyOrder" = true := by first | (simp [plainName, overriddenIn]; done) | decide +kernel
theorem pnIn : plainName "java/lang/Integer" = true := by first | (simp [plainName, overriddenIn]; done) | decide +kernel
theorem pnPr : plainName "jdk/internal/util/Preconditions" = true := by first | (simp [plainName, overriddenIn]; done) | decide +kernel
theorem pnMa : plainFor ⟨"java/lang/Math", "min", "(II)I"⟩ = true := by decide +kernel
abbrev EL1 : List (String × Nat) := [(ST, 7)]
theorem wPUT_0 : decode jdk_52_method_4_code 0 = .ok (.getstatic 44, 3) := by decide +kernel
theorem wPUT_3 : decode jdk_52_method_4_code 3 = .ok (.ifCond .ne 25, 3) := by decide +kernel
theorem wPUT_6 : decode jdk_52_method_4_code 6 = .ok (.iload_n 1, 1) := by decide +kernel
theorem wPUT_7 : decode jdk_52_method_4_code 7 = .ok (.ifCond .lt 11, 3) := by decide +kernel
theorem wPUT_10 : decode jdk_52_method_4_code 10 = .ok (.iload_n 1, 1) := by decide +kernel
theorem wPUT_11 : decode jdk_52_method_4_code 11 = .ok (.aload_n 0, 1) := by decide +kernel
theorem wPUT_12 : decode jdk_52_method_4_code 12 = .ok (.invokestatic 48, 3) := by decide +kernel
theorem wPUT_15 : decode jdk_52_method_4_code 15 = .ok (.if_icmp .lt 13, 3) := by decide +kernel
theorem wPUT_18 : decode jdk_52_method_4_code 18 = .ok (.new 52, 3) := by decide +kernel
theorem wPUT_21 : decode jdk_52_method_4_code 21 = .ok (.dup, 1) := by decide +kernel
theorem wPUT_22 : decode jdk_52_method_4_code 22 = .ok (.ldc 54, 2) := by decide +kernel
theorem wPUT_24 : decode jdk_52_method_4_code 24 = .ok (.invokespecial 56, 3) := by decide +kernel
theorem wPUT_27 : decode jdk_52_method_4_code 27 = .ok (.athrow, 1) := by decide +kernel
theorem wPUT_28 : decode jdk_52_method_4_code 28 = .ok (.iload_n 1, 1) := by decide +kernel
theorem wPUT_29 : decode jdk_52_method_4_code 29 = .ok (.iconst 1, 1) := by decide +kernel
theorem wPUT_30 : decode jdk_52_method_4_code 30 = .ok (.ishl, 1) := by decide +kernel
theorem wPUT_31 : decode jdk_52_method_4_code 31 = .ok (.istore_n 1, 1) := by decide +kernel
theorem wPUT_32 : decode jdk_52_method_4_code 32 = .ok (.aload_n 0, 1) := by decide +kernel
theorem wPUT_33 : decode jdk_52_method_4_code 33 = .ok (.iload_n 1, 1) := by decide +kernel
theorem wPUT_34 : decode jdk_52_method_4_code 34 = .ok (.iinc 1 1, 3) := by decide +kernel
theorem wPUT_37 : decode jdk_52_method_4_code 37 = .ok (.iload_n 2, 1) := by decide +kernel
theorem wPUT_38 : decode jdk_52_method_4_code 38 = .ok (.getstatic 59, 3) := by decide +kernel
theorem wPUT_41 : decode jdk_52_method_4_code 41 = .ok (.ishr, 1) := by decide +kernel
theorem wPUT_42 : decode jdk_52_method_4_code 42 = .ok (.i2b, 1) := by decide +kernel
theorem wPUT_43 : decode jdk_52_method_4_code 43 = .ok (.bastore, 1) := by decide +kernel
theorem wPUT_44 : decode jdk_52_method_4_code 44 = .ok (.aload_n 0, 1) := by decide +kernel
theorem wPUT_45 : decode jdk_52_method_4_code 45 = .ok (.iload_n 1, 1) := by decide +kernel
theorem wPUT_46 : decode jdk_52_method_4_code 46 = .ok (.iload_n 2, 1) := by decide +kernel
theorem wPUT_47 : decode jdk_52_method_4_code 47 = .ok (.getstatic 63, 3) := by decide +kernel
theorem wPUT_50 : decode jdk_52_method_4_code 50 = .ok (.ishr, 1) := by decide +kernel
theorem wPUT_51 : decode jdk_52_method_4_code 51 = .ok (.i2b, 1) := by decide +kernel
theorem wPUT_52 : decode jdk_52_method_4_code 52 = .ok (.bastore, 1) := by decide +kernel
theorem wPUT_53 : decode jdk_52_method_4_code 53 = .ok (.return_, 1) := by decide +kernel
theorem wGET_0 : decode jdk_52_method_5_code 0 = .ok (.getstatic 44, 3) := by decide +kernel
theorem wGET_3 : decode jdk_52_method_5_code 3 = .ok (.ifCond .ne 25, 3) := by decide +kernel
theorem wGET_6 : decode jdk_52_method_5_code 6 = .ok (.iload_n 1, 1) := by decide +kernel
theorem wGET_7 : decode jdk_52_method_5_code 7 = .ok (.ifCond .lt 11, 3) := by decide +kernel
theorem wGET_10 : decode jdk_52_method_5_code 10 = .ok (.iload_n 1, 1) := by decide +kernel
theorem wGET_11 : decode jdk_52_method_5_code 11 = .ok (.aload_n 0, 1) := by decide +kernel
theorem wGET_12 : decode jdk_52_method_5_code 12 = .ok (.invokestatic 48, 3) := by decide +kernel
theorem wGET_15 : decode jdk_52_method_5_code 15 = .ok (.if_icmp .lt 13, 3) := by decide +kernel
theorem wGET_18 : decode jdk_52_method_5_code 18 = .ok (.new 52, 3) := by decide +kernel
theorem wGET_21 : decode jdk_52_method_5_code 21 = .ok (.dup, 1) := by decide +kernel
theorem wGET_22 : decode jdk_52_method_5_code 22 = .ok (.ldc 54, 2) := by decide +kernel
theorem wGET_24 : decode jdk_52_method_5_code 24 = .ok (.invokespecial 56, 3) := by decide +kernel
theorem wGET_27 : decode jdk_52_method_5_code 27 = .ok (.athrow, 1) := by decide +kernel
theorem wGET_28 : decode jdk_52_method_5_code 28 = .ok (.iload_n 1, 1) := by decide +kernel
theorem wGET_29 : decode jdk_52_method_5_code 29 = .ok (.iconst 1, 1) := by decide +kernel
theorem wGET_30 : decode jdk_52_method_5_code 30 = .ok (.ishl, 1) := by decide +kernel
theorem wGET_31 : decode jdk_52_method_5_code 31 = .ok (.istore_n 1, 1) := by decide +kernel
theorem wGET_32 : decode jdk_52_method_5_code 32 = .ok (.aload_n 0, 1) := by decide +kernel
theorem wGET_33 : decode jdk_52_method_5_code 33 = .ok (.iload_n 1, 1) := by decide +kernel
theorem wGET_34 : decode jdk_52_method_5_code 34 = .ok (.iinc 1 1, 3) := by decide +kernel
theorem wGET_37 : decode jdk_52_method_5_code 37 = .ok (.baload, 1) := by decide +kernel
theorem wGET_38 : decode jdk_52_method_5_code 38 = .ok (.sipush 255, 3) := by decide +kernel
theorem wGET_41 : decode jdk_52_method_5_code 41 = .ok (.iand, 1) := by decide +kernel
theorem wGET_42 : decode jdk_52_method_5_code 42 = .ok (.getstatic 59, 3) := by decide +kernel
theorem wGET_45 : decode jdk_52_method_5_code 45 = .ok (.ishl, 1) := by decide +kernel
theorem wGET_46 : decode jdk_52_method_5_code 46 = .ok (.aload_n 0, 1) := by decide +kernel
theorem wGET_47 : decode jdk_52_method_5_code 47 = .ok (.iload_n 1, 1) := by decide +kernel
theorem wGET_48 : decode jdk_52_method_5_code 48 = .ok (.baload, 1) := by decide +kernel
theorem wGET_49 : decode jdk_52_method_5_code 49 = .ok (.sipush 255, 3) := by decide +kernel
theorem wGET_52 : decode jdk_52_method_5_code 52 = .ok (.iand, 1) := by decide +kernel
theorem wGET_53 : decode jdk_52_method_5_code 53 = .ok (.getstatic 63, 3) := by decide +kernel
theorem wGET_56 : decode jdk_52_method_5_code 56 = .ok (.ishl, 1) := by decide +kernel
theorem wGET_57 : decode jdk_52_method_5_code 57 = .ok (.ior, 1) := by decide +kernel
theorem wGET_58 : decode jdk_52_method_5_code 58 = .ok (.i2c, 1) := by decide +kernel
theorem wGET_59 : decode jdk_52_method_5_code 59 = .ok (.ireturn, 1) := by decide +kernel
theorem wNBL_0 : decode jdk_52_method_3_code 0 = .ok (.iload_n 0, 1) := by decide +kernel
theorem wNBL_1 : decode jdk_52_method_3_code 1 = .ok (.ifCond .ge 11, 3) := by decide +kernel
theorem wNBL_4 : decode jdk_52_method_3_code 4 = .ok (.new 17, 3) := by decide +kernel
theorem wNBL_7 : decode jdk_52_method_3_code 7 = .ok (.dup, 1) := by decide +kernel
theorem wNBL_8 : decode jdk_52_method_3_code 8 = .ok (.invokespecial 19, 3) := by decide +kernel
theorem wNBL_11 : decode jdk_52_method_3_code 11 = .ok (.athrow, 1) := by decide +kernel
theorem wNBL_12 : decode jdk_52_method_3_code 12 = .ok (.iload_n 0, 1) := by decide +kernel
theorem wNBL_13 : decode jdk_52_method_3_code 13 = .ok (.ldc 20, 2) := by decide +kernel
theorem wNBL_15 : decode jdk_52_method_3_code 15 = .ok (.if_icmp .lt 40, 3) := by decide +kernel
theorem wNBL_18 : decode jdk_52_method_3_code 18 = .ok (.new 21, 3) := by decide +kernel
theorem wNBL_21 : decode jdk_52_method_3_code 21 = .ok (.dup, 1) := by decide +kernel
theorem wNBL_22 : decode jdk_52_method_3_code 22 = .ok (.new 23, 3) := by decide +kernel
theorem wNBL_25 : decode jdk_52_method_3_code 25 = .ok (.dup, 1) := by decide +kernel
theorem wNBL_26 : decode jdk_52_method_3_code 26 = .ok (.invokespecial 25, 3) := by decide +kernel
theorem wNBL_29 : decode jdk_52_method_3_code 29 = .ok (.ldc 26, 2) := by decide +kernel
theorem wNBL_31 : decode jdk_52_method_3_code 31 = .ok (.invokevirtual 28, 3) := by decide +kernel
theorem wNBL_34 : decode jdk_52_method_3_code 34 = .ok (.iload_n 0, 1) := by decide +kernel
theorem wNBL_35 : decode jdk_52_method_3_code 35 = .ok (.invokevirtual 32, 3) := by decide +kernel
theorem wNBL_38 : decode jdk_52_method_3_code 38 = .ok (.ldc 35, 2) := by decide +kernel
theorem wNBL_40 : decode jdk_52_method_3_code 40 = .ok (.invokevirtual 28, 3) := by decide +kernel
theorem wNBL_43 : decode jdk_52_method_3_code 43 = .ok (.ldc 20, 2) := by decide +kernel
theorem wNBL_45 : decode jdk_52_method_3_code 45 = .ok (.invokevirtual 32, 3) := by decide +kernel
theorem wNBL_48 : decode jdk_52_method_3_code 48 = .ok (.invokevirtual 37, 3) := by decide +kernel
theorem wNBL_51 : decode jdk_52_method_3_code 51 = .ok (.invokespecial 41, 3) := by decide +kernel
theorem wNBL_54 : decode jdk_52_method_3_code 54 = .ok (.athrow, 1) := by decide +kernel
theorem wNBL_55 : decode jdk_52_method_3_code 55 = .ok (.iload_n 0, 1) := by decide +kernel
theorem wNBL_56 : decode jdk_52_method_3_code 56 = .ok (.iconst 1, 1) := by decide +kernel
theorem wNBL_57 : decode jdk_52_method_3_code 57 = .ok (.ishl, 1) := by decide +kernel
theorem wNBL_58 : decode jdk_52_method_3_code 58 = .ok (.ireturn, 1) := by decide +kernel
theorem wNBF_0 : decode jdk_52_method_2_code 0 = .ok (.iload_n 0, 1) := by decide +kernel
theorem wNBF_1 : decode jdk_52_method_2_code 1 = .ok (.invokestatic 11, 3) := by decide +kernel
theorem wNBF_4 : decode jdk_52_method_2_code 4 = .ok (.newarray .byte, 2) := by decide +kernel
theorem wNBF_6 : decode jdk_52_method_2_code 6 = .ok (.areturn, 1) := by decide +kernel
theorem wTB_0 : decode jdk_52_method_14_code 0 = .ok (.iload_n 2, 1) := by decide +kernel
theorem wTB_1 : decode jdk_52_method_14_code 1 = .ok (.invokestatic 107, 3) := by decide +kernel
theorem wTB_4 : decode jdk_52_method_14_code 4 = .ok (.astore_n 3, 1) := by decide +kernel
theorem wTB_5 : decode jdk_52_method_14_code 5 = .ok (.iconst 0, 1) := by decide +kernel
theorem wTB_6 : decode jdk_52_method_14_code 6 = .ok (.istore 4, 2) := by decide +kernel
theorem wTB_8 : decode jdk_52_method_14_code 8 = .ok (.iload 4, 2) := by decide +kernel
theorem wTB_10 : decode jdk_52_method_14_code 10 = .ok (.iload_n 2, 1) := by decide +kernel
theorem wTB_11 : decode jdk_52_method_14_code 11 = .ok (.if_icmp .ge 21, 3) := by decide +kernel
theorem wTB_14 : decode jdk_52_method_14_code 14 = .ok (.aload_n 3, 1) := by decide +kernel
theorem wTB_15 : decode jdk_52_method_14_code 15 = .ok (.iload 4, 2) := by decide +kernel
theorem wTB_17 : decode jdk_52_method_14_code 17 = .ok (.aload_n 0, 1) := by decide +kernel
theorem wTB_18 : decode jdk_52_method_14_code 18 = .ok (.iload_n 1, 1) := by decide +kernel
theorem wTB_19 : decode jdk_52_method_14_code 19 = .ok (.caload, 1) := by decide +kernel
theorem wTB_20 : decode jdk_52_method_14_code 20 = .ok (.invokestatic 111, 3) := by decide +kernel
theorem wTB_23 : decode jdk_52_method_14_code 23 = .ok (.iinc 1 1, 3) := by decide +kernel
theorem wTB_26 : decode jdk_52_method_14_code 26 = .ok (.iinc 4 1, 3) := by decide +kernel
theorem wTB_29 : decode jdk_52_method_14_code 29 = .ok (.goto (-21), 3) := by decide +kernel
theorem wTB_32 : decode jdk_52_method_14_code 32 = .ok (.aload_n 3, 1) := by decide +kernel
theorem wTB_33 : decode jdk_52_method_14_code 33 = .ok (.areturn, 1) := by decide +kernel
theorem wCI_0 : decode jdk_52_method_21_code 0 = .ok (.iconst 0, 1) := by decide +kernel
theorem wCI_1 : decode jdk_52_method_21_code 1 = .ok (.istore 5, 2) := by decide +kernel
theorem wCI_3 : decode jdk_52_method_21_code 3 = .ok (.iload 5, 2) := by decide +kernel
theorem wCI_5 : decode jdk_52_method_21_code 5 = .ok (.iload 4, 2) := by decide +kernel
theorem wCI_7 : decode jdk_52_method_21_code 7 = .ok (.if_icmp .ge 37, 3) := by decide +kernel
theorem wCI_10 : decode jdk_52_method_21_code 10 = .ok (.aload_n 0, 1) := by decide +kernel
theorem wCI_11 : decode jdk_52_method_21_code 11 = .ok (.iload_n 1, 1) := by decide +kernel
theorem wCI_12 : decode jdk_52_method_21_code 12 = .ok (.caload, 1) := by decide +kernel
theorem wCI_13 : decode jdk_52_method_21_code 13 = .ok (.istore 6, 2) := by decide +kernel
theorem wCI_15 : decode jdk_52_method_21_code 15 = .ok (.iload 6, 2) := by decide +kernel
theorem wCI_17 : decode jdk_52_method_21_code 17 = .ok (.sipush 255, 3) := by decide +kernel
theorem wCI_20 : decode jdk_52_method_21_code 20 = .ok (.if_icmp .le 6, 3) := by decide +kernel
theorem wCI_23 : decode jdk_52_method_21_code 23 = .ok (.iload 5, 2) := by decide +kernel
theorem wCI_25 : decode jdk_52_method_21_code 25 = .ok (.ireturn, 1) := by decide +kernel
theorem wCI_26 : decode jdk_52_method_21_code 26 = .ok (.aload_n 2, 1) := by decide +kernel
theorem wCI_27 : decode jdk_52_method_21_code 27 = .ok (.iload_n 3, 1) := by decide +kernel
theorem wCI_28 : decode jdk_52_method_21_code 28 = .ok (.iload 6, 2) := by decide +kernel
theorem wCI_30 : decode jdk_52_method_21_code 30 = .ok (.i2b, 1) := by decide +kernel
theorem wCI_31 : decode jdk_52_method_21_code 31 = .ok (.bastore, 1) := by decide +kernel
theorem wCI_32 : decode jdk_52_method_21_code 32 = .ok (.iinc 1 1, 3) := by decide +kernel
theorem wCI_35 : decode jdk_52_method_21_code 35 = .ok (.iinc 3 1, 3) := by decide +kernel
theorem wCI_38 : decode jdk_52_method_21_code 38 = .ok (.iinc 5 1, 3) := by decide +kernel
theorem wCI_41 : decode jdk_52_method_21_code 41 = .ok (.goto (-38), 3) := by decide +kernel
theorem wCI_44 : decode jdk_52_method_21_code 44 = .ok (.iload 4, 2) := by decide +kernel
theorem wCI_46 : decode jdk_52_method_21_code 46 = .ok (.ireturn, 1) := by decide +kernel
theorem wCM_0 : decode jdk_52_method_16_code 0 = .ok (.iload_n 2, 1) := by decide +kernel
theorem wCM_1 : decode jdk_52_method_16_code 1 = .ok (.newarray .byte, 2) := by decide +kernel
theorem wCM_3 : decode jdk_52_method_16_code 3 = .ok (.astore_n 3, 1) := by decide +kernel
theorem wCM_4 : decode jdk_52_method_16_code 4 = .ok (.aload_n 0, 1) := by decide +kernel
theorem wCM_5 : decode jdk_52_method_16_code 5 = .ok (.iload_n 1, 1) := by decide +kernel
theorem wCM_6 : decode jdk_52_method_16_code 6 = .ok (.aload_n 3, 1) := by decide +kernel
theorem wCM_7 : decode jdk_52_method_16_code 7 = .ok (.iconst 0, 1) := by decide +kernel
theorem wCM_8 : decode jdk_52_method_16_code 8 = .ok (.iload_n 2, 1) := by decide +kernel
theorem wCM_9 : decode jdk_52_method_16_code 9 = .ok (.invokestatic 115, 3) := by decide +kernel
theorem wCM_12 : decode jdk_52_method_16_code 12 = .ok (.istore 4, 2) := by decide +kernel
theorem wCM_14 : decode jdk_52_method_16_code 14 = .ok (.iload 4, 2) := by decide +kernel
theorem wCM_16 : decode jdk_52_method_16_code 16 = .ok (.iload_n 2, 1) := by decide +kernel
theorem wCM_17 : decode jdk_52_method_16_code 17 = .ok (.if_icmp .eq 40, 3) := by decide +kernel
theorem wCM_20 : decode jdk_52_method_16_code 20 = .ok (.aload_n 0, 1) := by decide +kernel
theorem wCM_21 : decode jdk_52_method_16_code 21 = .ok (.iload_n 1, 1) := by decide +kernel
theorem wCM_22 : decode jdk_52_method_16_code 22 = .ok (.iload_n 2, 1) := by decide +kernel
theorem wCM_23 : decode jdk_52_method_16_code 23 = .ok (.invokestatic 119, 3) := by decide +kernel
theorem wCM_26 : decode jdk_52_method_16_code 26 = .ok (.astore 5, 2) := by decide +kernel
theorem wCM_28 : decode jdk_52_method_16_code 28 = .ok (.aload 5, 2) := by decide +kernel
theorem wCM_30 : decode jdk_52_method_16_code 30 = .ok (.iload 4, 2) := by decide +kernel
theorem wCM_32 : decode jdk_52_method_16_code 32 = .ok (.invokestatic 71, 3) := by decide +kernel
theorem wCM_35 : decode jdk_52_method_16_code 35 = .ok (.sipush 255, 3) := by decide +kernel
theorem wCM_38 : decode jdk_52_method_16_code 38 = .ok (.if_icmp .gt 16, 3) := by decide +kernel
theorem wCM_41 : decode jdk_52_method_16_code 41 = .ok (.aload 5, 2) := by decide +kernel
theorem wCM_43 : decode jdk_52_method_16_code 43 = .ok (.iconst 0, 1) := by decide +kernel
theorem wCM_44 : decode jdk_52_method_16_code 44 = .ok (.aload_n 3, 1) := by decide +kernel
theorem wCM_45 : decode jdk_52_method_16_code 45 = .ok (.iconst 0, 1) := by decide +kernel
theorem wCM_46 : decode jdk_52_method_16_code 46 = .ok (.iload_n 2, 1) := by decide +kernel
theorem wCM_47 : decode jdk_52_method_16_code 47 = .ok (.invokestatic 123, 3) := by decide +kernel
theorem wCM_50 : decode jdk_52_method_16_code 50 = .ok (.iload_n 2, 1) := by decide +kernel
theorem wCM_51 : decode jdk_52_method_16_code 51 = .ok (.if_icmp .eq 6, 3) := by decide +kernel
theorem wCM_54 : decode jdk_52_method_16_code 54 = .ok (.aload 5, 2) := by decide +kernel
theorem wCM_56 : decode jdk_52_method_16_code 56 = .ok (.areturn, 1) := by decide +kernel
theorem wCM_57 : decode jdk_52_method_16_code 57 = .ok (.aload_n 3, 1) := by decide +kernel
theorem wCM_58 : decode jdk_52_method_16_code 58 = .ok (.areturn, 1) := by decide +kernel
theorem wCF_0 : decode jdk_52_method_15_code 0 = .ok (.iload_n 1, 1) := by decide +kernel
theorem wCF_1 : decode jdk_52_method_15_code 1 = .ok (.aload_n 0, 1) := by decide +kernel
theorem wCF_2 : decode jdk_52_method_15_code 2 = .ok (.arraylength, 1) := by decide +kernel
theorem wCF_3 : decode jdk_52_method_15_code 3 = .ok (.isub, 1) := by decide +kernel
theorem wCF_4 : decode jdk_52_method_15_code 4 = .ok (.bipush 31, 2) := by decide +kernel
theorem wCF_6 : decode jdk_52_method_15_code 6 = .ok (.iushr, 1) := by decide +kernel
theorem wCF_7 : decode jdk_52_method_15_code 7 = .ok (.i2b, 1) := by decide +kernel
theorem wCF_8 : decode jdk_52_method_15_code 8 = .ok (.ireturn, 1) := by decide +kernel
theorem wN4_0 : decode jdk_42_method_149_code 0 = .ok (.aload_n 0, 1) := by decide +kernel
theorem wN4_1 : decode jdk_42_method_149_code 1 = .ok (.invokespecial 1, 3) := by decide +kernel
theorem wN4_4 : decode jdk_42_method_149_code 4 = .ok (.iload_n 3, 1) := by decide +kernel
theorem wN4_5 : decode jdk_42_method_149_code 5 = .ok (.ifCond .ne 22, 3) := by decide +kernel
theorem wN4_8 : decode jdk_42_method_149_code 8 = .ok (.aload_n 0, 1) := by decide +kernel
theorem wN4_9 : decode jdk_42_method_149_code 9 = .ok (.ldc 7, 2) := by decide +kernel
theorem wN4_11 : decode jdk_42_method_149_code 11 = .ok (.getfield 9, 3) := by decide +kernel
theorem wN4_14 : decode jdk_42_method_149_code 14 = .ok (.putfield 9, 3) := by decide +kernel
theorem wN4_17 : decode jdk_42_method_149_code 17 = .ok (.aload_n 0, 1) := by decide +kernel
theorem wN4_18 : decode jdk_42_method_149_code 18 = .ok (.ldc 7, 2) := by decide +kernel
theorem wN4_20 : decode jdk_42_method_149_code 20 = .ok (.getfield 15, 3) := by decide +kernel
theorem wN4_23 : decode jdk_42_method_149_code 23 = .ok (.putfield 15, 3) := by decide +kernel
theorem wN4_26 : decode jdk_42_method_149_code 26 = .ok (.return_, 1) := by decide +kernel
theorem wN4_27 : decode jdk_42_method_149_code 27 = .ok (.getstatic 38, 3) := by decide +kernel
theorem wN4_30 : decode jdk_42_method_149_code 30 = .ok (.ifCond .eq 28, 3) := by decide +kernel
theorem wN4_33 : decode jdk_42_method_149_code 33 = .ok (.aload_n 1, 1) := by decide +kernel
theorem wN4_34 : decode jdk_42_method_149_code 34 = .ok (.iload_n 2, 1) := by decide +kernel
theorem wN4_35 : decode jdk_42_method_149_code 35 = .ok (.iload_n 3, 1) := by decide +kernel
theorem wN4_36 : decode jdk_42_method_149_code 36 = .ok (.invokestatic 177, 3) := by decide +kernel
theorem wN4_39 : decode jdk_42_method_149_code 39 = .ok (.astore 5, 2) := by decide +kernel
theorem wN4_41 : decode jdk_42_method_149_code 41 = .ok (.aload_n 0, 1) := by decide +kernel
theorem wN4_42 : decode jdk_42_method_149_code 42 = .ok (.aload 5, 2) := by decide +kernel
theorem wN4_44 : decode jdk_42_method_149_code 44 = .ok (.iload_n 3, 1) := by decide +kernel
theorem wN4_45 : decode jdk_42_method_149_code 45 = .ok (.invokestatic 47, 3) := by decide +kernel
theorem wN4_48 : decode jdk_42_method_149_code 48 = .ok (.putfield 15, 3) := by decide +kernel
theorem wN4_51 : decode jdk_42_method_149_code 51 = .ok (.aload_n 0, 1) := by decide +kernel
theorem wN4_52 : decode jdk_42_method_149_code 52 = .ok (.aload 5, 2) := by decide +kernel
theorem wN4_54 : decode jdk_42_method_149_code 54 = .ok (.putfield 9, 3) := by decide +kernel
theorem wN4_57 : decode jdk_42_method_149_code 57 = .ok (.return_, 1) := by decide +kernel
theorem wN4_58 : decode jdk_42_method_149_code 58 = .ok (.aload_n 0, 1) := by decide +kernel
theorem wN4_59 : decode jdk_42_method_149_code 59 = .ok (.iconst 1, 1) := by decide +kernel
theorem wN4_60 : decode jdk_42_method_149_code 60 = .ok (.putfield 15, 3) := by decide +kernel
theorem wN4_63 : decode jdk_42_method_149_code 63 = .ok (.aload_n 0, 1) := by decide +kernel
theorem wN4_64 : decode jdk_42_method_149_code 64 = .ok (.aload_n 1, 1) := by decide +kernel
theorem wN4_65 : decode jdk_42_method_149_code 65 = .ok (.iload_n 2, 1) := by decide +kernel
theorem wN4_66 : decode jdk_42_method_149_code 66 = .ok (.iload_n 3, 1) := by decide +kernel
theorem wN4_67 : decode jdk_42_method_149_code 67 = .ok (.invokestatic 180, 3) := by decide +kernel
theorem wN4_70 : decode jdk_42_method_149_code 70 = .ok (.putfield 9, 3) := by decide +kernel
theorem wN4_73 : decode jdk_42_method_149_code 73 = .ok (.return_, 1) := by decide +kernel
theorem wN1_0 : decode jdk_42_method_3_code 0 = .ok (.aload_n 0, 1) := by decide +kernel
theorem wN1_1 : decode jdk_42_method_3_code 1 = .ok (.aload_n 1, 1) := by decide +kernel
theorem wN1_2 : decode jdk_42_method_3_code 2 = .ok (.iconst 0, 1) := by decide +kernel
theorem wN1_3 : decode jdk_42_method_3_code 3 = .ok (.aload_n 1, 1) := by decide +kernel
theorem wN1_4 : decode jdk_42_method_3_code 4 = .ok (.arraylength, 1) := by decide +kernel
theorem wN1_5 : decode jdk_42_method_3_code 5 = .ok (.aconst_null, 1) := by decide +kernel
theorem wN1_6 : decode jdk_42_method_3_code 6 = .ok (.invokespecial 27, 3) := by decide +kernel
theorem wN1_9 : decode jdk_42_method_3_code 9 = .ok (.return_, 1) := by decide +kernel
theorem pdw_0 : parseMethodDescriptor "([BII)V" = some ⟨[(.array .byte), .int, .int], none⟩ := by decide +kernel
theorem pdw_1 : parseMethodDescriptor "([BI)C" = some ⟨[(.array .byte), .int], (some .char)⟩ := by decide +kernel
theorem pdw_2 : parseMethodDescriptor "(I)I" = some ⟨[.int], (some .int)⟩ := by decide +kernel
theorem pdw_3 : parseMethodDescriptor "(I)[B" = some ⟨[.int], (some (.array .byte))⟩ := by decide +kernel
theorem pdw_4 : parseMethodDescriptor "([CII)[B" = some ⟨[(.array .char), .int, .int], (some (.array .byte))⟩ := by decide +kernel
theorem pdw_5 : parseMethodDescriptor "([CI[BII)I" = some ⟨[(.array .char), .int, (.array .byte), .int, .int], (some .int)⟩ := by decide +kernel
theorem pdw_6 : parseMethodDescriptor "([CII)[B" = some ⟨[(.array .char), .int, .int], (some (.array .byte))⟩ := by decide +kernel
theorem pdw_7 : parseMethodDescriptor "([BI)B" = some ⟨[(.array .byte), .int], (some .byte)⟩ := by decide +kernel
theorem pdw_8 : parseMethodDescriptor "([CIILjava/lang/Void;)V" = some ⟨[(.array .char), .int, .int, (.object "java/lang/Void")], none⟩ := by decide +kernel
theorem pnU : plainName "java/lang/StringUTF16" = true := by first | (simp [plainName, overriddenIn]; done) | decide +kernel
abbrev C16 (x : Int32) : Prop := ¬ x < 0 ∧ ¬ (65535 : Int32) < x
theorem own_ii (x : Int32) : x.toInt8.toInt32.toInt8.toInt32 = x.toInt8.toInt32 := by simp
theorem own_lo (c : Int32) : (c >>> ((0 : Int32) &&& 31)).toInt8.toInt32.toInt8.toInt32 = StrChars.lo8 c := by rw [StrChars.shr0, own_ii]; rfl
theorem own_hi (c : Int32) : (c >>> ((8 : Int32) &&& 31)).toInt8.toInt32.toInt8.toInt32 = StrChars.hi8 c := by rw [own_ii]; rfl
abbrev rw0 : Room := { frames := 0, cells := 0, slots := 0, locals := 0 }
abbrev rwNBF : Room := { frames := 1, cells := 1, slots := 8, locals := 12 }
abbrev rwTB : Room := { frames := 2, cells := 1, slots := 8, locals := 24 }
abbrev rwCM : Room := { frames := 3, cells := 2, slots := 12, locals := 40 }
abbrev rwN4 : Room := { frames := 4, cells := 2, slots := 12, locals := 57 }
abbrev rwN1 : Room := { frames := 5, cells := 2, slots := 12, locals := 74 }
set_option maxRecDepth 65536 in
set_option maxHeartbeats 4000000 in
theorem metPUT {Z : State} {a0 : Array Value} {n0 : Nat} {h : Heap} (hw : ∀ d ∈ tables_1, d.before a0 Z = true) (hO : Old Z n0 h) (S_AD : Sta Z Z.heap "java/lang/StringUTF16" "$assertionsDisabled" "Z" (.int 1)) (S_HI : Sta Z Z.heap "java/lang/StringUTF16" "HI_BYTE_SHIFT" "I" (.int 0)) (S_LO : Sta Z Z.heap "java/lang/StringUTF16" "LO_BYTE_SHIFT" "I" (.int 8)) {b : Addr} {kb : ClassId} {vs : List Value} {N i c : Int32} (j : Nat) (V : Arv Z h b kb .byte N vs (.int 0)) (hb : n0 ≤ b) (h1 : ¬ (i <<< ((1 : Int32) &&& 31)) < 0 ∧ (i <<< ((1 : Int32) &&& 31)) < N) (h2 : (i <<< ((1 : Int32) &&& 31)).toNatClampNeg = 2 * j) (h3 : ¬ ((i <<< ((1 : Int32) &&& 31)) + (1 : Int32)) < 0 ∧ ((i <<< ((1 : Int32) &&& 31)) + (1 : Int32)) < N) (h4 : ((i <<< ((1 : Int32) &&& 31)) + (1 : Int32)).toNatClampNeg = 2 * j + 1) (h5 : 2 * j + 1 < vs.length) :
    Met Z EL1 n0 ⟨"java/lang/StringUTF16", "putChar", "([BII)V"⟩ jdk_52_method_4_code 3 none rw0 #[.ref b, .int i, .int c] h [b] (fun v h' => v = none ∧ Arv Z h' b kb .byte N ((vs.set (2 * j) (.int (StrChars.lo8 c))).set (2 * j + 1) (.int (StrChars.hi8 c))) (.int 0)) := by
  have w : ∀ (i : Nat) {d : Jvm.Cond}, tables_1[i]? = some d → d.before a0 Z = true := fun i d q => hw d (List.mem_of_getElem? q)
  have hEL : EW Z a0 EL1 := EW.cons (w 27 rfl) (by simp) EW.nil
  refine Met.of_walk (a0 := a0) pnU hEL hO (allS ⟨V.lt, hb⟩ all0) (L0 := #[.val (.ref b), .val (.int i), .val (.int c)]) (fun m => by first | (simp [entryFrame, mkF, argsToLocals, Value.category, maxLocals]; done) | rfl) rfl ?_
  intro k H0
  have H1 := H0.getS 3 (w 123 rfl) (staOld S_AD H0.oldO) wPUT_0
  have H2 := H1.ifYes 28 wPUT_3 (XT.i0_ne_t (by decide))
  have H3 := H2.iloadN 29 wPUT_28 rfl
  have H4 := H3.iconst 30 (1 : Int32) wPUT_29
  have H5 := H4.ishl 31 wPUT_30
  have H6 := H5.istoreN 32 wPUT_31 (L' := #[.val (.ref b), .val (.int (i <<< ((1 : Int32) &&& 31))), .val (.int c)]) rfl
  have H7 := H6.aloadN 33 wPUT_32 rfl
  have H8 := H7.iloadN 34 wPUT_33 rfl
  have H9 := H8.iinc 37 (1 : Int32) wPUT_34 rfl (L' := #[.val (.ref b), .val (.int ((i <<< ((1 : Int32) &&& 31)) + (1 : Int32))), .val (.int c)]) rfl
  have H10 := H9.iloadN 38 wPUT_37 rfl
  have H11 := H10.getS 41 (w 124 rfl) (staOld S_HI H10.oldO) wPUT_38
  have H12 := H11.ishr 42 wPUT_41
  have H13 := H12.i2b 43 wPUT_42
  obtain ⟨h1', K1, V1, HA⟩ := H13.stB 44 V (2 * j) h1 h2 (by omega) wPUT_43 (by simp)
  rw [own_lo] at V1
  have H14 := HA.aloadN 45 wPUT_44 rfl
  have H15 := H14.iloadN 46 wPUT_45 rfl
  have H16 := H15.iloadN 47 wPUT_46 rfl
  have H17 := H16.getS 50 (w 125 rfl) (staOld S_LO H16.oldO) wPUT_47
  have H18 := H17.ishr 51 wPUT_50
  have H19 := H18.i2b 52 wPUT_51
  obtain ⟨h2', K2, V2, HB⟩ := H19.stB 53 V1 (2 * j + 1) h3 h4 (by rw [List.length_set]; exact h5) wPUT_52 (by simp)
  rw [own_hi] at V2
  exact HB.retV rfl wPUT_53 (by decide) (by decide) ⟨rfl, V2⟩
set_option maxRecDepth 65536 in
set_option maxHeartbeats 4000000 in
theorem metGET {Z : State} {a0 : Array Value} {n0 : Nat} {h : Heap} (hw : ∀ d ∈ tables_1, d.before a0 Z = true) (hO : Old Z n0 h) (S_AD : Sta Z Z.heap "java/lang/StringUTF16" "$assertionsDisabled" "Z" (.int 1)) (S_HI : Sta Z Z.heap "java/lang/StringUTF16" "HI_BYTE_SHIFT" "I" (.int 0)) (S_LO : Sta Z Z.heap "java/lang/StringUTF16" "LO_BYTE_SHIFT" "I" (.int 8)) {b : Addr} {kb : ClassId} {vs : List Value} {N i u v : Int32} (j : Nat) (V : Arv Z h b kb .byte N vs (.int 0)) (h1 : ¬ (i <<< ((1 : Int32) &&& 31)) < 0 ∧ (i <<< ((1 : Int32) &&& 31)) < N) (h2 : (i <<< ((1 : Int32) &&& 31)).toNatClampNeg = 2 * j) (h3 : ¬ ((i <<< ((1 : Int32) &&& 31)) + (1 : Int32)) < 0 ∧ ((i <<< ((1 : Int32) &&& 31)) + (1 : Int32)) < N) (h4 : ((i <<< ((1 : Int32) &&& 31)) + (1 : Int32)).toNatClampNeg = 2 * j + 1) (hu : vs.getD (2 * j) (.int 0) = .int u) (hv : vs.getD (2 * j + 1) (.int 0) = .int v) :
    Met Z EL1 n0 ⟨"java/lang/StringUTF16", "getChar", "([BI)C"⟩ jdk_52_method_5_code 2 (some .char) rw0 #[.ref b, .int i] h [] (fun w h' => w = some (.int (StrChars.pairCh u v)) ∧ h' = h) := by
  have w : ∀ (i : Nat) {d : Jvm.Cond}, tables_1[i]? = some d → d.before a0 Z = true := fun i d q => hw d (List.mem_of_getElem? q)
  have hEL : EW Z a0 EL1 := EW.cons (w 27 rfl) (by simp) EW.nil
  refine Met.of_walk (a0 := a0) pnU hEL hO all0 (L0 := #[.val (.ref b), .val (.int i)]) (fun m => by first | (simp [entryFrame, mkF, argsToLocals, Value.category, maxLocals]; done) | rfl) rfl ?_
  intro k H0
  have H1 := H0.getS 3 (w 123 rfl) (staOld S_AD H0.oldO) wGET_0
  have H2 := H1.ifYes 28 wGET_3 (XT.i0_ne_t (by decide))
  have H3 := H2.iloadN 29 wGET_28 rfl
  have H4 := H3.iconst 30 (1 : Int32) wGET_29
  have H5 := H4.ishl 31 wGET_30
  have H6 := H5.istoreN 32 wGET_31 (L' := #[.val (.ref b), .val (.int (i <<< ((1 : Int32) &&& 31)))]) rfl
  have H7 := H6.aloadN 33 wGET_32 rfl
  have H8 := H7.iloadN 34 wGET_33 rfl
  have H9 := H8.iinc 37 (1 : Int32) wGET_34 rfl (L' := #[.val (.ref b), .val (.int ((i <<< ((1 : Int32) &&& 31)) + (1 : Int32)))]) rfl
  have HA := H9.baload 38 V h1 (v := .int u) (by rw [h2]; exact hu) wGET_37
  have H10 := HA.sipush 41 (255 : Int32) wGET_38
  have H11 := H10.iand 42 wGET_41
  have H12 := H11.getS 45 (w 124 rfl) (staOld S_HI H11.oldO) wGET_42
  have H13 := H12.ishl 46 wGET_45
  have H14 := H13.aloadN 47 wGET_46 rfl
  have H15 := H14.iloadN 48 wGET_47 rfl
  have HB := H15.baload 49 V h3 (v := .int v) (by rw [h4]; exact hv) wGET_48
  have H16 := HB.sipush 52 (255 : Int32) wGET_49
  have H17 := H16.iand 53 wGET_52
  have H18 := H17.getS 56 (w 125 rfl) (staOld S_LO H17.oldO) wGET_53
  have H19 := H18.ishl 57 wGET_56
  have H20 := H19.ior 58 wGET_57
  have H21 := H20.i2c 59 wGET_58
  exact H21.retI rfl (XT.narrow_c _) (by simp) wGET_59 (by decide) (by decide) ⟨rfl, rfl⟩
set_option maxRecDepth 65536 in
set_option maxHeartbeats 4000000 in
theorem metNBL {Z : State} {a0 : Array Value} {n0 : Nat} {h : Heap} (hw : ∀ d ∈ tables_1, d.before a0 Z = true) (hO : Old Z n0 h) {i : Int32} (h0 : ¬ i < 0) (h1 : i < (1073741823 : Int32)) :
    Met Z EL1 n0 ⟨"java/lang/StringUTF16", "newBytesLength", "(I)I"⟩ jdk_52_method_3_code 1 (some .int) rw0 #[.int i] h [] (fun v h' => v = some (.int (i <<< ((1 : Int32) &&& 31))) ∧ h' = h) := by
  have w : ∀ (i : Nat) {d : Jvm.Cond}, tables_1[i]? = some d → d.before a0 Z = true := fun i d q => hw d (List.mem_of_getElem? q)
  have hEL : EW Z a0 EL1 := EW.cons (w 27 rfl) (by simp) EW.nil
  refine Met.of_walk (a0 := a0) pnU hEL hO all0 (L0 := #[.val (.int i)]) (fun m => by first | (simp [entryFrame, mkF, argsToLocals, Value.category, maxLocals]; done) | rfl) rfl ?_
  intro k H0
  have H1 := H0.iloadN 1 wNBL_0 rfl
  have H2 := H1.ifYes 12 wNBL_1 (XT.i0_ge_t h0)
  have H3 := H2.iloadN 13 wNBL_12 rfl
  have H4 := H3.ldcI 15 (w 119 rfl) wNBL_13
  have H5 := H4.icmpYes 55 wNBL_15 (XT.ii_lt_t h1)
  have H6 := H5.iloadN 56 wNBL_55 rfl
  have H7 := H6.iconst 57 (1 : Int32) wNBL_56
  have H8 := H7.ishl 58 wNBL_57
  exact H8.retI rfl rfl (by simp) wNBL_58 (by decide) (by decide) ⟨rfl, rfl⟩
set_option maxRecDepth 65536 in
set_option maxHeartbeats 4000000 in
theorem metNBF {Z : State} {a0 : Array Value} {n0 : Nat} {h : Heap} (hw : ∀ d ∈ tables_1, d.before a0 Z = true) (hO : Old Z n0 h) {i N : Int32} (h0 : ¬ i < 0) (h1 : i < (1073741823 : Int32)) (hN : (i <<< ((1 : Int32) &&& 31)) = N) (h2 : ¬ N < 0) (h3 : N.toNatClampNeg ≤ 8) :
    MetF Z EL1 n0 ⟨"java/lang/StringUTF16", "newBytesFor", "(I)[B"⟩ jdk_52_method_2_code 1 (some (.array .byte)) rwNBF #[.int i] h [] h.size (fun v h' => ∃ (b : Addr) (kb : ClassId), v = some (.ref b) ∧ b = h.size ∧ Ext h h' ∧ Arv Z h' b kb .byte N (List.replicate 8 (.int 0)) (.int 0)) := by
  have w : ∀ (i : Nat) {d : Jvm.Cond}, tables_1[i]? = some d → d.before a0 Z = true := fun i d q => hw d (List.mem_of_getElem? q)
  have hEL : EW Z a0 EL1 := EW.cons (w 27 rfl) (by simp) EW.nil
  refine MetF.of_walk (a0 := a0) pnU hEL hO all0 (L0 := #[.val (.int i)]) (fun m => by first | (simp [entryFrame, mkF, argsToLocals, Value.category, maxLocals]; done) | rfl) rfl ?_
  intro k H0
  have H1 := H0.iloadN 1 wNBF_0 rfl
  obtain ⟨_, h1, ⟨rfl, e1⟩, K1, H2⟩ := H1.callS 4 (z := ⟨"java/lang/StringUTF16", "newBytesLength", "(I)I"⟩) (w 116 rfl) (w 117 rfl) (w 73 rfl) (w 118 rfl) (by decide) (argsL := [(.int i)]) (rest := []) (Paid.of_met (W := 0) (metNBL hw H1.oldO h0 h1) (w 118 rfl) (w 73 rfl) hEL (by decide) (by decide)) (lenOf pdw_2 rfl) rfl (Nat.le_of_eq rfl) wNBF_1 (by decide) (by decide) all0
  subst e1
  rw [hN] at H2
  obtain ⟨b2, h2, k2, g2, E2, V2, H3⟩ := H2.newP 6 (ty := .byte) rfl (w 28 rfl) wNBF_4 h2 (cap := 8) h3 (by decide) (by decide) (by decide)
  exact H3.retAF rfl rfl rfl wNBF_6 (by decide) (by decide) (by rw [← g2]; simp) ⟨b2, k2, rfl, g2, E2, V2⟩
set_option maxRecDepth 65536 in
set_option maxHeartbeats 4000000 in
theorem metTB1 {Z : State} {a0 : Array Value} {n0 : Nat} {h : Heap} (hw : ∀ d ∈ tables_1, d.before a0 Z = true) (hO : Old Z n0 h) (S_AD : Sta Z Z.heap "java/lang/StringUTF16" "$assertionsDisabled" "Z" (.int 1)) (S_HI : Sta Z Z.heap "java/lang/StringUTF16" "HI_BYTE_SHIFT" "I" (.int 0)) (S_LO : Sta Z Z.heap "java/lang/StringUTF16" "LO_BYTE_SHIFT" "I" (.int 8)) {a : Addr} {kC : ClassId} {dv : Value} {x0 : Int32} (K : Arv Z h a kC .char (1 : Int32) (([x0] : List Int32).map Value.int) dv) :
    Met Z EL1 n0 ⟨"java/lang/StringUTF16", "toBytes", "([CII)[B"⟩ jdk_52_method_14_code 5 (some (.array .byte)) rwTB #[.ref a, .int 0, .int (1 : Int32)] h [] (fun v h' => ∃ (b : Addr) (kb : ClassId), v = some (.ref b) ∧ b = h.size ∧ Ext h h' ∧ Arv Z h' b kb .byte (2 : Int32) (StrChars.Road.wideBytes ([x0] : List Int32)) (.int 0)) := by
  have w : ∀ (i : Nat) {d : Jvm.Cond}, tables_1[i]? = some d → d.before a0 Z = true := fun i d q => hw d (List.mem_of_getElem? q)
  have hEL : EW Z a0 EL1 := EW.cons (w 27 rfl) (by simp) EW.nil
  refine Met.of_walk (a0 := a0) pnU hEL hO all0 (L0 := #[.val (.ref a), .val (.int (0 : Int32)), .val (.int (1 : Int32)), .unset, .unset]) (fun m => by first | (simp [entryFrame, mkF, argsToLocals, Value.category, maxLocals]; done) | rfl) rfl ?_
  intro k H0
  have H1 := H0.iloadN 1 wTB_0 rfl
  obtain ⟨_, h1, ⟨b1, kb, rfl, g1, E1, V1⟩, K1, H2⟩ := H1.callSF 4 (z := ⟨"java/lang/StringUTF16", "newBytesFor", "(I)[B"⟩) (w 113 rfl) (w 114 rfl) (w 73 rfl) (w 115 rfl) (by decide) (argsL := [(.int (1 : Int32))]) (rest := []) (PaidF.of_met (W := 0) (metNBF hw H1.oldO (i := (1 : Int32)) (N := (2 : Int32)) (by decide) (by decide) (by decide) (by decide) (by decide)) (w 115 rfl) (w 73 rfl) hEL (by decide) (by decide)) (Nat.le_refl _) (lenOf pdw_3 rfl) rfl (Nat.le_of_eq rfl) wTB_1 (by decide) (by decide) all0
  rw [← g1] at H2
  have H3 := H2.astoreN 5 wTB_4 (L' := #[.val (.ref a), .val (.int (0 : Int32)), .val (.int (1 : Int32)), .val (.ref b1), .unset]) rfl
  have H4 := H3.iconst 6 (0 : Int32) wTB_5
  have H5 := H4.istore 8 wTB_6 (L' := #[.val (.ref a), .val (.int (0 : Int32)), .val (.int (1 : Int32)), .val (.ref b1), .val (.int (0 : Int32))]) rfl
  have H6 := H5.iload 10 wTB_8 rfl
  have H7 := H6.iloadN 11 wTB_10 rfl
  have H8 := H7.icmpNo 14 wTB_11 (XT.ii_ge_f (by decide))
  have H9 := H8.aloadN 15 wTB_14 rfl
  have H10 := H9.iload 17 wTB_15 rfl
  have H11 := H10.aloadN 18 wTB_17 rfl
  have H12 := H11.iloadN 19 wTB_18 rfl
  have H13 := H12.caload 20 (K.ext E1) ⟨by decide, by decide⟩ (v := .int x0) rfl wTB_19
  obtain ⟨_, hp0, ⟨rfl, Vp0⟩, Kp0, H14⟩ := H13.callS 23 (z := ⟨"java/lang/StringUTF16", "putChar", "([BII)V"⟩) (w 120 rfl) (w 121 rfl) (w 73 rfl) (w 122 rfl) (by decide) (argsL := [(.ref b1), (.int (0 : Int32)), (.int x0)]) (rest := []) (Paid.of_met (W := 0) (metPUT hw H13.oldO S_AD S_HI S_LO (i := (0 : Int32)) (c := x0) 0 V1 (H13.sf_lt (by simp)).2 ⟨by decide, by decide⟩ (by decide) ⟨by decide, by decide⟩ (by decide) (by simp)) (w 122 rfl) (w 73 rfl) hEL (by decide) (by decide)) (lenOf pdw_0 rfl) rfl (Nat.le_of_eq rfl) wTB_20 (by decide) (by decide) (by simp)
  have Xp0 : Ext h hp0 := Ext.keep' E1 Kp0 (allS (Nat.le_of_eq g1.symm) all0)
  have H15 := H14.iinc 26 (1 : Int32) wTB_23 rfl (L' := #[.val (.ref a), .val (.int ((0 : Int32) + (1 : Int32))), .val (.int (1 : Int32)), .val (.ref b1), .val (.int (0 : Int32))]) rfl
  have H16 := H15.iinc 29 (1 : Int32) wTB_26 rfl (L' := #[.val (.ref a), .val (.int ((0 : Int32) + (1 : Int32))), .val (.int (1 : Int32)), .val (.ref b1), .val (.int ((0 : Int32) + (1 : Int32)))]) rfl
  have H17 := H16.goto 8 wTB_29
  have H18 := H17.iload 10 wTB_8 rfl
  have H19 := H18.iloadN 11 wTB_10 rfl
  have H20 := H19.icmpYes 32 wTB_11 (XT.ii_ge_t (by decide))
  have H21 := H20.aloadN 33 wTB_32 rfl
  exact H21.retA rfl rfl rfl wTB_33 (by decide) (by decide) ⟨b1, kb, rfl, g1, Xp0, Vp0.pad (fun i => by rcases i with _ | _ | _ | _ | _ | _ | _ | _ | i <;> rfl)⟩
set_option maxRecDepth 65536 in
set_option maxHeartbeats 4000000 in
theorem metCF1 {Z : State} {a0 : Array Value} {n0 : Nat} {h : Heap} (hw : ∀ d ∈ tables_1, d.before a0 Z = true) (hO : Old Z n0 h) {b : Addr} {kb : ClassId} {vs : List Value} (V : Arv Z h b kb .byte (2 : Int32) vs (.int 0)) :
    Met Z EL1 n0 ⟨"java/lang/StringUTF16", "coderFromArrayLen", "([BI)B"⟩ jdk_52_method_15_code 2 (some .byte) rw0 #[.ref b, .int (1 : Int32)] h [] (fun v h' => v = some (.int 1) ∧ h' = h) := by
  have w : ∀ (i : Nat) {d : Jvm.Cond}, tables_1[i]? = some d → d.before a0 Z = true := fun i d q => hw d (List.mem_of_getElem? q)
  have hEL : EW Z a0 EL1 := EW.cons (w 27 rfl) (by simp) EW.nil
  refine Met.of_walk (a0 := a0) pnU hEL hO all0 (L0 := #[.val (.ref b), .val (.int (1 : Int32))]) (fun m => by first | (simp [entryFrame, mkF, argsToLocals, Value.category, maxLocals]; done) | rfl) rfl ?_
  intro k H0
  have H1 := H0.iloadN 1 wCF_0 rfl
  have H2 := H1.aloadN 2 wCF_1 rfl
  have H3 := H2.alen 3 V wCF_2
  have H4 := H3.isub 4 wCF_3
  have H5 := H4.bipush 6 (31 : Int32) wCF_4
  have H6 := H5.iushr 7 wCF_6
  have H7 := H6.i2b 8 wCF_7
  exact H7.retI rfl (XT.narrow_b _) (by simp) wCF_8 (by decide) (by decide) ⟨by decide, rfl⟩
set_option maxRecDepth 65536 in
set_option maxHeartbeats 4000000 in
theorem metCI10 {Z : State} {a0 : Array Value} {n0 : Nat} {h : Heap} (hw : ∀ d ∈ tables_1, d.before a0 Z = true) (hO : Old Z n0 h) {a : Addr} {kC : ClassId} {dv : Value} {x0 : Int32} (K : Arv Z h a kC .char (1 : Int32) (([x0] : List Int32).map Value.int) dv) {b : Addr} {kb : ClassId} {vs : List Value} (V : Arv Z h b kb .byte (1 : Int32) vs (.int 0)) (hv : 4 ≤ vs.length) (hb : n0 ≤ b) (ab : a ≠ b)  (q0 : (255 : Int32) < x0) :
    Met Z EL1 n0 ⟨"java/lang/StringUTF16", "compress", "([CI[BII)I"⟩ jdk_52_method_21_code 7 (some .int) rw0 #[.ref a, .int 0, .ref b, .int 0, .int (1 : Int32)] h [b] (fun v h' => v = some (.int 0)) := by
  have w : ∀ (i : Nat) {d : Jvm.Cond}, tables_1[i]? = some d → d.before a0 Z = true := fun i d q => hw d (List.mem_of_getElem? q)
  have hEL : EW Z a0 EL1 := EW.cons (w 27 rfl) (by simp) EW.nil
  refine Met.of_walk (a0 := a0) pnU hEL hO (allS ⟨V.lt, hb⟩ all0) (L0 := #[.val (.ref a), .val (.int (0 : Int32)), .val (.ref b), .val (.int (0 : Int32)), .val (.int (1 : Int32)), .unset, .unset]) (fun m => by first | (simp [entryFrame, mkF, argsToLocals, Value.category, maxLocals]; done) | rfl) rfl ?_
  intro k H0
  have H1 := H0.iconst 1 (0 : Int32) wCI_0
  have H2 := H1.istore 3 wCI_1 (L' := #[.val (.ref a), .val (.int (0 : Int32)), .val (.ref b), .val (.int (0 : Int32)), .val (.int (1 : Int32)), .val (.int (0 : Int32)), .unset]) rfl
  have H3 := H2.iload 5 wCI_3 rfl
  have H4 := H3.iload 7 wCI_5 rfl
  have H5 := H4.icmpNo 10 wCI_7 (XT.ii_ge_f (by decide))
  have H6 := H5.aloadN 11 wCI_10 rfl
  have H7 := H6.iloadN 12 wCI_11 rfl
  have H8 := H7.caload 13 K ⟨by decide, by decide⟩ (v := .int x0) rfl wCI_12
  have H9 := H8.istore 15 wCI_13 (L' := #[.val (.ref a), .val (.int (0 : Int32)), .val (.ref b), .val (.int (0 : Int32)), .val (.int (1 : Int32)), .val (.int (0 : Int32)), .val (.int x0)]) rfl
  have H10 := H9.iload 17 wCI_15 rfl
  have H11 := H10.sipush 20 (255 : Int32) wCI_17
  have H12 := H11.icmpNo 23 wCI_20 (XT.ii_le_f q0)
  have H13 := H12.iload 25 wCI_23 rfl
  exact H13.retI rfl rfl (by simp) wCI_25 (by decide) (by decide) (by rfl)
set_option maxRecDepth 65536 in
set_option maxHeartbeats 4000000 in
theorem metCM10 {Z : State} {a0 : Array Value} {n0 : Nat} {h : Heap} (hw : ∀ d ∈ tables_1, d.before a0 Z = true) (hO : Old Z n0 h) (S_AD : Sta Z Z.heap "java/lang/StringUTF16" "$assertionsDisabled" "Z" (.int 1)) (S_HI : Sta Z Z.heap "java/lang/StringUTF16" "HI_BYTE_SHIFT" "I" (.int 0)) (S_LO : Sta Z Z.heap "java/lang/StringUTF16" "LO_BYTE_SHIFT" "I" (.int 8)) {a : Addr} {kC : ClassId} {dv : Value} {x0 : Int32} (K : Arv Z h a kC .char (1 : Int32) (([x0] : List Int32).map Value.int) dv) (c0 : C16 x0)  (q0 : (255 : Int32) < x0) :
    Met Z EL1 n0 ⟨"java/lang/StringUTF16", "compress", "([CII)[B"⟩ jdk_52_method_16_code 6 (some (.array .byte)) rwCM #[.ref a, .int 0, .int (1 : Int32)] h [] (fun v h' => ∃ (b : Addr) (kb : ClassId), v = some (.ref b) ∧ h.size ≤ b ∧ Ext h h' ∧ Arv Z h' b kb .byte (2 : Int32) (StrChars.Road.wideBytes ([x0] : List Int32)) (.int 0)) := by
  have w : ∀ (i : Nat) {d : Jvm.Cond}, tables_1[i]? = some d → d.before a0 Z = true := fun i d q => hw d (List.mem_of_getElem? q)
  have hEL : EW Z a0 EL1 := EW.cons (w 27 rfl) (by simp) EW.nil
  refine Met.of_walk (a0 := a0) pnU hEL hO all0 (L0 := #[.val (.ref a), .val (.int (0 : Int32)), .val (.int (1 : Int32)), .unset, .unset, .unset]) (fun m => by first | (simp [entryFrame, mkF, argsToLocals, Value.category, maxLocals]; done) | rfl) rfl ?_
  intro k H0
  have H1 := H0.iloadN 1 wCM_0 rfl
  obtain ⟨b1, h1, k1, g1, E1, V1, H2⟩ := H1.newP 3 (ty := .byte) rfl (w 28 rfl) wCM_1 (by decide) (cap := 4) (by decide) (by decide) (by decide) (by decide)
  have H3 := H2.astoreN 4 wCM_3 (L' := #[.val (.ref a), .val (.int (0 : Int32)), .val (.int (1 : Int32)), .val (.ref b1), .unset, .unset]) rfl
  have H4 := H3.aloadN 5 wCM_4 rfl
  have H5 := H4.iloadN 6 wCM_5 rfl
  have H6 := H5.aloadN 7 wCM_6 rfl
  have H7 := H6.iconst 8 (0 : Int32) wCM_7
  have H8 := H7.iloadN 9 wCM_8 rfl
  obtain ⟨_, h2, rfl, K2, H9⟩ := H8.callS 12 (z := ⟨"java/lang/StringUTF16", "compress", "([CI[BII)I"⟩) (w 75 rfl) (w 76 rfl) (w 73 rfl) (w 77 rfl) (by decide) (argsL := [(.ref a), (.int (0 : Int32)), (.ref b1), (.int (0 : Int32)), (.int (1 : Int32))]) (rest := []) (Paid.of_met (W := 0) (metCI10 hw H8.oldO (K.ext E1) V1 (by simp) (H8.sf_lt (by simp)).2 (Nat.ne_of_lt (g1 ▸ K.lt)) q0) (w 77 rfl) (w 73 rfl) hEL (by decide) (by decide)) (lenOf pdw_5 rfl) rfl (Nat.le_of_eq rfl) wCM_9 (by decide) (by decide) (by simp)
  have X2 : Ext h h2 := Ext.keep' E1 K2 (allS (Nat.le_of_eq g1.symm) all0)
  have H10 := H9.istore 14 wCM_12 (L' := #[.val (.ref a), .val (.int (0 : Int32)), .val (.int (1 : Int32)), .val (.ref b1), .val (.int (0 : Int32)), .unset]) rfl
  have H11 := H10.iload 16 wCM_14 rfl
  have H12 := H11.iloadN 17 wCM_16 rfl
  have H13 := H12.icmpNo 20 wCM_17 (XT.ii_eq_f (by decide))
  have H14 := H13.aloadN 21 wCM_20 rfl
  have H15 := H14.iloadN 22 wCM_21 rfl
  have H16 := H15.iloadN 23 wCM_22 rfl
  obtain ⟨_, h3, ⟨b3, k3, rfl, g3, E3, V3⟩, K3, H17⟩ := H16.callS 26 (z := ⟨"java/lang/StringUTF16", "toBytes", "([CII)[B"⟩) (w 110 rfl) (w 111 rfl) (w 73 rfl) (w 112 rfl) (by decide) (argsL := [(.ref a), (.int (0 : Int32)), (.int (1 : Int32))]) (rest := []) (Paid.of_met (W := 0) (metTB1 hw H16.oldO S_AD S_HI S_LO (K.ext X2)) (w 112 rfl) (w 73 rfl) hEL (by decide) (by decide)) (lenOf pdw_4 rfl) rfl (Nat.le_of_eq rfl) wCM_23 (by decide) (by decide) all0
  have H18 := H17.astore 28 wCM_26 (L' := #[.val (.ref a), .val (.int (0 : Int32)), .val (.int (1 : Int32)), .val (.ref b1), .val (.int (0 : Int32)), .val (.ref b3)]) rfl
  have H19 := H18.aload 30 wCM_28 rfl
  have H20 := H19.iload 32 wCM_30 rfl
  obtain ⟨_, h4, ⟨rfl, e4⟩, K4, H21⟩ := H20.callS 35 (z := ⟨"java/lang/StringUTF16", "getChar", "([BI)C"⟩) (w 126 rfl) (w 127 rfl) (w 73 rfl) (w 128 rfl) (by decide) (argsL := [(.ref b3), (.int (0 : Int32))]) (rest := []) (Paid.of_met (W := 0) (metGET hw H20.oldO S_AD S_HI S_LO (i := (0 : Int32)) 0 V3 ⟨by decide, by decide⟩ (by decide) ⟨by decide, by decide⟩ (by decide) (u := StrChars.lo8 x0) (v := StrChars.hi8 x0) rfl rfl) (w 128 rfl) (w 73 rfl) hEL (by decide) (by decide)) (lenOf pdw_1 rfl) rfl (Nat.le_of_eq rfl) wCM_32 (by decide) (by decide) all0
  subst e4
  rw [StrChars.pair_says c0.1 c0.2] at H21
  have H22 := H21.sipush 38 (255 : Int32) wCM_35
  have H23 := H22.icmpYes 54 wCM_38 (XT.ii_gt_t q0)
  have H24 := H23.aload 56 wCM_54 rfl
  exact H24.retA rfl rfl rfl wCM_56 (by decide) (by decide) ⟨b3, k3, rfl, (by rw [g3]; exact X2.1), Ext.trans' X2 E3, V3⟩
set_option maxRecDepth 65536 in
set_option maxHeartbeats 4000000 in
theorem metNW10 {Z : State} {a0 : Array Value} {n0 : Nat} {h : Heap} (hw : ∀ d ∈ tables_1, d.before a0 Z = true) (hO : Old Z n0 h) {zc : Int32} (Sc : Sta Z Z.heap ST "COMPACT_STRINGS" "Z" (.int zc)) (hzc : ¬ zc = 0) (S_AD : Sta Z Z.heap "java/lang/StringUTF16" "$assertionsDisabled" "Z" (.int 1)) (S_HI : Sta Z Z.heap "java/lang/StringUTF16" "HI_BYTE_SHIFT" "I" (.int 0)) (S_LO : Sta Z Z.heap "java/lang/StringUTF16" "LO_BYTE_SHIFT" "I" (.int 8)) {x : Addr} {v0 c0 : Value} (hx0 : n0 ≤ x) (E : Exa Z h x ST) (V : Fld Z h x ST "value" "[B" v0) (C : Fld Z h x ST "coder" "B" c0) {a : Addr} {kC : ClassId} {dv : Value} {x0 : Int32} (K : Arv Z h a kC .char (1 : Int32) (([x0] : List Int32).map Value.int) dv) (c0 : C16 x0)  (q0 : (255 : Int32) < x0) :
    Met Z EL1 n0 ⟨"java/lang/String", "<init>", "([CIILjava/lang/Void;)V"⟩ jdk_42_method_149_code 6 none rwN4 #[.ref x, .ref a, .int 0, .int (1 : Int32), .null] h [x] (fun v h' => v = none ∧ Str Z h' x ([x0] : List Int32)) := by
  have w : ∀ (i : Nat) {d : Jvm.Cond}, tables_1[i]? = some d → d.before a0 Z = true := fun i d q => hw d (List.mem_of_getElem? q)
  have hEL : EW Z a0 EL1 := EW.cons (w 27 rfl) (by simp) EW.nil
  have wlv := (w 29 rfl)
  have wlc := (w 30 rfl)
  have nvc : RoadKit.slotOf Z ST "coder" "B" ≠ RoadKit.slotOf Z ST "value" "[B" := slot_ne (Or.inr wlc) (Or.inr wlv) (by decide) (t := .byte) (by decide) (t' := .array .byte) (by decide)
  refine Met.of_walk (a0 := a0) pnST hEL hO (allS ⟨E.lt, hx0⟩ all0) (L0 := #[.val (.ref x), .val (.ref a), .val (.int (0 : Int32)), .val (.int (1 : Int32)), .val .null, .unset]) (fun m => by first | (simp [entryFrame, mkF, argsToLocals, Value.category, maxLocals]; done) | rfl) rfl ?_
  intro k H0
  have H1 := H0.aloadN 1 wN4_0 rfl
  have H2 := H1.initO 4 (w 24 rfl) (w 25 rfl) (w 26 rfl) wN4_1 (by decide) (W := 0) (by decide) (by decide)
  have H3 := H2.iloadN 5 wN4_4 rfl
  have H4 := H3.ifYes 27 wN4_5 (XT.i0_ne_t (by decide))
  have H5 := H4.getS 30 (w 49 rfl) (staOld Sc H4.oldO) wN4_27
  have H6 := H5.ifNo 33 wN4_30 (XT.i0_eq_f hzc)
  have H7 := H6.aloadN 34 wN4_33 rfl
  have H8 := H7.iloadN 35 wN4_34 rfl
  have H9 := H8.iloadN 36 wN4_35 rfl
  obtain ⟨_, h1, ⟨b1, k1, rfl, g1, E1, V1⟩, K1, H10⟩ := H9.callS 39 (z := ⟨"java/lang/StringUTF16", "compress", "([CII)[B"⟩) (w 71 rfl) (w 72 rfl) (w 73 rfl) (w 74 rfl) (by decide) (argsL := [(.ref a), (.int (0 : Int32)), (.int (1 : Int32))]) (rest := []) (Paid.of_met (W := 0) (metCM10 hw H9.oldO S_AD S_HI S_LO K c0 q0) (w 74 rfl) (w 73 rfl) hEL (by decide) (by decide)) (lenOf pdw_6 rfl) rfl (Nat.le_of_eq rfl) wN4_36 (by decide) (by decide) all0
  have H11 := H10.astore 41 wN4_39 (L' := #[.val (.ref x), .val (.ref a), .val (.int (0 : Int32)), .val (.int (1 : Int32)), .val .null, .val (.ref b1)]) rfl
  have H12 := H11.aloadN 42 wN4_41 rfl
  have H13 := H12.aload 44 wN4_42 rfl
  have H14 := H13.iloadN 45 wN4_44 rfl
  obtain ⟨_, h2, ⟨rfl, e2⟩, K2, H15⟩ := H14.callS 48 (z := ⟨"java/lang/StringUTF16", "coderFromArrayLen", "([BI)B"⟩) (w 78 rfl) (w 79 rfl) (w 73 rfl) (w 80 rfl) (by decide) (argsL := [(.ref b1), (.int (1 : Int32))]) (rest := [(.ref x)]) (Paid.of_met (W := 1) (metCF1 hw H14.oldO V1) (w 80 rfl) (w 73 rfl) hEL (by decide) (by decide)) (lenOf pdw_7 rfl) rfl (Nat.le_of_eq rfl) wN4_45 (by decide) (by decide) all0
  subst e2
  have C1 := C.ext E1
  have E1x := E.ext E1
  obtain ⟨h3, W3, K3, E3, F3, H16⟩ := H15.putF 51 (w 34 rfl) C1 E1x (Or.inr ⟨(w 30 rfl), rfl, rfl⟩) (w 15 rfl) (ty := .byte) (by decide) rfl rfl wN4_48 (by simp)
  have H17 := H16.aloadN 52 wN4_51 rfl
  have H18 := H17.aload 54 wN4_52 rfl
  have V3' := (V.ext E1).other W3 (Or.inr (Ne.symm nvc))
  obtain ⟨h4, W4, K4, E4, F4, H19⟩ := H18.putF 57 (w 33 rfl) V3' E3 (Or.inr ⟨(w 29 rfl), rfl, rfl⟩) (w 15 rfl) (ty := .array .byte) (by decide) rfl rfl wN4_54 (by simp)
  have nx : b1 ∉ [x] := ninS (Nat.ne_of_gt (Nat.lt_of_lt_of_le E.lt g1)) nin0
  refine H19.retV rfl wN4_57 (by decide) (by decide) ⟨rfl, E4, b1, k1, 1, _, _, F4, F3.other W4 (Or.inr nvc), (V1.keep K3 nx).keep K4 nx, Or.inr ⟨rfl, rfl, rfl, x0, by simp, q0⟩, ?_, by simp⟩
  intro c hc
  simp only [List.mem_cons, List.not_mem_nil, or_false] at hc
  subst hc; exact c0
set_option maxRecDepth 65536 in
set_option maxHeartbeats 4000000 in
theorem metN10 {Z : State} {a0 : Array Value} {n0 : Nat} {h : Heap} (hw : ∀ d ∈ tables_1, d.before a0 Z = true) (hO : Old Z n0 h) {zc : Int32} (Sc : Sta Z Z.heap ST "COMPACT_STRINGS" "Z" (.int zc)) (hzc : ¬ zc = 0) (S_AD : Sta Z Z.heap "java/lang/StringUTF16" "$assertionsDisabled" "Z" (.int 1)) (S_HI : Sta Z Z.heap "java/lang/StringUTF16" "HI_BYTE_SHIFT" "I" (.int 0)) (S_LO : Sta Z Z.heap "java/lang/StringUTF16" "LO_BYTE_SHIFT" "I" (.int 8)) {x : Addr} {v0 c0 : Value} (hx0 : n0 ≤ x) (E : Exa Z h x ST) (V : Fld Z h x ST "value" "[B" v0) (C : Fld Z h x ST "coder" "B" c0) {a : Addr} {kC : ClassId} {dv : Value} {x0 : Int32} (K : Arv Z h a kC .char (1 : Int32) (([x0] : List Int32).map Value.int) dv) (c0 : C16 x0)  (q0 : (255 : Int32) < x0) :
    Met Z EL1 n0 ⟨"java/lang/String", "<init>", "([C)V"⟩ jdk_42_method_3_code 2 none rwN1 #[.ref x, .ref a] h [x] (fun v h' => v = none ∧ Str Z h' x ([x0] : List Int32)) := by
  have w : ∀ (i : Nat) {d : Jvm.Cond}, tables_1[i]? = some d → d.before a0 Z = true := fun i d q => hw d (List.mem_of_getElem? q)
  have hEL : EW Z a0 EL1 := EW.cons (w 27 rfl) (by simp) EW.nil
  refine Met.of_walk (a0 := a0) pnST hEL hO (allS ⟨E.lt, hx0⟩ all0) (L0 := #[.val (.ref x), .val (.ref a)]) (fun m => by first | (simp [entryFrame, mkF, argsToLocals, Value.category, maxLocals]; done) | rfl) rfl ?_
  intro k H0
  have H1 := H0.aloadN 1 wN1_0 rfl
  have H2 := H1.aloadN 2 wN1_1 rfl
  have H3 := H2.iconst 3 (0 : Int32) wN1_2
  have H4 := H3.aloadN 4 wN1_3 rfl
  have H5 := H4.alen 5 K wN1_4
  have H6 := H5.anull 6 wN1_5
  obtain ⟨_, h1, ⟨rfl, S1⟩, K1, H7⟩ := H6.callI 9 (z := ⟨"java/lang/String", "<init>", "([CIILjava/lang/Void;)V"⟩) rfl (w 20 rfl) (w 21 rfl) (w 23 rfl) (by decide) (a := x) (argsL := [(.ref a), (.int (0 : Int32)), (.int (1 : Int32)), .null]) (rest := []) (Paid.of_met (W := 0) (metNW10 hw H6.oldO Sc hzc S_AD S_HI S_LO hx0 E V C K c0 q0) (w 23 rfl) (w 16 rfl) hEL (by decide) (by decide)) (lenOf pdw_8 rfl) rfl (Nat.le_of_eq rfl) wN1_6 (by decide) (by decide) (by simp)
  exact H7.retV rfl wN1_9 (by decide) (by decide) ⟨rfl, S1⟩
set_option maxRecDepth 65536 in
set_option maxHeartbeats 4000000 in
theorem payW1 {k : Ctx} {R : Room} {Z : State} {a0 : Array Value} {n0 : Nat} {h : Heap} (hw : ∀ d ∈ tables_1, d.before a0 Z = true) (hO : Old Z n0 h) {zc : Int32} (Sc : Sta Z Z.heap ST "COMPACT_STRINGS" "Z" (.int zc)) (hzc : ¬ zc = 0) (S_AD : Sta Z Z.heap "java/lang/StringUTF16" "$assertionsDisabled" "Z" (.int 1)) (S_HI : Sta Z Z.heap "java/lang/StringUTF16" "HI_BYTE_SHIFT" "I" (.int 0)) (S_LO : Sta Z Z.heap "java/lang/StringUTF16" "LO_BYTE_SHIFT" "I" (.int 8)) {W : Nat} {x : Addr} {v0 c0 : Value} (hx0 : n0 ≤ x) (E : Exa Z h x ST) (V : Fld Z h x ST "value" "[B" v0) (C : Fld Z h x ST "coder" "B" c0) {a : Addr} {kC : ClassId} {dv : Value} {x0 : Int32} (K : Arv Z h a kC .char (1 : Int32) (([x0] : List Int32).map Value.int) dv) (c0 : C16 x0) (hfr : 6 ≤ R.frames) (hlo : W + 87 ≤ R.locals) :
    Paid k R Z EL1 n0 (⟨"java/lang/String", "<init>", "([C)V"⟩ : MethodName) W #[.ref x, .ref a] h [x] 4 12 (fun v h' => v = none ∧ Str Z h' x ([x0] : List Int32)) := by
  have w : ∀ (i : Nat) {d : Jvm.Cond}, tables_1[i]? = some d → d.before a0 Z = true := fun i d q => hw d (List.mem_of_getElem? q)
  have hEL : EW Z a0 EL1 := EW.cons (w 27 rfl) (by simp) EW.nil
  have hws : ∀ d ∈ StrChars.Road.words, d.before a0 Z = true := fun d hd => hw d ((by decide +kernel : ∀ d ∈ StrChars.Road.words, d ∈ tables_1) d hd)
  have wi := (w 15 rfl)
  by_cases q0 : (255 : Int32) < x0
  · exact (Paid.of_met (metN10 hw hO Sc hzc S_AD S_HI S_LO hx0 E V C K c0 q0) (w 19 rfl) (w 16 rfl) hEL (by show 5 + 1 ≤ _; omega) (by show W + (2 + 11) + 74 ≤ _; omega)).more (by decide) (by decide)
  refine (payV (cs := ([x0] : List Int32)) (n := 1) hEL hws wi hO hx0 E V C K Sc hzc rfl rfl (by decide) (by decide) ?_ (by omega) (by omega)).more (by decide) (by decide)
  intro c hc
  simp only [List.mem_cons, List.not_mem_nil, or_false] at hc
  subst hc; exact ⟨c0.1, q0⟩
set_option maxRecDepth 65536 in
set_option maxHeartbeats 4000000 in
theorem metTB2 {Z : State} {a0 : Array Value} {n0 : Nat} {h : Heap} (hw : ∀ d ∈ tables_1, d.before a0 Z = true) (hO : Old Z n0 h) (S_AD : Sta Z Z.heap "java/lang/StringUTF16" "$assertionsDisabled" "Z" (.int 1)) (S_HI : Sta Z Z.heap "java/lang/StringUTF16" "HI_BYTE_SHIFT" "I" (.int 0)) (S_LO : Sta Z Z.heap "java/lang/StringUTF16" "LO_BYTE_SHIFT" "I" (.int 8)) {a : Addr} {kC : ClassId} {dv : Value} {x0 x1 : Int32} (K : Arv Z h a kC .char (2 : Int32) (([x0, x1] : List Int32).map Value.int) dv) :
    Met Z EL1 n0 ⟨"java/lang/StringUTF16", "toBytes", "([CII)[B"⟩ jdk_52_method_14_code 5 (some (.array .byte)) rwTB #[.ref a, .int 0, .int (2 : Int32)] h [] (fun v h' => ∃ (b : Addr) (kb : ClassId), v = some (.ref b) ∧ b = h.size ∧ Ext h h' ∧ Arv Z h' b kb .byte (4 : Int32) (StrChars.Road.wideBytes ([x0, x1] : List Int32)) (.int 0)) := by
  have w : ∀ (i : Nat) {d : Jvm.Cond}, tables_1[i]? = some d → d.before a0 Z = true := fun i d q => hw d (List.mem_of_getElem? q)
  have hEL : EW Z a0 EL1 := EW.cons (w 27 rfl) (by simp) EW.nil
  refine Met.of_walk (a0 := a0) pnU hEL hO all0 (L0 := #[.val (.ref a), .val (.int (0 : Int32)), .val (.int (2 : Int32)), .unset, .unset]) (fun m => by first | (simp [entryFrame, mkF, argsToLocals, Value.category, maxLocals]; done) | rfl) rfl ?_
  intro k H0
  have H1 := H0.iloadN 1 wTB_0 rfl
  obtain ⟨_, h1, ⟨b1, kb, rfl, g1, E1, V1⟩, K1, H2⟩ := H1.callSF 4 (z := ⟨"java/lang/StringUTF16", "newBytesFor", "(I)[B"⟩) (w 113 rfl) (w 114 rfl) (w 73 rfl) (w 115 rfl) (by decide) (argsL := [(.int (2 : Int32))]) (rest := []) (PaidF.of_met (W := 0) (metNBF hw H1.oldO (i := (2 : Int32)) (N := (4 : Int32)) (by decide) (by decide) (by decide) (by decide) (by decide)) (w 115 rfl) (w 73 rfl) hEL (by decide) (by decide)) (Nat.le_refl _) (lenOf pdw_3 rfl) rfl (Nat.le_of_eq rfl) wTB_1 (by decide) (by decide) all0
  rw [← g1] at H2
  have H3 := H2.astoreN 5 wTB_4 (L' := #[.val (.ref a), .val (.int (0 : Int32)), .val (.int (2 : Int32)), .val (.ref b1), .unset]) rfl
  have H4 := H3.iconst 6 (0 : Int32) wTB_5
  have H5 := H4.istore 8 wTB_6 (L' := #[.val (.ref a), .val (.int (0 : Int32)), .val (.int (2 : Int32)), .val (.ref b1), .val (.int (0 : Int32))]) rfl
  have H6 := H5.iload 10 wTB_8 rfl
  have H7 := H6.iloadN 11 wTB_10 rfl
  have H8 := H7.icmpNo 14 wTB_11 (XT.ii_ge_f (by decide))
  have H9 := H8.aloadN 15 wTB_14 rfl
  have H10 := H9.iload 17 wTB_15 rfl
  have H11 := H10.aloadN 18 wTB_17 rfl
  have H12 := H11.iloadN 19 wTB_18 rfl
  have H13 := H12.caload 20 (K.ext E1) ⟨by decide, by decide⟩ (v := .int x0) rfl wTB_19
  obtain ⟨_, hp0, ⟨rfl, Vp0⟩, Kp0, H14⟩ := H13.callS 23 (z := ⟨"java/lang/StringUTF16", "putChar", "([BII)V"⟩) (w 120 rfl) (w 121 rfl) (w 73 rfl) (w 122 rfl) (by decide) (argsL := [(.ref b1), (.int (0 : Int32)), (.int x0)]) (rest := []) (Paid.of_met (W := 0) (metPUT hw H13.oldO S_AD S_HI S_LO (i := (0 : Int32)) (c := x0) 0 V1 (H13.sf_lt (by simp)).2 ⟨by decide, by decide⟩ (by decide) ⟨by decide, by decide⟩ (by decide) (by simp)) (w 122 rfl) (w 73 rfl) hEL (by decide) (by decide)) (lenOf pdw_0 rfl) rfl (Nat.le_of_eq rfl) wTB_20 (by decide) (by decide) (by simp)
  have Xp0 : Ext h hp0 := Ext.keep' E1 Kp0 (allS (Nat.le_of_eq g1.symm) all0)
  have H15 := H14.iinc 26 (1 : Int32) wTB_23 rfl (L' := #[.val (.ref a), .val (.int ((0 : Int32) + (1 : Int32))), .val (.int (2 : Int32)), .val (.ref b1), .val (.int (0 : Int32))]) rfl
  have H16 := H15.iinc 29 (1 : Int32) wTB_26 rfl (L' := #[.val (.ref a), .val (.int ((0 : Int32) + (1 : Int32))), .val (.int (2 : Int32)), .val (.ref b1), .val (.int ((0 : Int32) + (1 : Int32)))]) rfl
  have H17 := H16.goto 8 wTB_29
  have H18 := H17.iload 10 wTB_8 rfl
  have H19 := H18.iloadN 11 wTB_10 rfl
  have H20 := H19.icmpNo 14 wTB_11 (XT.ii_ge_f (by decide))
  have H21 := H20.aloadN 15 wTB_14 rfl
  have H22 := H21.iload 17 wTB_15 rfl
  have H23 := H22.aloadN 18 wTB_17 rfl
  have H24 := H23.iloadN 19 wTB_18 rfl
  have H25 := H24.caload 20 (K.ext Xp0) ⟨by decide, by decide⟩ (v := .int x1) rfl wTB_19
  obtain ⟨_, hp1, ⟨rfl, Vp1⟩, Kp1, H26⟩ := H25.callS 23 (z := ⟨"java/lang/StringUTF16", "putChar", "([BII)V"⟩) (w 120 rfl) (w 121 rfl) (w 73 rfl) (w 122 rfl) (by decide) (argsL := [(.ref b1), (.int ((0 : Int32) + (1 : Int32))), (.int x1)]) (rest := []) (Paid.of_met (W := 0) (metPUT hw H25.oldO S_AD S_HI S_LO (i := ((0 : Int32) + (1 : Int32))) (c := x1) 1 Vp0 (H25.sf_lt (by simp)).2 ⟨by decide, by decide⟩ (by decide) ⟨by decide, by decide⟩ (by decide) (by simp)) (w 122 rfl) (w 73 rfl) hEL (by decide) (by decide)) (lenOf pdw_0 rfl) rfl (Nat.le_of_eq rfl) wTB_20 (by decide) (by decide) (by simp)
  have Xp1 : Ext h hp1 := Ext.keep' Xp0 Kp1 (allS (Nat.le_of_eq g1.symm) all0)
  have H27 := H26.iinc 26 (1 : Int32) wTB_23 rfl (L' := #[.val (.ref a), .val (.int (((0 : Int32) + (1 : Int32)) + (1 : Int32))), .val (.int (2 : Int32)), .val (.ref b1), .val (.int ((0 : Int32) + (1 : Int32)))]) rfl
  have H28 := H27.iinc 29 (1 : Int32) wTB_26 rfl (L' := #[.val (.ref a), .val (.int (((0 : Int32) + (1 : Int32)) + (1 : Int32))), .val (.int (2 : Int32)), .val (.ref b1), .val (.int (((0 : Int32) + (1 : Int32)) + (1 : Int32)))]) rfl
  have H29 := H28.goto 8 wTB_29
  have H30 := H29.iload 10 wTB_8 rfl
  have H31 := H30.iloadN 11 wTB_10 rfl
  have H32 := H31.icmpYes 32 wTB_11 (XT.ii_ge_t (by decide))
  have H33 := H32.aloadN 33 wTB_32 rfl
  exact H33.retA rfl rfl rfl wTB_33 (by decide) (by decide) ⟨b1, kb, rfl, g1, Xp1, Vp1.pad (fun i => by rcases i with _ | _ | _ | _ | _ | _ | _ | _ | i <;> rfl)⟩
set_option maxRecDepth 65536 in
set_option maxHeartbeats 4000000 in
theorem metCF2 {Z : State} {a0 : Array Value} {n0 : Nat} {h : Heap} (hw : ∀ d ∈ tables_1, d.before a0 Z = true) (hO : Old Z n0 h) {b : Addr} {kb : ClassId} {vs : List Value} (V : Arv Z h b kb .byte (4 : Int32) vs (.int 0)) :
    Met Z EL1 n0 ⟨"java/lang/StringUTF16", "coderFromArrayLen", "([BI)B"⟩ jdk_52_method_15_code 2 (some .byte) rw0 #[.ref b, .int (2 : Int32)] h [] (fun v h' => v = some (.int 1) ∧ h' = h) := by
  have w : ∀ (i : Nat) {d : Jvm.Cond}, tables_1[i]? = some d → d.before a0 Z = true := fun i d q => hw d (List.mem_of_getElem? q)
  have hEL : EW Z a0 EL1 := EW.cons (w 27 rfl) (by simp) EW.nil
  refine Met.of_walk (a0 := a0) pnU hEL hO all0 (L0 := #[.val (.ref b), .val (.int (2 : Int32))]) (fun m => by first | (simp [entryFrame, mkF, argsToLocals, Value.category, maxLocals]; done) | rfl) rfl ?_
  intro k H0
  have H1 := H0.iloadN 1 wCF_0 rfl
  have H2 := H1.aloadN 2 wCF_1 rfl
  have H3 := H2.alen 3 V wCF_2
  have H4 := H3.isub 4 wCF_3
  have H5 := H4.bipush 6 (31 : Int32) wCF_4
  have H6 := H5.iushr 7 wCF_6
  have H7 := H6.i2b 8 wCF_7
  exact H7.retI rfl (XT.narrow_b _) (by simp) wCF_8 (by decide) (by decide) ⟨by decide, rfl⟩
set_option maxRecDepth 65536 in
set_option maxHeartbeats 4000000 in
theorem metCI20 {Z : State} {a0 : Array Value} {n0 : Nat} {h : Heap} (hw : ∀ d ∈ tables_1, d.before a0 Z = true) (hO : Old Z n0 h) {a : Addr} {kC : ClassId} {dv : Value} {x0 x1 : Int32} (K : Arv Z h a kC .char (2 : Int32) (([x0, x1] : List Int32).map Value.int) dv) {b : Addr} {kb : ClassId} {vs : List Value} (V : Arv Z h b kb .byte (2 : Int32) vs (.int 0)) (hv : 4 ≤ vs.length) (hb : n0 ≤ b) (ab : a ≠ b)  (q0 : (255 : Int32) < x0) :
    Met Z EL1 n0 ⟨"java/lang/StringUTF16", "compress", "([CI[BII)I"⟩ jdk_52_method_21_code 7 (some .int) rw0 #[.ref a, .int 0, .ref b, .int 0, .int (2 : Int32)] h [b] (fun v h' => v = some (.int 0)) := by
  have w : ∀ (i : Nat) {d : Jvm.Cond}, tables_1[i]? = some d → d.before a0 Z = true := fun i d q => hw d (List.mem_of_getElem? q)
  have hEL : EW Z a0 EL1 := EW.cons (w 27 rfl) (by simp) EW.nil
  refine Met.of_walk (a0 := a0) pnU hEL hO (allS ⟨V.lt, hb⟩ all0) (L0 := #[.val (.ref a), .val (.int (0 : Int32)), .val (.ref b), .val (.int (0 : Int32)), .val (.int (2 : Int32)), .unset, .unset]) (fun m => by first | (simp [entryFrame, mkF, argsToLocals, Value.category, maxLocals]; done) | rfl) rfl ?_
  intro k H0
  have H1 := H0.iconst 1 (0 : Int32) wCI_0
  have H2 := H1.istore 3 wCI_1 (L' := #[.val (.ref a), .val (.int (0 : Int32)), .val (.ref b), .val (.int (0 : Int32)), .val (.int (2 : Int32)), .val (.int (0 : Int32)), .unset]) rfl
  have H3 := H2.iload 5 wCI_3 rfl
  have H4 := H3.iload 7 wCI_5 rfl
  have H5 := H4.icmpNo 10 wCI_7 (XT.ii_ge_f (by decide))
  have H6 := H5.aloadN 11 wCI_10 rfl
  have H7 := H6.iloadN 12 wCI_11 rfl
  have H8 := H7.caload 13 K ⟨by decide, by decide⟩ (v := .int x0) rfl wCI_12
  have H9 := H8.istore 15 wCI_13 (L' := #[.val (.ref a), .val (.int (0 : Int32)), .val (.ref b), .val (.int (0 : Int32)), .val (.int (2 : Int32)), .val (.int (0 : Int32)), .val (.int x0)]) rfl
  have H10 := H9.iload 17 wCI_15 rfl
  have H11 := H10.sipush 20 (255 : Int32) wCI_17
  have H12 := H11.icmpNo 23 wCI_20 (XT.ii_le_f q0)
  have H13 := H12.iload 25 wCI_23 rfl
  exact H13.retI rfl rfl (by simp) wCI_25 (by decide) (by decide) (by rfl)
set_option maxRecDepth 65536 in
set_option maxHeartbeats 4000000 in
theorem metCM20 {Z : State} {a0 : Array Value} {n0 : Nat} {h : Heap} (hw : ∀ d ∈ tables_1, d.before a0 Z = true) (hO : Old Z n0 h) (S_AD : Sta Z Z.heap "java/lang/StringUTF16" "$assertionsDisabled" "Z" (.int 1)) (S_HI : Sta Z Z.heap "java/lang/StringUTF16" "HI_BYTE_SHIFT" "I" (.int 0)) (S_LO : Sta Z Z.heap "java/lang/StringUTF16" "LO_BYTE_SHIFT" "I" (.int 8)) {a : Addr} {kC : ClassId} {dv : Value} {x0 x1 : Int32} (K : Arv Z h a kC .char (2 : Int32) (([x0, x1] : List Int32).map Value.int) dv) (c0 : C16 x0)  (q0 : (255 : Int32) < x0) :
    Met Z EL1 n0 ⟨"java/lang/StringUTF16", "compress", "([CII)[B"⟩ jdk_52_method_16_code 6 (some (.array .byte)) rwCM #[.ref a, .int 0, .int (2 : Int32)] h [] (fun v h' => ∃ (b : Addr) (kb : ClassId), v = some (.ref b) ∧ h.size ≤ b ∧ Ext h h' ∧ Arv Z h' b kb .byte (4 : Int32) (StrChars.Road.wideBytes ([x0, x1] : List Int32)) (.int 0)) := by
  have w : ∀ (i : Nat) {d : Jvm.Cond}, tables_1[i]? = some d → d.before a0 Z = true := fun i d q => hw d (List.mem_of_getElem? q)
  have hEL : EW Z a0 EL1 := EW.cons (w 27 rfl) (by simp) EW.nil
  refine Met.of_walk (a0 := a0) pnU hEL hO all0 (L0 := #[.val (.ref a), .val (.int (0 : Int32)), .val (.int (2 : Int32)), .unset, .unset, .unset]) (fun m => by first | (simp [entryFrame, mkF, argsToLocals, Value.category, maxLocals]; done) | rfl) rfl ?_
  intro k H0
  have H1 := H0.iloadN 1 wCM_0 rfl
  obtain ⟨b1, h1, k1, g1, E1, V1, H2⟩ := H1.newP 3 (ty := .byte) rfl (w 28 rfl) wCM_1 (by decide) (cap := 4) (by decide) (by decide) (by decide) (by decide)
  have H3 := H2.astoreN 4 wCM_3 (L' := #[.val (.ref a), .val (.int (0 : Int32)), .val (.int (2 : Int32)), .val (.ref b1), .unset, .unset]) rfl
  have H4 := H3.aloadN 5 wCM_4 rfl
  have H5 := H4.iloadN 6 wCM_5 rfl
  have H6 := H5.aloadN 7 wCM_6 rfl
  have H7 := H6.iconst 8 (0 : Int32) wCM_7
  have H8 := H7.iloadN 9 wCM_8 rfl
  obtain ⟨_, h2, rfl, K2, H9⟩ := H8.callS 12 (z := ⟨"java/lang/StringUTF16", "compress", "([CI[BII)I"⟩) (w 75 rfl) (w 76 rfl) (w 73 rfl) (w 77 rfl) (by decide) (argsL := [(.ref a), (.int (0 : Int32)), (.ref b1), (.int (0 : Int32)), (.int (2 : Int32))]) (rest := []) (Paid.of_met (W := 0) (metCI20 hw H8.oldO (K.ext E1) V1 (by simp) (H8.sf_lt (by simp)).2 (Nat.ne_of_lt (g1 ▸ K.lt)) q0) (w 77 rfl) (w 73 rfl) hEL (by decide) (by decide)) (lenOf pdw_5 rfl) rfl (Nat.le_of_eq rfl) wCM_9 (by decide) (by decide) (by simp)
  have X2 : Ext h h2 := Ext.keep' E1 K2 (allS (Nat.le_of_eq g1.symm) all0)
  have H10 := H9.istore 14 wCM_12 (L' := #[.val (.ref a), .val (.int (0 : Int32)), .val (.int (2 : Int32)), .val (.ref b1), .val (.int (0 : Int32)), .unset]) rfl
  have H11 := H10.iload 16 wCM_14 rfl
  have H12 := H11.iloadN 17 wCM_16 rfl
  have H13 := H12.icmpNo 20 wCM_17 (XT.ii_eq_f (by decide))
  have H14 := H13.aloadN 21 wCM_20 rfl
  have H15 := H14.iloadN 22 wCM_21 rfl
  have H16 := H15.iloadN 23 wCM_22 rfl
  obtain ⟨_, h3, ⟨b3, k3, rfl, g3, E3, V3⟩, K3, H17⟩ := H16.callS 26 (z := ⟨"java/lang/StringUTF16", "toBytes", "([CII)[B"⟩) (w 110 rfl) (w 111 rfl) (w 73 rfl) (w 112 rfl) (by decide) (argsL := [(.ref a), (.int (0 : Int32)), (.int (2 : Int32))]) (rest := []) (Paid.of_met (W := 0) (metTB2 hw H16.oldO S_AD S_HI S_LO (K.ext X2)) (w 112 rfl) (w 73 rfl) hEL (by decide) (by decide)) (lenOf pdw_4 rfl) rfl (Nat.le_of_eq rfl) wCM_23 (by decide) (by decide) all0
  have H18 := H17.astore 28 wCM_26 (L' := #[.val (.ref a), .val (.int (0 : Int32)), .val (.int (2 : Int32)), .val (.ref b1), .val (.int (0 : Int32)), .val (.ref b3)]) rfl
  have H19 := H18.aload 30 wCM_28 rfl
  have H20 := H19.iload 32 wCM_30 rfl
  obtain ⟨_, h4, ⟨rfl, e4⟩, K4, H21⟩ := H20.callS 35 (z := ⟨"java/lang/StringUTF16", "getChar", "([BI)C"⟩) (w 126 rfl) (w 127 rfl) (w 73 rfl) (w 128 rfl) (by decide) (argsL := [(.ref b3), (.int (0 : Int32))]) (rest := []) (Paid.of_met (W := 0) (metGET hw H20.oldO S_AD S_HI S_LO (i := (0 : Int32)) 0 V3 ⟨by decide, by decide⟩ (by decide) ⟨by decide, by decide⟩ (by decide) (u := StrChars.lo8 x0) (v := StrChars.hi8 x0) rfl rfl) (w 128 rfl) (w 73 rfl) hEL (by decide) (by decide)) (lenOf pdw_1 rfl) rfl (Nat.le_of_eq rfl) wCM_32 (by decide) (by decide) all0
  subst e4
  rw [StrChars.pair_says c0.1 c0.2] at H21
  have H22 := H21.sipush 38 (255 : Int32) wCM_35
  have H23 := H22.icmpYes 54 wCM_38 (XT.ii_gt_t q0)
  have H24 := H23.aload 56 wCM_54 rfl
  exact H24.retA rfl rfl rfl wCM_56 (by decide) (by decide) ⟨b3, k3, rfl, (by rw [g3]; exact X2.1), Ext.trans' X2 E3, V3⟩
set_option maxRecDepth 65536 in
set_option maxHeartbeats 4000000 in
theorem metNW20 {Z : State} {a0 : Array Value} {n0 : Nat} {h : Heap} (hw : ∀ d ∈ tables_1, d.before a0 Z = true) (hO : Old Z n0 h) {zc : Int32} (Sc : Sta Z Z.heap ST "COMPACT_STRINGS" "Z" (.int zc)) (hzc : ¬ zc = 0) (S_AD : Sta Z Z.heap "java/lang/StringUTF16" "$assertionsDisabled" "Z" (.int 1)) (S_HI : Sta Z Z.heap "java/lang/StringUTF16" "HI_BYTE_SHIFT" "I" (.int 0)) (S_LO : Sta Z Z.heap "java/lang/StringUTF16" "LO_BYTE_SHIFT" "I" (.int 8)) {x : Addr} {v0 c0 : Value} (hx0 : n0 ≤ x) (E : Exa Z h x ST) (V : Fld Z h x ST "value" "[B" v0) (C : Fld Z h x ST "coder" "B" c0) {a : Addr} {kC : ClassId} {dv : Value} {x0 x1 : Int32} (K : Arv Z h a kC .char (2 : Int32) (([x0, x1] : List Int32).map Value.int) dv) (c0 : C16 x0) (c1 : C16 x1)  (q0 : (255 : Int32) < x0) :
    Met Z EL1 n0 ⟨"java/lang/String", "<init>", "([CIILjava/lang/Void;)V"⟩ jdk_42_method_149_code 6 none rwN4 #[.ref x, .ref a, .int 0, .int (2 : Int32), .null] h [x] (fun v h' => v = none ∧ Str Z h' x ([x0, x1] : List Int32)) := by
  have w : ∀ (i : Nat) {d : Jvm.Cond}, tables_1[i]? = some d → d.before a0 Z = true := fun i d q => hw d (List.mem_of_getElem? q)
  have hEL : EW Z a0 EL1 := EW.cons (w 27 rfl) (by simp) EW.nil
  have wlv := (w 29 rfl)
  have wlc := (w 30 rfl)
  have nvc : RoadKit.slotOf Z ST "coder" "B" ≠ RoadKit.slotOf Z ST "value" "[B" := slot_ne (Or.inr wlc) (Or.inr wlv) (by decide) (t := .byte) (by decide) (t' := .array .byte) (by decide)
  refine Met.of_walk (a0 := a0) pnST hEL hO (allS ⟨E.lt, hx0⟩ all0) (L0 := #[.val (.ref x), .val (.ref a), .val (.int (0 : Int32)), .val (.int (2 : Int32)), .val .null, .unset]) (fun m => by first | (simp [entryFrame, mkF, argsToLocals, Value.category, maxLocals]; done) | rfl) rfl ?_
  intro k H0
  have H1 := H0.aloadN 1 wN4_0 rfl
  have H2 := H1.initO 4 (w 24 rfl) (w 25 rfl) (w 26 rfl) wN4_1 (by decide) (W := 0) (by decide) (by decide)
  have H3 := H2.iloadN 5 wN4_4 rfl
  have H4 := H3.ifYes 27 wN4_5 (XT.i0_ne_t (by decide))
  have H5 := H4.getS 30 (w 49 rfl) (staOld Sc H4.oldO) wN4_27
  have H6 := H5.ifNo 33 wN4_30 (XT.i0_eq_f hzc)
  have H7 := H6.aloadN 34 wN4_33 rfl
  have H8 := H7.iloadN 35 wN4_34 rfl
  have H9 := H8.iloadN 36 wN4_35 rfl
  obtain ⟨_, h1, ⟨b1, k1, rfl, g1, E1, V1⟩, K1, H10⟩ := H9.callS 39 (z := ⟨"java/lang/StringUTF16", "compress", "([CII)[B"⟩) (w 71 rfl) (w 72 rfl) (w 73 rfl) (w 74 rfl) (by decide) (argsL := [(.ref a), (.int (0 : Int32)), (.int (2 : Int32))]) (rest := []) (Paid.of_met (W := 0) (metCM20 hw H9.oldO S_AD S_HI S_LO K c0 q0) (w 74 rfl) (w 73 rfl) hEL (by decide) (by decide)) (lenOf pdw_6 rfl) rfl (Nat.le_of_eq rfl) wN4_36 (by decide) (by decide) all0
  have H11 := H10.astore 41 wN4_39 (L' := #[.val (.ref x), .val (.ref a), .val (.int (0 : Int32)), .val (.int (2 : Int32)), .val .null, .val (.ref b1)]) rfl
  have H12 := H11.aloadN 42 wN4_41 rfl
  have H13 := H12.aload 44 wN4_42 rfl
  have H14 := H13.iloadN 45 wN4_44 rfl
  obtain ⟨_, h2, ⟨rfl, e2⟩, K2, H15⟩ := H14.callS 48 (z := ⟨"java/lang/StringUTF16", "coderFromArrayLen", "([BI)B"⟩) (w 78 rfl) (w 79 rfl) (w 73 rfl) (w 80 rfl) (by decide) (argsL := [(.ref b1), (.int (2 : Int32))]) (rest := [(.ref x)]) (Paid.of_met (W := 1) (metCF2 hw H14.oldO V1) (w 80 rfl) (w 73 rfl) hEL (by decide) (by decide)) (lenOf pdw_7 rfl) rfl (Nat.le_of_eq rfl) wN4_45 (by decide) (by decide) all0
  subst e2
  have C1 := C.ext E1
  have E1x := E.ext E1
  obtain ⟨h3, W3, K3, E3, F3, H16⟩ := H15.putF 51 (w 34 rfl) C1 E1x (Or.inr ⟨(w 30 rfl), rfl, rfl⟩) (w 15 rfl) (ty := .byte) (by decide) rfl rfl wN4_48 (by simp)
  have H17 := H16.aloadN 52 wN4_51 rfl
  have H18 := H17.aload 54 wN4_52 rfl
  have V3' := (V.ext E1).other W3 (Or.inr (Ne.symm nvc))
  obtain ⟨h4, W4, K4, E4, F4, H19⟩ := H18.putF 57 (w 33 rfl) V3' E3 (Or.inr ⟨(w 29 rfl), rfl, rfl⟩) (w 15 rfl) (ty := .array .byte) (by decide) rfl rfl wN4_54 (by simp)
  have nx : b1 ∉ [x] := ninS (Nat.ne_of_gt (Nat.lt_of_lt_of_le E.lt g1)) nin0
  refine H19.retV rfl wN4_57 (by decide) (by decide) ⟨rfl, E4, b1, k1, 1, _, _, F4, F3.other W4 (Or.inr nvc), (V1.keep K3 nx).keep K4 nx, Or.inr ⟨rfl, rfl, rfl, x0, by simp, q0⟩, ?_, by simp⟩
  intro c hc
  simp only [List.mem_cons, List.not_mem_nil, or_false] at hc
  rcases hc with rfl | rfl <;> first | exact c0 | exact c1
set_option maxRecDepth 65536 in
set_option maxHeartbeats 4000000 in
theorem metN20 {Z : State} {a0 : Array Value} {n0 : Nat} {h : Heap} (hw : ∀ d ∈ tables_1, d.before a0 Z = true) (hO : Old Z n0 h) {zc : Int32} (Sc : Sta Z Z.heap ST "COMPACT_STRINGS" "Z" (.int zc)) (hzc : ¬ zc = 0) (S_AD : Sta Z Z.heap "java/lang/StringUTF16" "$assertionsDisabled" "Z" (.int 1)) (S_HI : Sta Z Z.heap "java/lang/StringUTF16" "HI_BYTE_SHIFT" "I" (.int 0)) (S_LO : Sta Z Z.heap "java/lang/StringUTF16" "LO_BYTE_SHIFT" "I" (.int 8)) {x : Addr} {v0 c0 : Value} (hx0 : n0 ≤ x) (E : Exa Z h x ST) (V : Fld Z h x ST "value" "[B" v0) (C : Fld Z h x ST "coder" "B" c0) {a : Addr} {kC : ClassId} {dv : Value} {x0 x1 : Int32} (K : Arv Z h a kC .char (2 : Int32) (([x0, x1] : List Int32).map Value.int) dv) (c0 : C16 x0) (c1 : C16 x1)  (q0 : (255 : Int32) < x0) :
    Met Z EL1 n0 ⟨"java/lang/String", "<init>", "([C)V"⟩ jdk_42_method_3_code 2 none rwN1 #[.ref x, .ref a] h [x] (fun v h' => v = none ∧ Str Z h' x ([x0, x1] : List Int32)) := by
  have w : ∀ (i : Nat) {d : Jvm.Cond}, tables_1[i]? = some d → d.before a0 Z = true := fun i d q => hw d (List.mem_of_getElem? q)
  have hEL : EW Z a0 EL1 := EW.cons (w 27 rfl) (by simp) EW.nil
  refine Met.of_walk (a0 := a0) pnST hEL hO (allS ⟨E.lt, hx0⟩ all0) (L0 := #[.val (.ref x), .val (.ref a)]) (fun m => by first | (simp [entryFrame, mkF, argsToLocals, Value.category, maxLocals]; done) | rfl) rfl ?_
  intro k H0
  have H1 := H0.aloadN 1 wN1_0 rfl
  have H2 := H1.aloadN 2 wN1_1 rfl
  have H3 := H2.iconst 3 (0 : Int32) wN1_2
  have H4 := H3.aloadN 4 wN1_3 rfl
  have H5 := H4.alen 5 K wN1_4
  have H6 := H5.anull 6 wN1_5
  obtain ⟨_, h1, ⟨rfl, S1⟩, K1, H7⟩ := H6.callI 9 (z := ⟨"java/lang/String", "<init>", "([CIILjava/lang/Void;)V"⟩) rfl (w 20 rfl) (w 21 rfl) (w 23 rfl) (by decide) (a := x) (argsL := [(.ref a), (.int (0 : Int32)), (.int (2 : Int32)), .null]) (rest := []) (Paid.of_met (W := 0) (metNW20 hw H6.oldO Sc hzc S_AD S_HI S_LO hx0 E V C K c0 c1 q0) (w 23 rfl) (w 16 rfl) hEL (by decide) (by decide)) (lenOf pdw_8 rfl) rfl (Nat.le_of_eq rfl) wN1_6 (by decide) (by decide) (by simp)
  exact H7.retV rfl wN1_9 (by decide) (by decide) ⟨rfl, S1⟩
set_option maxRecDepth 65536 in
set_option maxHeartbeats 4000000 in
theorem metCI21 {Z : State} {a0 : Array Value} {n0 : Nat} {h : Heap} (hw : ∀ d ∈ tables_1, d.before a0 Z = true) (hO : Old Z n0 h) {a : Addr} {kC : ClassId} {dv : Value} {x0 x1 : Int32} (K : Arv Z h a kC .char (2 : Int32) (([x0, x1] : List Int32).map Value.int) dv) {b : Addr} {kb : ClassId} {vs : List Value} (V : Arv Z h b kb .byte (2 : Int32) vs (.int 0)) (hv : 4 ≤ vs.length) (hb : n0 ≤ b) (ab : a ≠ b) (q0 : ¬ (255 : Int32) < x0) (q1 : (255 : Int32) < x1) :
    Met Z EL1 n0 ⟨"java/lang/StringUTF16", "compress", "([CI[BII)I"⟩ jdk_52_method_21_code 7 (some .int) rw0 #[.ref a, .int 0, .ref b, .int 0, .int (2 : Int32)] h [b] (fun v h' => v = some (.int 1)) := by
  have w : ∀ (i : Nat) {d : Jvm.Cond}, tables_1[i]? = some d → d.before a0 Z = true := fun i d q => hw d (List.mem_of_getElem? q)
  have hEL : EW Z a0 EL1 := EW.cons (w 27 rfl) (by simp) EW.nil
  refine Met.of_walk (a0 := a0) pnU hEL hO (allS ⟨V.lt, hb⟩ all0) (L0 := #[.val (.ref a), .val (.int (0 : Int32)), .val (.ref b), .val (.int (0 : Int32)), .val (.int (2 : Int32)), .unset, .unset]) (fun m => by first | (simp [entryFrame, mkF, argsToLocals, Value.category, maxLocals]; done) | rfl) rfl ?_
  intro k H0
  have H1 := H0.iconst 1 (0 : Int32) wCI_0
  have H2 := H1.istore 3 wCI_1 (L' := #[.val (.ref a), .val (.int (0 : Int32)), .val (.ref b), .val (.int (0 : Int32)), .val (.int (2 : Int32)), .val (.int (0 : Int32)), .unset]) rfl
  have H3 := H2.iload 5 wCI_3 rfl
  have H4 := H3.iload 7 wCI_5 rfl
  have H5 := H4.icmpNo 10 wCI_7 (XT.ii_ge_f (by decide))
  have H6 := H5.aloadN 11 wCI_10 rfl
  have H7 := H6.iloadN 12 wCI_11 rfl
  have H8 := H7.caload 13 K ⟨by decide, by decide⟩ (v := .int x0) rfl wCI_12
  have H9 := H8.istore 15 wCI_13 (L' := #[.val (.ref a), .val (.int (0 : Int32)), .val (.ref b), .val (.int (0 : Int32)), .val (.int (2 : Int32)), .val (.int (0 : Int32)), .val (.int x0)]) rfl
  have H10 := H9.iload 17 wCI_15 rfl
  have H11 := H10.sipush 20 (255 : Int32) wCI_17
  have H12 := H11.icmpYes 26 wCI_20 (XT.ii_le_t q0)
  have H13 := H12.aloadN 27 wCI_26 rfl
  have H14 := H13.iloadN 28 wCI_27 rfl
  have H15 := H14.iload 30 wCI_28 rfl
  have H16 := H15.i2b 31 wCI_30
  obtain ⟨h_0, K_0, V_0, H17⟩ := H16.stB 32 V 0 ⟨by decide, by decide⟩ (by decide) (by first | omega | (simp only [List.length_set]; omega)) wCI_31 (by simp)
  have Kc0 := K.keep K_0 (ninS ab nin0)
  have H18 := H17.iinc 35 (1 : Int32) wCI_32 rfl (L' := #[.val (.ref a), .val (.int ((0 : Int32) + (1 : Int32))), .val (.ref b), .val (.int (0 : Int32)), .val (.int (2 : Int32)), .val (.int (0 : Int32)), .val (.int x0)]) rfl
  have H19 := H18.iinc 38 (1 : Int32) wCI_35 rfl (L' := #[.val (.ref a), .val (.int ((0 : Int32) + (1 : Int32))), .val (.ref b), .val (.int ((0 : Int32) + (1 : Int32))), .val (.int (2 : Int32)), .val (.int (0 : Int32)), .val (.int x0)]) rfl
  have H20 := H19.iinc 41 (1 : Int32) wCI_38 rfl (L' := #[.val (.ref a), .val (.int ((0 : Int32) + (1 : Int32))), .val (.ref b), .val (.int ((0 : Int32) + (1 : Int32))), .val (.int (2 : Int32)), .val (.int ((0 : Int32) + (1 : Int32))), .val (.int x0)]) rfl
  have H21 := H20.goto 3 wCI_41
  have H22 := H21.iload 5 wCI_3 rfl
  have H23 := H22.iload 7 wCI_5 rfl
  have H24 := H23.icmpNo 10 wCI_7 (XT.ii_ge_f (by decide))
  have H25 := H24.aloadN 11 wCI_10 rfl
  have H26 := H25.iloadN 12 wCI_11 rfl
  have H27 := H26.caload 13 Kc0 ⟨by decide, by decide⟩ (v := .int x1) rfl wCI_12
  have H28 := H27.istore 15 wCI_13 (L' := #[.val (.ref a), .val (.int ((0 : Int32) + (1 : Int32))), .val (.ref b), .val (.int ((0 : Int32) + (1 : Int32))), .val (.int (2 : Int32)), .val (.int ((0 : Int32) + (1 : Int32))), .val (.int x1)]) rfl
  have H29 := H28.iload 17 wCI_15 rfl
  have H30 := H29.sipush 20 (255 : Int32) wCI_17
  have H31 := H30.icmpNo 23 wCI_20 (XT.ii_le_f q1)
  have H32 := H31.iload 25 wCI_23 rfl
  exact H32.retI rfl rfl (by simp) wCI_25 (by decide) (by decide) (by rfl)
set_option maxRecDepth 65536 in
set_option maxHeartbeats 4000000 in
theorem metCM21 {Z : State} {a0 : Array Value} {n0 : Nat} {h : Heap} (hw : ∀ d ∈ tables_1, d.before a0 Z = true) (hO : Old Z n0 h) (S_AD : Sta Z Z.heap "java/lang/StringUTF16" "$assertionsDisabled" "Z" (.int 1)) (S_HI : Sta Z Z.heap "java/lang/StringUTF16" "HI_BYTE_SHIFT" "I" (.int 0)) (S_LO : Sta Z Z.heap "java/lang/StringUTF16" "LO_BYTE_SHIFT" "I" (.int 8)) {a : Addr} {kC : ClassId} {dv : Value} {x0 x1 : Int32} (K : Arv Z h a kC .char (2 : Int32) (([x0, x1] : List Int32).map Value.int) dv) (c1 : C16 x1) (q0 : ¬ (255 : Int32) < x0) (q1 : (255 : Int32) < x1) :
    Met Z EL1 n0 ⟨"java/lang/StringUTF16", "compress", "([CII)[B"⟩ jdk_52_method_16_code 6 (some (.array .byte)) rwCM #[.ref a, .int 0, .int (2 : Int32)] h [] (fun v h' => ∃ (b : Addr) (kb : ClassId), v = some (.ref b) ∧ h.size ≤ b ∧ Ext h h' ∧ Arv Z h' b kb .byte (4 : Int32) (StrChars.Road.wideBytes ([x0, x1] : List Int32)) (.int 0)) := by
  have w : ∀ (i : Nat) {d : Jvm.Cond}, tables_1[i]? = some d → d.before a0 Z = true := fun i d q => hw d (List.mem_of_getElem? q)
  have hEL : EW Z a0 EL1 := EW.cons (w 27 rfl) (by simp) EW.nil
  refine Met.of_walk (a0 := a0) pnU hEL hO all0 (L0 := #[.val (.ref a), .val (.int (0 : Int32)), .val (.int (2 : Int32)), .unset, .unset, .unset]) (fun m => by first | (simp [entryFrame, mkF, argsToLocals, Value.category, maxLocals]; done) | rfl) rfl ?_
  intro k H0
  have H1 := H0.iloadN 1 wCM_0 rfl
  obtain ⟨b1, h1, k1, g1, E1, V1, H2⟩ := H1.newP 3 (ty := .byte) rfl (w 28 rfl) wCM_1 (by decide) (cap := 4) (by decide) (by decide) (by decide) (by decide)
  have H3 := H2.astoreN 4 wCM_3 (L' := #[.val (.ref a), .val (.int (0 : Int32)), .val (.int (2 : Int32)), .val (.ref b1), .unset, .unset]) rfl
  have H4 := H3.aloadN 5 wCM_4 rfl
  have H5 := H4.iloadN 6 wCM_5 rfl
  have H6 := H5.aloadN 7 wCM_6 rfl
  have H7 := H6.iconst 8 (0 : Int32) wCM_7
  have H8 := H7.iloadN 9 wCM_8 rfl
  obtain ⟨_, h2, rfl, K2, H9⟩ := H8.callS 12 (z := ⟨"java/lang/StringUTF16", "compress", "([CI[BII)I"⟩) (w 75 rfl) (w 76 rfl) (w 73 rfl) (w 77 rfl) (by decide) (argsL := [(.ref a), (.int (0 : Int32)), (.ref b1), (.int (0 : Int32)), (.int (2 : Int32))]) (rest := []) (Paid.of_met (W := 0) (metCI21 hw H8.oldO (K.ext E1) V1 (by simp) (H8.sf_lt (by simp)).2 (Nat.ne_of_lt (g1 ▸ K.lt)) q0 q1) (w 77 rfl) (w 73 rfl) hEL (by decide) (by decide)) (lenOf pdw_5 rfl) rfl (Nat.le_of_eq rfl) wCM_9 (by decide) (by decide) (by simp)
  have X2 : Ext h h2 := Ext.keep' E1 K2 (allS (Nat.le_of_eq g1.symm) all0)
  have H10 := H9.istore 14 wCM_12 (L' := #[.val (.ref a), .val (.int (0 : Int32)), .val (.int (2 : Int32)), .val (.ref b1), .val (.int (1 : Int32)), .unset]) rfl
  have H11 := H10.iload 16 wCM_14 rfl
  have H12 := H11.iloadN 17 wCM_16 rfl
  have H13 := H12.icmpNo 20 wCM_17 (XT.ii_eq_f (by decide))
  have H14 := H13.aloadN 21 wCM_20 rfl
  have H15 := H14.iloadN 22 wCM_21 rfl
  have H16 := H15.iloadN 23 wCM_22 rfl
  obtain ⟨_, h3, ⟨b3, k3, rfl, g3, E3, V3⟩, K3, H17⟩ := H16.callS 26 (z := ⟨"java/lang/StringUTF16", "toBytes", "([CII)[B"⟩) (w 110 rfl) (w 111 rfl) (w 73 rfl) (w 112 rfl) (by decide) (argsL := [(.ref a), (.int (0 : Int32)), (.int (2 : Int32))]) (rest := []) (Paid.of_met (W := 0) (metTB2 hw H16.oldO S_AD S_HI S_LO (K.ext X2)) (w 112 rfl) (w 73 rfl) hEL (by decide) (by decide)) (lenOf pdw_4 rfl) rfl (Nat.le_of_eq rfl) wCM_23 (by decide) (by decide) all0
  have H18 := H17.astore 28 wCM_26 (L' := #[.val (.ref a), .val (.int (0 : Int32)), .val (.int (2 : Int32)), .val (.ref b1), .val (.int (1 : Int32)), .val (.ref b3)]) rfl
  have H19 := H18.aload 30 wCM_28 rfl
  have H20 := H19.iload 32 wCM_30 rfl
  obtain ⟨_, h4, ⟨rfl, e4⟩, K4, H21⟩ := H20.callS 35 (z := ⟨"java/lang/StringUTF16", "getChar", "([BI)C"⟩) (w 126 rfl) (w 127 rfl) (w 73 rfl) (w 128 rfl) (by decide) (argsL := [(.ref b3), (.int (1 : Int32))]) (rest := []) (Paid.of_met (W := 0) (metGET hw H20.oldO S_AD S_HI S_LO (i := (1 : Int32)) 1 V3 ⟨by decide, by decide⟩ (by decide) ⟨by decide, by decide⟩ (by decide) (u := StrChars.lo8 x1) (v := StrChars.hi8 x1) rfl rfl) (w 128 rfl) (w 73 rfl) hEL (by decide) (by decide)) (lenOf pdw_1 rfl) rfl (Nat.le_of_eq rfl) wCM_32 (by decide) (by decide) all0
  subst e4
  rw [StrChars.pair_says c1.1 c1.2] at H21
  have H22 := H21.sipush 38 (255 : Int32) wCM_35
  have H23 := H22.icmpYes 54 wCM_38 (XT.ii_gt_t q1)
  have H24 := H23.aload 56 wCM_54 rfl
  exact H24.retA rfl rfl rfl wCM_56 (by decide) (by decide) ⟨b3, k3, rfl, (by rw [g3]; exact X2.1), Ext.trans' X2 E3, V3⟩
set_option maxRecDepth 65536 in
set_option maxHeartbeats 4000000 in
theorem metNW21 {Z : State} {a0 : Array Value} {n0 : Nat} {h : Heap} (hw : ∀ d ∈ tables_1, d.before a0 Z = true) (hO : Old Z n0 h) {zc : Int32} (Sc : Sta Z Z.heap ST "COMPACT_STRINGS" "Z" (.int zc)) (hzc : ¬ zc = 0) (S_AD : Sta Z Z.heap "java/lang/StringUTF16" "$assertionsDisabled" "Z" (.int 1)) (S_HI : Sta Z Z.heap "java/lang/StringUTF16" "HI_BYTE_SHIFT" "I" (.int 0)) (S_LO : Sta Z Z.heap "java/lang/StringUTF16" "LO_BYTE_SHIFT" "I" (.int 8)) {x : Addr} {v0 c0 : Value} (hx0 : n0 ≤ x) (E : Exa Z h x ST) (V : Fld Z h x ST "value" "[B" v0) (C : Fld Z h x ST "coder" "B" c0) {a : Addr} {kC : ClassId} {dv : Value} {x0 x1 : Int32} (K : Arv Z h a kC .char (2 : Int32) (([x0, x1] : List Int32).map Value.int) dv) (c0 : C16 x0) (c1 : C16 x1) (q0 : ¬ (255 : Int32) < x0) (q1 : (255 : Int32) < x1) :
    Met Z EL1 n0 ⟨"java/lang/String", "<init>", "([CIILjava/lang/Void;)V"⟩ jdk_42_method_149_code 6 none rwN4 #[.ref x, .ref a, .int 0, .int (2 : Int32), .null] h [x] (fun v h' => v = none ∧ Str Z h' x ([x0, x1] : List Int32)) := by
  have w : ∀ (i : Nat) {d : Jvm.Cond}, tables_1[i]? = some d → d.before a0 Z = true := fun i d q => hw d (List.mem_of_getElem? q)
  have hEL : EW Z a0 EL1 := EW.cons (w 27 rfl) (by simp) EW.nil
  have wlv := (w 29 rfl)
  have wlc := (w 30 rfl)
  have nvc : RoadKit.slotOf Z ST "coder" "B" ≠ RoadKit.slotOf Z ST "value" "[B" := slot_ne (Or.inr wlc) (Or.inr wlv) (by decide) (t := .byte) (by decide) (t' := .array .byte) (by decide)
  refine Met.of_walk (a0 := a0) pnST hEL hO (allS ⟨E.lt, hx0⟩ all0) (L0 := #[.val (.ref x), .val (.ref a), .val (.int (0 : Int32)), .val (.int (2 : Int32)), .val .null, .unset]) (fun m => by first | (simp [entryFrame, mkF, argsToLocals, Value.category, maxLocals]; done) | rfl) rfl ?_
  intro k H0
  have H1 := H0.aloadN 1 wN4_0 rfl
  have H2 := H1.initO 4 (w 24 rfl) (w 25 rfl) (w 26 rfl) wN4_1 (by decide) (W := 0) (by decide) (by decide)
  have H3 := H2.iloadN 5 wN4_4 rfl
  have H4 := H3.ifYes 27 wN4_5 (XT.i0_ne_t (by decide))
  have H5 := H4.getS 30 (w 49 rfl) (staOld Sc H4.oldO) wN4_27
  have H6 := H5.ifNo 33 wN4_30 (XT.i0_eq_f hzc)
  have H7 := H6.aloadN 34 wN4_33 rfl
  have H8 := H7.iloadN 35 wN4_34 rfl
  have H9 := H8.iloadN 36 wN4_35 rfl
  obtain ⟨_, h1, ⟨b1, k1, rfl, g1, E1, V1⟩, K1, H10⟩ := H9.callS 39 (z := ⟨"java/lang/StringUTF16", "compress", "([CII)[B"⟩) (w 71 rfl) (w 72 rfl) (w 73 rfl) (w 74 rfl) (by decide) (argsL := [(.ref a), (.int (0 : Int32)), (.int (2 : Int32))]) (rest := []) (Paid.of_met (W := 0) (metCM21 hw H9.oldO S_AD S_HI S_LO K c1 q0 q1) (w 74 rfl) (w 73 rfl) hEL (by decide) (by decide)) (lenOf pdw_6 rfl) rfl (Nat.le_of_eq rfl) wN4_36 (by decide) (by decide) all0
  have H11 := H10.astore 41 wN4_39 (L' := #[.val (.ref x), .val (.ref a), .val (.int (0 : Int32)), .val (.int (2 : Int32)), .val .null, .val (.ref b1)]) rfl
  have H12 := H11.aloadN 42 wN4_41 rfl
  have H13 := H12.aload 44 wN4_42 rfl
  have H14 := H13.iloadN 45 wN4_44 rfl
  obtain ⟨_, h2, ⟨rfl, e2⟩, K2, H15⟩ := H14.callS 48 (z := ⟨"java/lang/StringUTF16", "coderFromArrayLen", "([BI)B"⟩) (w 78 rfl) (w 79 rfl) (w 73 rfl) (w 80 rfl) (by decide) (argsL := [(.ref b1), (.int (2 : Int32))]) (rest := [(.ref x)]) (Paid.of_met (W := 1) (metCF2 hw H14.oldO V1) (w 80 rfl) (w 73 rfl) hEL (by decide) (by decide)) (lenOf pdw_7 rfl) rfl (Nat.le_of_eq rfl) wN4_45 (by decide) (by decide) all0
  subst e2
  have C1 := C.ext E1
  have E1x := E.ext E1
  obtain ⟨h3, W3, K3, E3, F3, H16⟩ := H15.putF 51 (w 34 rfl) C1 E1x (Or.inr ⟨(w 30 rfl), rfl, rfl⟩) (w 15 rfl) (ty := .byte) (by decide) rfl rfl wN4_48 (by simp)
  have H17 := H16.aloadN 52 wN4_51 rfl
  have H18 := H17.aload 54 wN4_52 rfl
  have V3' := (V.ext E1).other W3 (Or.inr (Ne.symm nvc))
  obtain ⟨h4, W4, K4, E4, F4, H19⟩ := H18.putF 57 (w 33 rfl) V3' E3 (Or.inr ⟨(w 29 rfl), rfl, rfl⟩) (w 15 rfl) (ty := .array .byte) (by decide) rfl rfl wN4_54 (by simp)
  have nx : b1 ∉ [x] := ninS (Nat.ne_of_gt (Nat.lt_of_lt_of_le E.lt g1)) nin0
  refine H19.retV rfl wN4_57 (by decide) (by decide) ⟨rfl, E4, b1, k1, 1, _, _, F4, F3.other W4 (Or.inr nvc), (V1.keep K3 nx).keep K4 nx, Or.inr ⟨rfl, rfl, rfl, x1, by simp, q1⟩, ?_, by simp⟩
  intro c hc
  simp only [List.mem_cons, List.not_mem_nil, or_false] at hc
  rcases hc with rfl | rfl <;> first | exact c0 | exact c1
set_option maxRecDepth 65536 in
set_option maxHeartbeats 4000000 in
theorem metN21 {Z : State} {a0 : Array Value} {n0 : Nat} {h : Heap} (hw : ∀ d ∈ tables_1, d.before a0 Z = true) (hO : Old Z n0 h) {zc : Int32} (Sc : Sta Z Z.heap ST "COMPACT_STRINGS" "Z" (.int zc)) (hzc : ¬ zc = 0) (S_AD : Sta Z Z.heap "java/lang/StringUTF16" "$assertionsDisabled" "Z" (.int 1)) (S_HI : Sta Z Z.heap "java/lang/StringUTF16" "HI_BYTE_SHIFT" "I" (.int 0)) (S_LO : Sta Z Z.heap "java/lang/StringUTF16" "LO_BYTE_SHIFT" "I" (.int 8)) {x : Addr} {v0 c0 : Value} (hx0 : n0 ≤ x) (E : Exa Z h x ST) (V : Fld Z h x ST "value" "[B" v0) (C : Fld Z h x ST "coder" "B" c0) {a : Addr} {kC : ClassId} {dv : Value} {x0 x1 : Int32} (K : Arv Z h a kC .char (2 : Int32) (([x0, x1] : List Int32).map Value.int) dv) (c0 : C16 x0) (c1 : C16 x1) (q0 : ¬ (255 : Int32) < x0) (q1 : (255 : Int32) < x1) :
    Met Z EL1 n0 ⟨"java/lang/String", "<init>", "([C)V"⟩ jdk_42_method_3_code 2 none rwN1 #[.ref x, .ref a] h [x] (fun v h' => v = none ∧ Str Z h' x ([x0, x1] : List Int32)) := by
  have w : ∀ (i : Nat) {d : Jvm.Cond}, tables_1[i]? = some d → d.before a0 Z = true := fun i d q => hw d (List.mem_of_getElem? q)
  have hEL : EW Z a0 EL1 := EW.cons (w 27 rfl) (by simp) EW.nil
  refine Met.of_walk (a0 := a0) pnST hEL hO (allS ⟨E.lt, hx0⟩ all0) (L0 := #[.val (.ref x), .val (.ref a)]) (fun m => by first | (simp [entryFrame, mkF, argsToLocals, Value.category, maxLocals]; done) | rfl) rfl ?_
  intro k H0
  have H1 := H0.aloadN 1 wN1_0 rfl
  have H2 := H1.aloadN 2 wN1_1 rfl
  have H3 := H2.iconst 3 (0 : Int32) wN1_2
  have H4 := H3.aloadN 4 wN1_3 rfl
  have H5 := H4.alen 5 K wN1_4
  have H6 := H5.anull 6 wN1_5
  obtain ⟨_, h1, ⟨rfl, S1⟩, K1, H7⟩ := H6.callI 9 (z := ⟨"java/lang/String", "<init>", "([CIILjava/lang/Void;)V"⟩) rfl (w 20 rfl) (w 21 rfl) (w 23 rfl) (by decide) (a := x) (argsL := [(.ref a), (.int (0 : Int32)), (.int (2 : Int32)), .null]) (rest := []) (Paid.of_met (W := 0) (metNW21 hw H6.oldO Sc hzc S_AD S_HI S_LO hx0 E V C K c0 c1 q0 q1) (w 23 rfl) (w 16 rfl) hEL (by decide) (by decide)) (lenOf pdw_8 rfl) rfl (Nat.le_of_eq rfl) wN1_6 (by decide) (by decide) (by simp)
  exact H7.retV rfl wN1_9 (by decide) (by decide) ⟨rfl, S1⟩
set_option maxRecDepth 65536 in
set_option maxHeartbeats 4000000 in
theorem payW2 {k : Ctx} {R : Room} {Z : State} {a0 : Array Value} {n0 : Nat} {h : Heap} (hw : ∀ d ∈ tables_1, d.before a0 Z = true) (hO : Old Z n0 h) {zc : Int32} (Sc : Sta Z Z.heap ST "COMPACT_STRINGS" "Z" (.int zc)) (hzc : ¬ zc = 0) (S_AD : Sta Z Z.heap "java/lang/StringUTF16" "$assertionsDisabled" "Z" (.int 1)) (S_HI : Sta Z Z.heap "java/lang/StringUTF16" "HI_BYTE_SHIFT" "I" (.int 0)) (S_LO : Sta Z Z.heap "java/lang/StringUTF16" "LO_BYTE_SHIFT" "I" (.int 8)) {W : Nat} {x : Addr} {v0 c0 : Value} (hx0 : n0 ≤ x) (E : Exa Z h x ST) (V : Fld Z h x ST "value" "[B" v0) (C : Fld Z h x ST "coder" "B" c0) {a : Addr} {kC : ClassId} {dv : Value} {x0 x1 : Int32} (K : Arv Z h a kC .char (2 : Int32) (([x0, x1] : List Int32).map Value.int) dv) (c0 : C16 x0) (c1 : C16 x1) (hfr : 6 ≤ R.frames) (hlo : W + 87 ≤ R.locals) :
    Paid k R Z EL1 n0 (⟨"java/lang/String", "<init>", "([C)V"⟩ : MethodName) W #[.ref x, .ref a] h [x] 4 12 (fun v h' => v = none ∧ Str Z h' x ([x0, x1] : List Int32)) := by
  have w : ∀ (i : Nat) {d : Jvm.Cond}, tables_1[i]? = some d → d.before a0 Z = true := fun i d q => hw d (List.mem_of_getElem? q)
  have hEL : EW Z a0 EL1 := EW.cons (w 27 rfl) (by simp) EW.nil
  have hws : ∀ d ∈ StrChars.Road.words, d.before a0 Z = true := fun d hd => hw d ((by decide +kernel : ∀ d ∈ StrChars.Road.words, d ∈ tables_1) d hd)
  have wi := (w 15 rfl)
  by_cases q0 : (255 : Int32) < x0
  · exact (Paid.of_met (metN20 hw hO Sc hzc S_AD S_HI S_LO hx0 E V C K c0 c1 q0) (w 19 rfl) (w 16 rfl) hEL (by show 5 + 1 ≤ _; omega) (by show W + (2 + 11) + 74 ≤ _; omega)).more (by decide) (by decide)
  by_cases q1 : (255 : Int32) < x1
  · exact (Paid.of_met (metN21 hw hO Sc hzc S_AD S_HI S_LO hx0 E V C K c0 c1 q0 q1) (w 19 rfl) (w 16 rfl) hEL (by show 5 + 1 ≤ _; omega) (by show W + (2 + 11) + 74 ≤ _; omega)).more (by decide) (by decide)
  refine (payV (cs := ([x0, x1] : List Int32)) (n := 2) hEL hws wi hO hx0 E V C K Sc hzc rfl rfl (by decide) (by decide) ?_ (by omega) (by omega)).more (by decide) (by decide)
  intro c hc
  simp only [List.mem_cons, List.not_mem_nil, or_false] at hc
  rcases hc with rfl | rfl <;> first | exact ⟨c0.1, q0⟩ | exact ⟨c1.1, q1⟩
set_option maxRecDepth 65536 in
set_option maxHeartbeats 4000000 in
theorem metTB3 {Z : State} {a0 : Array Value} {n0 : Nat} {h : Heap} (hw : ∀ d ∈ tables_1, d.before a0 Z = true) (hO : Old Z n0 h) (S_AD : Sta Z Z.heap "java/lang/StringUTF16" "$assertionsDisabled" "Z" (.int 1)) (S_HI : Sta Z Z.heap "java/lang/StringUTF16" "HI_BYTE_SHIFT" "I" (.int 0)) (S_LO : Sta Z Z.heap "java/lang/StringUTF16" "LO_BYTE_SHIFT" "I" (.int 8)) {a : Addr} {kC : ClassId} {dv : Value} {x0 x1 x2 : Int32} (K : Arv Z h a kC .char (3 : Int32) (([x0, x1, x2] : List Int32).map Value.int) dv) :
    Met Z EL1 n0 ⟨"java/lang/StringUTF16", "toBytes", "([CII)[B"⟩ jdk_52_method_14_code 5 (some (.array .byte)) rwTB #[.ref a, .int 0, .int (3 : Int32)] h [] (fun v h' => ∃ (b : Addr) (kb : ClassId), v = some (.ref b) ∧ b = h.size ∧ Ext h h' ∧ Arv Z h' b kb .byte (6 : Int32) (StrChars.Road.wideBytes ([x0, x1, x2] : List Int32)) (.int 0)) := by
  have w : ∀ (i : Nat) {d : Jvm.Cond}, tables_1[i]? = some d → d.before a0 Z = true := fun i d q => hw d (List.mem_of_getElem? q)
  have hEL : EW Z a0 EL1 := EW.cons (w 27 rfl) (by simp) EW.nil
  refine Met.of_walk (a0 := a0) pnU hEL hO all0 (L0 := #[.val (.ref a), .val (.int (0 : Int32)), .val (.int (3 : Int32)), .unset, .unset]) (fun m => by first | (simp [entryFrame, mkF, argsToLocals, Value.category, maxLocals]; done) | rfl) rfl ?_
  intro k H0
  have H1 := H0.iloadN 1 wTB_0 rfl
  obtain ⟨_, h1, ⟨b1, kb, rfl, g1, E1, V1⟩, K1, H2⟩ := H1.callSF 4 (z := ⟨"java/lang/StringUTF16", "newBytesFor", "(I)[B"⟩) (w 113 rfl) (w 114 rfl) (w 73 rfl) (w 115 rfl) (by decide) (argsL := [(.int (3 : Int32))]) (rest := []) (PaidF.of_met (W := 0) (metNBF hw H1.oldO (i := (3 : Int32)) (N := (6 : Int32)) (by decide) (by decide) (by decide) (by decide) (by decide)) (w 115 rfl) (w 73 rfl) hEL (by decide) (by decide)) (Nat.le_refl _) (lenOf pdw_3 rfl) rfl (Nat.le_of_eq rfl) wTB_1 (by decide) (by decide) all0
  rw [← g1] at H2
  have H3 := H2.astoreN 5 wTB_4 (L' := #[.val (.ref a), .val (.int (0 : Int32)), .val (.int (3 : Int32)), .val (.ref b1), .unset]) rfl
  have H4 := H3.iconst 6 (0 : Int32) wTB_5
  have H5 := H4.istore 8 wTB_6 (L' := #[.val (.ref a), .val (.int (0 : Int32)), .val (.int (3 : Int32)), .val (.ref b1), .val (.int (0 : Int32))]) rfl
  have H6 := H5.iload 10 wTB_8 rfl
  have H7 := H6.iloadN 11 wTB_10 rfl
  have H8 := H7.icmpNo 14 wTB_11 (XT.ii_ge_f (by decide))
  have H9 := H8.aloadN 15 wTB_14 rfl
  have H10 := H9.iload 17 wTB_15 rfl
  have H11 := H10.aloadN 18 wTB_17 rfl
  have H12 := H11.iloadN 19 wTB_18 rfl
  have H13 := H12.caload 20 (K.ext E1) ⟨by decide, by decide⟩ (v := .int x0) rfl wTB_19
  obtain ⟨_, hp0, ⟨rfl, Vp0⟩, Kp0, H14⟩ := H13.callS 23 (z := ⟨"java/lang/StringUTF16", "putChar", "([BII)V"⟩) (w 120 rfl) (w 121 rfl) (w 73 rfl) (w 122 rfl) (by decide) (argsL := [(.ref b1), (.int (0 : Int32)), (.int x0)]) (rest := []) (Paid.of_met (W := 0) (metPUT hw H13.oldO S_AD S_HI S_LO (i := (0 : Int32)) (c := x0) 0 V1 (H13.sf_lt (by simp)).2 ⟨by decide, by decide⟩ (by decide) ⟨by decide, by decide⟩ (by decide) (by simp)) (w 122 rfl) (w 73 rfl) hEL (by decide) (by decide)) (lenOf pdw_0 rfl) rfl (Nat.le_of_eq rfl) wTB_20 (by decide) (by decide) (by simp)
  have Xp0 : Ext h hp0 := Ext.keep' E1 Kp0 (allS (Nat.le_of_eq g1.symm) all0)
  have H15 := H14.iinc 26 (1 : Int32) wTB_23 rfl (L' := #[.val (.ref a), .val (.int ((0 : Int32) + (1 : Int32))), .val (.int (3 : Int32)), .val (.ref b1), .val (.int (0 : Int32))]) rfl
  have H16 := H15.iinc 29 (1 : Int32) wTB_26 rfl (L' := #[.val (.ref a), .val (.int ((0 : Int32) + (1 : Int32))), .val (.int (3 : Int32)), .val (.ref b1), .val (.int ((0 : Int32) + (1 : Int32)))]) rfl
  have H17 := H16.goto 8 wTB_29
  have H18 := H17.iload 10 wTB_8 rfl
  have H19 := H18.iloadN 11 wTB_10 rfl
  have H20 := H19.icmpNo 14 wTB_11 (XT.ii_ge_f (by decide))
  have H21 := H20.aloadN 15 wTB_14 rfl
  have H22 := H21.iload 17 wTB_15 rfl
  have H23 := H22.aloadN 18 wTB_17 rfl
  have H24 := H23.iloadN 19 wTB_18 rfl
  have H25 := H24.caload 20 (K.ext Xp0) ⟨by decide, by decide⟩ (v := .int x1) rfl wTB_19
  obtain ⟨_, hp1, ⟨rfl, Vp1⟩, Kp1, H26⟩ := H25.callS 23 (z := ⟨"java/lang/StringUTF16", "putChar", "([BII)V"⟩) (w 120 rfl) (w 121 rfl) (w 73 rfl) (w 122 rfl) (by decide) (argsL := [(.ref b1), (.int ((0 : Int32) + (1 : Int32))), (.int x1)]) (rest := []) (Paid.of_met (W := 0) (metPUT hw H25.oldO S_AD S_HI S_LO (i := ((0 : Int32) + (1 : Int32))) (c := x1) 1 Vp0 (H25.sf_lt (by simp)).2 ⟨by decide, by decide⟩ (by decide) ⟨by decide, by decide⟩ (by decide) (by simp)) (w 122 rfl) (w 73 rfl) hEL (by decide) (by decide)) (lenOf pdw_0 rfl) rfl (Nat.le_of_eq rfl) wTB_20 (by decide) (by decide) (by simp)
  have Xp1 : Ext h hp1 := Ext.keep' Xp0 Kp1 (allS (Nat.le_of_eq g1.symm) all0)
  have H27 := H26.iinc 26 (1 : Int32) wTB_23 rfl (L' := #[.val (.ref a), .val (.int (((0 : Int32) + (1 : Int32)) + (1 : Int32))), .val (.int (3 : Int32)), .val (.ref b1), .val (.int ((0 : Int32) + (1 : Int32)))]) rfl
  have H28 := H27.iinc 29 (1 : Int32) wTB_26 rfl (L' := #[.val (.ref a), .val (.int (((0 : Int32) + (1 : Int32)) + (1 : Int32))), .val (.int (3 : Int32)), .val (.ref b1), .val (.int (((0 : Int32) + (1 : Int32)) + (1 : Int32)))]) rfl
  have H29 := H28.goto 8 wTB_29
  have H30 := H29.iload 10 wTB_8 rfl
  have H31 := H30.iloadN 11 wTB_10 rfl
  have H32 := H31.icmpNo 14 wTB_11 (XT.ii_ge_f (by decide))
  have H33 := H32.aloadN 15 wTB_14 rfl
  have H34 := H33.iload 17 wTB_15 rfl
  have H35 := H34.aloadN 18 wTB_17 rfl
  have H36 := H35.iloadN 19 wTB_18 rfl
  have H37 := H36.caload 20 (K.ext Xp1) ⟨by decide, by decide⟩ (v := .int x2) rfl wTB_19
  obtain ⟨_, hp2, ⟨rfl, Vp2⟩, Kp2, H38⟩ := H37.callS 23 (z := ⟨"java/lang/StringUTF16", "putChar", "([BII)V"⟩) (w 120 rfl) (w 121 rfl) (w 73 rfl) (w 122 rfl) (by decide) (argsL := [(.ref b1), (.int (((0 : Int32) + (1 : Int32)) + (1 : Int32))), (.int x2)]) (rest := []) (Paid.of_met (W := 0) (metPUT hw H37.oldO S_AD S_HI S_LO (i := (((0 : Int32) + (1 : Int32)) + (1 : Int32))) (c := x2) 2 Vp1 (H37.sf_lt (by simp)).2 ⟨by decide, by decide⟩ (by decide) ⟨by decide, by decide⟩ (by decide) (by simp)) (w 122 rfl) (w 73 rfl) hEL (by decide) (by decide)) (lenOf pdw_0 rfl) rfl (Nat.le_of_eq rfl) wTB_20 (by decide) (by decide) (by simp)
  have Xp2 : Ext h hp2 := Ext.keep' Xp1 Kp2 (allS (Nat.le_of_eq g1.symm) all0)
  have H39 := H38.iinc 26 (1 : Int32) wTB_23 rfl (L' := #[.val (.ref a), .val (.int ((((0 : Int32) + (1 : Int32)) + (1 : Int32)) + (1 : Int32))), .val (.int (3 : Int32)), .val (.ref b1), .val (.int (((0 : Int32) + (1 : Int32)) + (1 : Int32)))]) rfl
  have H40 := H39.iinc 29 (1 : Int32) wTB_26 rfl (L' := #[.val (.ref a), .val (.int ((((0 : Int32) + (1 : Int32)) + (1 : Int32)) + (1 : Int32))), .val (.int (3 : Int32)), .val (.ref b1), .val (.int ((((0 : Int32) + (1 : Int32)) + (1 : Int32)) + (1 : Int32)))]) rfl
  have H41 := H40.goto 8 wTB_29
  have H42 := H41.iload 10 wTB_8 rfl
  have H43 := H42.iloadN 11 wTB_10 rfl
  have H44 := H43.icmpYes 32 wTB_11 (XT.ii_ge_t (by decide))
  have H45 := H44.aloadN 33 wTB_32 rfl
  exact H45.retA rfl rfl rfl wTB_33 (by decide) (by decide) ⟨b1, kb, rfl, g1, Xp2, Vp2.pad (fun i => by rcases i with _ | _ | _ | _ | _ | _ | _ | _ | i <;> rfl)⟩
set_option maxRecDepth 65536 in
set_option maxHeartbeats 4000000 in
theorem metCF3 {Z : State} {a0 : Array Value} {n0 : Nat} {h : Heap} (hw : ∀ d ∈ tables_1, d.before a0 Z = true) (hO : Old Z n0 h) {b : Addr} {kb : ClassId} {vs : List Value} (V : Arv Z h b kb .byte (6 : Int32) vs (.int 0)) :
    Met Z EL1 n0 ⟨"java/lang/StringUTF16", "coderFromArrayLen", "([BI)B"⟩ jdk_52_method_15_code 2 (some .byte) rw0 #[.ref b, .int (3 : Int32)] h [] (fun v h' => v = some (.int 1) ∧ h' = h) := by
  have w : ∀ (i : Nat) {d : Jvm.Cond}, tables_1[i]? = some d → d.before a0 Z = true := fun i d q => hw d (List.mem_of_getElem? q)
  have hEL : EW Z a0 EL1 := EW.cons (w 27 rfl) (by simp) EW.nil
  refine Met.of_walk (a0 := a0) pnU hEL hO all0 (L0 := #[.val (.ref b), .val (.int (3 : Int32))]) (fun m => by first | (simp [entryFrame, mkF, argsToLocals, Value.category, maxLocals]; done) | rfl) rfl ?_
  intro k H0
  have H1 := H0.iloadN 1 wCF_0 rfl
  have H2 := H1.aloadN 2 wCF_1 rfl
  have H3 := H2.alen 3 V wCF_2
  have H4 := H3.isub 4 wCF_3
  have H5 := H4.bipush 6 (31 : Int32) wCF_4
  have H6 := H5.iushr 7 wCF_6
  have H7 := H6.i2b 8 wCF_7
  exact H7.retI rfl (XT.narrow_b _) (by simp) wCF_8 (by decide) (by decide) ⟨by decide, rfl⟩
set_option maxRecDepth 65536 in
set_option maxHeartbeats 4000000 in
theorem metCI30 {Z : State} {a0 : Array Value} {n0 : Nat} {h : Heap} (hw : ∀ d ∈ tables_1, d.before a0 Z = true) (hO : Old Z n0 h) {a : Addr} {kC : ClassId} {dv : Value} {x0 x1 x2 : Int32} (K : Arv Z h a kC .char (3 : Int32) (([x0, x1, x2] : List Int32).map Value.int) dv) {b : Addr} {kb : ClassId} {vs : List Value} (V : Arv Z h b kb .byte (3 : Int32) vs (.int 0)) (hv : 4 ≤ vs.length) (hb : n0 ≤ b) (ab : a ≠ b)  (q0 : (255 : Int32) < x0) :
    Met Z EL1 n0 ⟨"java/lang/StringUTF16", "compress", "([CI[BII)I"⟩ jdk_52_method_21_code 7 (some .int) rw0 #[.ref a, .int 0, .ref b, .int 0, .int (3 : Int32)] h [b] (fun v h' => v = some (.int 0)) := by
  have w : ∀ (i : Nat) {d : Jvm.Cond}, tables_1[i]? = some d → d.before a0 Z = true := fun i d q => hw d (List.mem_of_getElem? q)
  have hEL : EW Z a0 EL1 := EW.cons (w 27 rfl) (by simp) EW.nil
  refine Met.of_walk (a0 := a0) pnU hEL hO (allS ⟨V.lt, hb⟩ all0) (L0 := #[.val (.ref a), .val (.int (0 : Int32)), .val (.ref b), .val (.int (0 : Int32)), .val (.int (3 : Int32)), .unset, .unset]) (fun m => by first | (simp [entryFrame, mkF, argsToLocals, Value.category, maxLocals]; done) | rfl) rfl ?_
  intro k H0
  have H1 := H0.iconst 1 (0 : Int32) wCI_0
  have H2 := H1.istore 3 wCI_1 (L' := #[.val (.ref a), .val (.int (0 : Int32)), .val (.ref b), .val (.int (0 : Int32)), .val (.int (3 : Int32)), .val (.int (0 : Int32)), .unset]) rfl
  have H3 := H2.iload 5 wCI_3 rfl
  have H4 := H3.iload 7 wCI_5 rfl
  have H5 := H4.icmpNo 10 wCI_7 (XT.ii_ge_f (by decide))
  have H6 := H5.aloadN 11 wCI_10 rfl
  have H7 := H6.iloadN 12 wCI_11 rfl
  have H8 := H7.caload 13 K ⟨by decide, by decide⟩ (v := .int x0) rfl wCI_12
  have H9 := H8.istore 15 wCI_13 (L' := #[.val (.ref a), .val (.int (0 : Int32)), .val (.ref b), .val (.int (0 : Int32)), .val (.int (3 : Int32)), .val (.int (0 : Int32)), .val (.int x0)]) rfl
  have H10 := H9.iload 17 wCI_15 rfl
  have H11 := H10.sipush 20 (255 : Int32) wCI_17
  have H12 := H11.icmpNo 23 wCI_20 (XT.ii_le_f q0)
  have H13 := H12.iload 25 wCI_23 rfl
  exact H13.retI rfl rfl (by simp) wCI_25 (by decide) (by decide) (by rfl)
set_option maxRecDepth 65536 in
set_option maxHeartbeats 4000000 in
theorem metCM30 {Z : State} {a0 : Array Value} {n0 : Nat} {h : Heap} (hw : ∀ d ∈ tables_1, d.before a0 Z = true) (hO : Old Z n0 h) (S_AD : Sta Z Z.heap "java/lang/StringUTF16" "$assertionsDisabled" "Z" (.int 1)) (S_HI : Sta Z Z.heap "java/lang/StringUTF16" "HI_BYTE_SHIFT" "I" (.int 0)) (S_LO : Sta Z Z.heap "java/lang/StringUTF16" "LO_BYTE_SHIFT" "I" (.int 8)) {a : Addr} {kC : ClassId} {dv : Value} {x0 x1 x2 : Int32} (K : Arv Z h a kC .char (3 : Int32) (([x0, x1, x2] : List Int32).map Value.int) dv) (c0 : C16 x0)  (q0 : (255 : Int32) < x0) :
    Met Z EL1 n0 ⟨"java/lang/StringUTF16", "compress", "([CII)[B"⟩ jdk_52_method_16_code 6 (some (.array .byte)) rwCM #[.ref a, .int 0, .int (3 : Int32)] h [] (fun v h' => ∃ (b : Addr) (kb : ClassId), v = some (.ref b) ∧ h.size ≤ b ∧ Ext h h' ∧ Arv Z h' b kb .byte (6 : Int32) (StrChars.Road.wideBytes ([x0, x1, x2] : List Int32)) (.int 0)) := by
  have w : ∀ (i : Nat) {d : Jvm.Cond}, tables_1[i]? = some d → d.before a0 Z = true := fun i d q => hw d (List.mem_of_getElem? q)
  have hEL : EW Z a0 EL1 := EW.cons (w 27 rfl) (by simp) EW.nil
  refine Met.of_walk (a0 := a0) pnU hEL hO all0 (L0 := #[.val (.ref a), .val (.int (0 : Int32)), .val (.int (3 : Int32)), .unset, .unset, .unset]) (fun m => by first | (simp [entryFrame, mkF, argsToLocals, Value.category, maxLocals]; done) | rfl) rfl ?_
  intro k H0
  have H1 := H0.iloadN 1 wCM_0 rfl
  obtain ⟨b1, h1, k1, g1, E1, V1, H2⟩ := H1.newP 3 (ty := .byte) rfl (w 28 rfl) wCM_1 (by decide) (cap := 4) (by decide) (by decide) (by decide) (by decide)
  have H3 := H2.astoreN 4 wCM_3 (L' := #[.val (.ref a), .val (.int (0 : Int32)), .val (.int (3 : Int32)), .val (.ref b1), .unset, .unset]) rfl
  have H4 := H3.aloadN 5 wCM_4 rfl
  have H5 := H4.iloadN 6 wCM_5 rfl
  have H6 := H5.aloadN 7 wCM_6 rfl
  have H7 := H6.iconst 8 (0 : Int32) wCM_7
  have H8 := H7.iloadN 9 wCM_8 rfl
  obtain ⟨_, h2, rfl, K2, H9⟩ := H8.callS 12 (z := ⟨"java/lang/StringUTF16", "compress", "([CI[BII)I"⟩) (w 75 rfl) (w 76 rfl) (w 73 rfl) (w 77 rfl) (by decide) (argsL := [(.ref a), (.int (0 : Int32)), (.ref b1), (.int (0 : Int32)), (.int (3 : Int32))]) (rest := []) (Paid.of_met (W := 0) (metCI30 hw H8.oldO (K.ext E1) V1 (by simp) (H8.sf_lt (by simp)).2 (Nat.ne_of_lt (g1 ▸ K.lt)) q0) (w 77 rfl) (w 73 rfl) hEL (by decide) (by decide)) (lenOf pdw_5 rfl) rfl (Nat.le_of_eq rfl) wCM_9 (by decide) (by decide) (by simp)
  have X2 : Ext h h2 := Ext.keep' E1 K2 (allS (Nat.le_of_eq g1.symm) all0)
  have H10 := H9.istore 14 wCM_12 (L' := #[.val (.ref a), .val (.int (0 : Int32)), .val (.int (3 : Int32)), .val (.ref b1), .val (.int (0 : Int32)), .unset]) rfl
  have H11 := H10.iload 16 wCM_14 rfl
  have H12 := H11.iloadN 17 wCM_16 rfl
  have H13 := H12.icmpNo 20 wCM_17 (XT.ii_eq_f (by decide))
  have H14 := H13.aloadN 21 wCM_20 rfl
  have H15 := H14.iloadN 22 wCM_21 rfl
  have H16 := H15.iloadN 23 wCM_22 rfl
  obtain ⟨_, h3, ⟨b3, k3, rfl, g3, E3, V3⟩, K3, H17⟩ := H16.callS 26 (z := ⟨"java/lang/StringUTF16", "toBytes", "([CII)[B"⟩) (w 110 rfl) (w 111 rfl) (w 73 rfl) (w 112 rfl) (by decide) (argsL := [(.ref a), (.int (0 : Int32)), (.int (3 : Int32))]) (rest := []) (Paid.of_met (W := 0) (metTB3 hw H16.oldO S_AD S_HI S_LO (K.ext X2)) (w 112 rfl) (w 73 rfl) hEL (by decide) (by decide)) (lenOf pdw_4 rfl) rfl (Nat.le_of_eq rfl) wCM_23 (by decide) (by decide) all0
  have H18 := H17.astore 28 wCM_26 (L' := #[.val (.ref a), .val (.int (0 : Int32)), .val (.int (3 : Int32)), .val (.ref b1), .val (.int (0 : Int32)), .val (.ref b3)]) rfl
  have H19 := H18.aload 30 wCM_28 rfl
  have H20 := H19.iload 32 wCM_30 rfl
  obtain ⟨_, h4, ⟨rfl, e4⟩, K4, H21⟩ := H20.callS 35 (z := ⟨"java/lang/StringUTF16", "getChar", "([BI)C"⟩) (w 126 rfl) (w 127 rfl) (w 73 rfl) (w 128 rfl) (by decide) (argsL := [(.ref b3), (.int (0 : Int32))]) (rest := []) (Paid.of_met (W := 0) (metGET hw H20.oldO S_AD S_HI S_LO (i := (0 : Int32)) 0 V3 ⟨by decide, by decide⟩ (by decide) ⟨by decide, by decide⟩ (by decide) (u := StrChars.lo8 x0) (v := StrChars.hi8 x0) rfl rfl) (w 128 rfl) (w 73 rfl) hEL (by decide) (by decide)) (lenOf pdw_1 rfl) rfl (Nat.le_of_eq rfl) wCM_32 (by decide) (by decide) all0
  subst e4
  rw [StrChars.pair_says c0.1 c0.2] at H21
  have H22 := H21.sipush 38 (255 : Int32) wCM_35
  have H23 := H22.icmpYes 54 wCM_38 (XT.ii_gt_t q0)
  have H24 := H23.aload 56 wCM_54 rfl
  exact H24.retA rfl rfl rfl wCM_56 (by decide) (by decide) ⟨b3, k3, rfl, (by rw [g3]; exact X2.1), Ext.trans' X2 E3, V3⟩
set_option maxRecDepth 65536 in
set_option maxHeartbeats 4000000 in
theorem metNW30 {Z : State} {a0 : Array Value} {n0 : Nat} {h : Heap} (hw : ∀ d ∈ tables_1, d.before a0 Z = true) (hO : Old Z n0 h) {zc : Int32} (Sc : Sta Z Z.heap ST "COMPACT_STRINGS" "Z" (.int zc)) (hzc : ¬ zc = 0) (S_AD : Sta Z Z.heap "java/lang/StringUTF16" "$assertionsDisabled" "Z" (.int 1)) (S_HI : Sta Z Z.heap "java/lang/StringUTF16" "HI_BYTE_SHIFT" "I" (.int 0)) (S_LO : Sta Z Z.heap "java/lang/StringUTF16" "LO_BYTE_SHIFT" "I" (.int 8)) {x : Addr} {v0 c0 : Value} (hx0 : n0 ≤ x) (E : Exa Z h x ST) (V : Fld Z h x ST "value" "[B" v0) (C : Fld Z h x ST "coder" "B" c0) {a : Addr} {kC : ClassId} {dv : Value} {x0 x1 x2 : Int32} (K : Arv Z h a kC .char (3 : Int32) (([x0, x1, x2] : List Int32).map Value.int) dv) (c0 : C16 x0) (c1 : C16 x1) (c2 : C16 x2)  (q0 : (255 : Int32) < x0) :
    Met Z EL1 n0 ⟨"java/lang/String", "<init>", "([CIILjava/lang/Void;)V"⟩ jdk_42_method_149_code 6 none rwN4 #[.ref x, .ref a, .int 0, .int (3 : Int32), .null] h [x] (fun v h' => v = none ∧ Str Z h' x ([x0, x1, x2] : List Int32)) := by
  have w : ∀ (i : Nat) {d : Jvm.Cond}, tables_1[i]? = some d → d.before a0 Z = true := fun i d q => hw d (List.mem_of_getElem? q)
  have hEL : EW Z a0 EL1 := EW.cons (w 27 rfl) (by simp) EW.nil
  have wlv := (w 29 rfl)
  have wlc := (w 30 rfl)
  have nvc : RoadKit.slotOf Z ST "coder" "B" ≠ RoadKit.slotOf Z ST "value" "[B" := slot_ne (Or.inr wlc) (Or.inr wlv) (by decide) (t := .byte) (by decide) (t' := .array .byte) (by decide)
  refine Met.of_walk (a0 := a0) pnST hEL hO (allS ⟨E.lt, hx0⟩ all0) (L0 := #[.val (.ref x), .val (.ref a), .val (.int (0 : Int32)), .val (.int (3 : Int32)), .val .null, .unset]) (fun m => by first | (simp [entryFrame, mkF, argsToLocals, Value.category, maxLocals]; done) | rfl) rfl ?_
  intro k H0
  have H1 := H0.aloadN 1 wN4_0 rfl
  have H2 := H1.initO 4 (w 24 rfl) (w 25 rfl) (w 26 rfl) wN4_1 (by decide) (W := 0) (by decide) (by decide)
  have H3 := H2.iloadN 5 wN4_4 rfl
  have H4 := H3.ifYes 27 wN4_5 (XT.i0_ne_t (by decide))
  have H5 := H4.getS 30 (w 49 rfl) (staOld Sc H4.oldO) wN4_27
  have H6 := H5.ifNo 33 wN4_30 (XT.i0_eq_f hzc)
  have H7 := H6.aloadN 34 wN4_33 rfl
  have H8 := H7.iloadN 35 wN4_34 rfl
  have H9 := H8.iloadN 36 wN4_35 rfl
  obtain ⟨_, h1, ⟨b1, k1, rfl, g1, E1, V1⟩, K1, H10⟩ := H9.callS 39 (z := ⟨"java/lang/StringUTF16", "compress", "([CII)[B"⟩) (w 71 rfl) (w 72 rfl) (w 73 rfl) (w 74 rfl) (by decide) (argsL := [(.ref a), (.int (0 : Int32)), (.int (3 : Int32))]) (rest := []) (Paid.of_met (W := 0) (metCM30 hw H9.oldO S_AD S_HI S_LO K c0 q0) (w 74 rfl) (w 73 rfl) hEL (by decide) (by decide)) (lenOf pdw_6 rfl) rfl (Nat.le_of_eq rfl) wN4_36 (by decide) (by decide) all0
  have H11 := H10.astore 41 wN4_39 (L' := #[.val (.ref x), .val (.ref a), .val (.int (0 : Int32)), .val (.int (3 : Int32)), .val .null, .val (.ref b1)]) rfl
  have H12 := H11.aloadN 42 wN4_41 rfl
  have H13 := H12.aload 44 wN4_42 rfl
  have H14 := H13.iloadN 45 wN4_44 rfl
  obtain ⟨_, h2, ⟨rfl, e2⟩, K2, H15⟩ := H14.callS 48 (z := ⟨"java/lang/StringUTF16", "coderFromArrayLen", "([BI)B"⟩) (w 78 rfl) (w 79 rfl) (w 73 rfl) (w 80 rfl) (by decide) (argsL := [(.ref b1), (.int (3 : Int32))]) (rest := [(.ref x)]) (Paid.of_met (W := 1) (metCF3 hw H14.oldO V1) (w 80 rfl) (w 73 rfl) hEL (by decide) (by decide)) (lenOf pdw_7 rfl) rfl (Nat.le_of_eq rfl) wN4_45 (by decide) (by decide) all0
  subst e2
  have C1 := C.ext E1
  have E1x := E.ext E1
  obtain ⟨h3, W3, K3, E3, F3, H16⟩ := H15.putF 51 (w 34 rfl) C1 E1x (Or.inr ⟨(w 30 rfl), rfl, rfl⟩) (w 15 rfl) (ty := .byte) (by decide) rfl rfl wN4_48 (by simp)
  have H17 := H16.aloadN 52 wN4_51 rfl
  have H18 := H17.aload 54 wN4_52 rfl
  have V3' := (V.ext E1).other W3 (Or.inr (Ne.symm nvc))
  obtain ⟨h4, W4, K4, E4, F4, H19⟩ := H18.putF 57 (w 33 rfl) V3' E3 (Or.inr ⟨(w 29 rfl), rfl, rfl⟩) (w 15 rfl) (ty := .array .byte) (by decide) rfl rfl wN4_54 (by simp)
  have nx : b1 ∉ [x] := ninS (Nat.ne_of_gt (Nat.lt_of_lt_of_le E.lt g1)) nin0
  refine H19.retV rfl wN4_57 (by decide) (by decide) ⟨rfl, E4, b1, k1, 1, _, _, F4, F3.other W4 (Or.inr nvc), (V1.keep K3 nx).keep K4 nx, Or.inr ⟨rfl, rfl, rfl, x0, by simp, q0⟩, ?_, by simp⟩
  intro c hc
  simp only [List.mem_cons, List.not_mem_nil, or_false] at hc
  rcases hc with rfl | rfl | rfl <;> first | exact c0 | exact c1 | exact c2
set_option maxRecDepth 65536 in
set_option maxHeartbeats 4000000 in
theorem metN30 {Z : State} {a0 : Array Value} {n0 : Nat} {h : Heap} (hw : ∀ d ∈ tables_1, d.before a0 Z = true) (hO : Old Z n0 h) {zc : Int32} (Sc : Sta Z Z.heap ST "COMPACT_STRINGS" "Z" (.int zc)) (hzc : ¬ zc = 0) (S_AD : Sta Z Z.heap "java/lang/StringUTF16" "$assertionsDisabled" "Z" (.int 1)) (S_HI : Sta Z Z.heap "java/lang/StringUTF16" "HI_BYTE_SHIFT" "I" (.int 0)) (S_LO : Sta Z Z.heap "java/lang/StringUTF16" "LO_BYTE_SHIFT" "I" (.int 8)) {x : Addr} {v0 c0 : Value} (hx0 : n0 ≤ x) (E : Exa Z h x ST) (V : Fld Z h x ST "value" "[B" v0) (C : Fld Z h x ST "coder" "B" c0) {a : Addr} {kC : ClassId} {dv : Value} {x0 x1 x2 : Int32} (K : Arv Z h a kC .char (3 : Int32) (([x0, x1, x2] : List Int32).map Value.int) dv) (c0 : C16 x0) (c1 : C16 x1) (c2 : C16 x2)  (q0 : (255 : Int32) < x0) :
    Met Z EL1 n0 ⟨"java/lang/String", "<init>", "([C)V"⟩ jdk_42_method_3_code 2 none rwN1 #[.ref x, .ref a] h [x] (fun v h' => v = none ∧ Str Z h' x ([x0, x1, x2] : List Int32)) := by
  have w : ∀ (i : Nat) {d : Jvm.Cond}, tables_1[i]? = some d → d.before a0 Z = true := fun i d q => hw d (List.mem_of_getElem? q)
  have hEL : EW Z a0 EL1 := EW.cons (w 27 rfl) (by simp) EW.nil
  refine Met.of_walk (a0 := a0) pnST hEL hO (allS ⟨E.lt, hx0⟩ all0) (L0 := #[.val (.ref x), .val (.ref a)]) (fun m => by first | (simp [entryFrame, mkF, argsToLocals, Value.category, maxLocals]; done) | rfl) rfl ?_
  intro k H0
  have H1 := H0.aloadN 1 wN1_0 rfl
  have H2 := H1.aloadN 2 wN1_1 rfl
  have H3 := H2.iconst 3 (0 : Int32) wN1_2
  have H4 := H3.aloadN 4 wN1_3 rfl
  have H5 := H4.alen 5 K wN1_4
  have H6 := H5.anull 6 wN1_5
  obtain ⟨_, h1, ⟨rfl, S1⟩, K1, H7⟩ := H6.callI 9 (z := ⟨"java/lang/String", "<init>", "([CIILjava/lang/Void;)V"⟩) rfl (w 20 rfl) (w 21 rfl) (w 23 rfl) (by decide) (a := x) (argsL := [(.ref a), (.int (0 : Int32)), (.int (3 : Int32)), .null]) (rest := []) (Paid.of_met (W := 0) (metNW30 hw H6.oldO Sc hzc S_AD S_HI S_LO hx0 E V C K c0 c1 c2 q0) (w 23 rfl) (w 16 rfl) hEL (by decide) (by decide)) (lenOf pdw_8 rfl) rfl (Nat.le_of_eq rfl) wN1_6 (by decide) (by decide) (by simp)
  exact H7.retV rfl wN1_9 (by decide) (by decide) ⟨rfl, S1⟩
set_option maxRecDepth 65536 in
set_option maxHeartbeats 4000000 in
theorem metCI31 {Z : State} {a0 : Array Value} {n0 : Nat} {h : Heap} (hw : ∀ d ∈ tables_1, d.before a0 Z = true) (hO : Old Z n0 h) {a : Addr} {kC : ClassId} {dv : Value} {x0 x1 x2 : Int32} (K : Arv Z h a kC .char (3 : Int32) (([x0, x1, x2] : List Int32).map Value.int) dv) {b : Addr} {kb : ClassId} {vs : List Value} (V : Arv Z h b kb .byte (3 : Int32) vs (.int 0)) (hv : 4 ≤ vs.length) (hb : n0 ≤ b) (ab : a ≠ b) (q0 : ¬ (255 : Int32) < x0) (q1 : (255 : Int32) < x1) :
    Met Z EL1 n0 ⟨"java/lang/StringUTF16", "compress", "([CI[BII)I"⟩ jdk_52_method_21_code 7 (some .int) rw0 #[.ref a, .int 0, .ref b, .int 0, .int (3 : Int32)] h [b] (fun v h' => v = some (.int 1)) := by
  have w : ∀ (i : Nat) {d : Jvm.Cond}, tables_1[i]? = some d → d.before a0 Z = true := fun i d q => hw d (List.mem_of_getElem? q)
  have hEL : EW Z a0 EL1 := EW.cons (w 27 rfl) (by simp) EW.nil
  refine Met.of_walk (a0 := a0) pnU hEL hO (allS ⟨V.lt, hb⟩ all0) (L0 := #[.val (.ref a), .val (.int (0 : Int32)), .val (.ref b), .val (.int (0 : Int32)), .val (.int (3 : Int32)), .unset, .unset]) (fun m => by first | (simp [entryFrame, mkF, argsToLocals, Value.category, maxLocals]; done) | rfl) rfl ?_
  intro k H0
  have H1 := H0.iconst 1 (0 : Int32) wCI_0
  have H2 := H1.istore 3 wCI_1 (L' := #[.val (.ref a), .val (.int (0 : Int32)), .val (.ref b), .val (.int (0 : Int32)), .val (.int (3 : Int32)), .val (.int (0 : Int32)), .unset]) rfl
  have H3 := H2.iload 5 wCI_3 rfl
  have H4 := H3.iload 7 wCI_5 rfl
  have H5 := H4.icmpNo 10 wCI_7 (XT.ii_ge_f (by decide))
  have H6 := H5.aloadN 11 wCI_10 rfl
  have H7 := H6.iloadN 12 wCI_11 rfl
  have H8 := H7.caload 13 K ⟨by decide, by decide⟩ (v := .int x0) rfl wCI_12
  have H9 := H8.istore 15 wCI_13 (L' := #[.val (.ref a), .val (.int (0 : Int32)), .val (.ref b), .val (.int (0 : Int32)), .val (.int (3 : Int32)), .val (.int (0 : Int32)), .val (.int x0)]) rfl
  have H10 := H9.iload 17 wCI_15 rfl
  have H11 := H10.sipush 20 (255 : Int32) wCI_17
  have H12 := H11.icmpYes 26 wCI_20 (XT.ii_le_t q0)
  have H13 := H12.aloadN 27 wCI_26 rfl
  have H14 := H13.iloadN 28 wCI_27 rfl
  have H15 := H14.iload 30 wCI_28 rfl
  have H16 := H15.i2b 31 wCI_30
  obtain ⟨h_0, K_0, V_0, H17⟩ := H16.stB 32 V 0 ⟨by decide, by decide⟩ (by decide) (by first | omega | (simp only [List.length_set]; omega)) wCI_31 (by simp)
  have Kc0 := K.keep K_0 (ninS ab nin0)
  have H18 := H17.iinc 35 (1 : Int32) wCI_32 rfl (L' := #[.val (.ref a), .val (.int ((0 : Int32) + (1 : Int32))), .val (.ref b), .val (.int (0 : Int32)), .val (.int (3 : Int32)), .val (.int (0 : Int32)), .val (.int x0)]) rfl
  have H19 := H18.iinc 38 (1 : Int32) wCI_35 rfl (L' := #[.val (.ref a), .val (.int ((0 : Int32) + (1 : Int32))), .val (.ref b), .val (.int ((0 : Int32) + (1 : Int32))), .val (.int (3 : Int32)), .val (.int (0 : Int32)), .val (.int x0)]) rfl
  have H20 := H19.iinc 41 (1 : Int32) wCI_38 rfl (L' := #[.val (.ref a), .val (.int ((0 : Int32) + (1 : Int32))), .val (.ref b), .val (.int ((0 : Int32) + (1 : Int32))), .val (.int (3 : Int32)), .val (.int ((0 : Int32) + (1 : Int32))), .val (.int x0)]) rfl
  have H21 := H20.goto 3 wCI_41
  have H22 := H21.iload 5 wCI_3 rfl
  have H23 := H22.iload 7 wCI_5 rfl
  have H24 := H23.icmpNo 10 wCI_7 (XT.ii_ge_f (by decide))
  have H25 := H24.aloadN 11 wCI_10 rfl
  have H26 := H25.iloadN 12 wCI_11 rfl
  have H27 := H26.caload 13 Kc0 ⟨by decide, by decide⟩ (v := .int x1) rfl wCI_12
  have H28 := H27.istore 15 wCI_13 (L' := #[.val (.ref a), .val (.int ((0 : Int32) + (1 : Int32))), .val (.ref b), .val (.int ((0 : Int32) + (1 : Int32))), .val (.int (3 : Int32)), .val (.int ((0 : Int32) + (1 : Int32))), .val (.int x1)]) rfl
  have H29 := H28.iload 17 wCI_15 rfl
  have H30 := H29.sipush 20 (255 : Int32) wCI_17
  have H31 := H30.icmpNo 23 wCI_20 (XT.ii_le_f q1)
  have H32 := H31.iload 25 wCI_23 rfl
  exact H32.retI rfl rfl (by simp) wCI_25 (by decide) (by decide) (by rfl)
set_option maxRecDepth 65536 in
set_option maxHeartbeats 4000000 in
theorem metCM31 {Z : State} {a0 : Array Value} {n0 : Nat} {h : Heap} (hw : ∀ d ∈ tables_1, d.before a0 Z = true) (hO : Old Z n0 h) (S_AD : Sta Z Z.heap "java/lang/StringUTF16" "$assertionsDisabled" "Z" (.int 1)) (S_HI : Sta Z Z.heap "java/lang/StringUTF16" "HI_BYTE_SHIFT" "I" (.int 0)) (S_LO : Sta Z Z.heap "java/lang/StringUTF16" "LO_BYTE_SHIFT" "I" (.int 8)) {a : Addr} {kC : ClassId} {dv : Value} {x0 x1 x2 : Int32} (K : Arv Z h a kC .char (3 : Int32) (([x0, x1, x2] : List Int32).map Value.int) dv) (c1 : C16 x1) (q0 : ¬ (255 : Int32) < x0) (q1 : (255 : Int32) < x1) :
    Met Z EL1 n0 ⟨"java/lang/StringUTF16", "compress", "([CII)[B"⟩ jdk_52_method_16_code 6 (some (.array .byte)) rwCM #[.ref a, .int 0, .int (3 : Int32)] h [] (fun v h' => ∃ (b : Addr) (kb : ClassId), v = some (.ref b) ∧ h.size ≤ b ∧ Ext h h' ∧ Arv Z h' b kb .byte (6 : Int32) (StrChars.Road.wideBytes ([x0, x1, x2] : List Int32)) (.int 0)) := by
  have w : ∀ (i : Nat) {d : Jvm.Cond}, tables_1[i]? = some d → d.before a0 Z = true := fun i d q => hw d (List.mem_of_getElem? q)
  have hEL : EW Z a0 EL1 := EW.cons (w 27 rfl) (by simp) EW.nil
  refine Met.of_walk (a0 := a0) pnU hEL hO all0 (L0 := #[.val (.ref a), .val (.int (0 : Int32)), .val (.int (3 : Int32)), .unset, .unset, .unset]) (fun m => by first | (simp [entryFrame, mkF, argsToLocals, Value.category, maxLocals]; done) | rfl) rfl ?_
  intro k H0
  have H1 := H0.iloadN 1 wCM_0 rfl
  obtain ⟨b1, h1, k1, g1, E1, V1, H2⟩ := H1.newP 3 (ty := .byte) rfl (w 28 rfl) wCM_1 (by decide) (cap := 4) (by decide) (by decide) (by decide) (by decide)
  have H3 := H2.astoreN 4 wCM_3 (L' := #[.val (.ref a), .val (.int (0 : Int32)), .val (.int (3 : Int32)), .val (.ref b1), .unset, .unset]) rfl
  have H4 := H3.aloadN 5 wCM_4 rfl
  have H5 := H4.iloadN 6 wCM_5 rfl
  have H6 := H5.aloadN 7 wCM_6 rfl
  have H7 := H6.iconst 8 (0 : Int32) wCM_7
  have H8 := H7.iloadN 9 wCM_8 rfl
  obtain ⟨_, h2, rfl, K2, H9⟩ := H8.callS 12 (z := ⟨"java/lang/StringUTF16", "compress", "([CI[BII)I"⟩) (w 75 rfl) (w 76 rfl) (w 73 rfl) (w 77 rfl) (by decide) (argsL := [(.ref a), (.int (0 : Int32)), (.ref b1), (.int (0 : Int32)), (.int (3 : Int32))]) (rest := []) (Paid.of_met (W := 0) (metCI31 hw H8.oldO (K.ext E1) V1 (by simp) (H8.sf_lt (by simp)).2 (Nat.ne_of_lt (g1 ▸ K.lt)) q0 q1) (w 77 rfl) (w 73 rfl) hEL (by decide) (by decide)) (lenOf pdw_5 rfl) rfl (Nat.le_of_eq rfl) wCM_9 (by decide) (by decide) (by simp)
  have X2 : Ext h h2 := Ext.keep' E1 K2 (allS (Nat.le_of_eq g1.symm) all0)
  have H10 := H9.istore 14 wCM_12 (L' := #[.val (.ref a), .val (.int (0 : Int32)), .val (.int (3 : Int32)), .val (.ref b1), .val (.int (1 : Int32)), .unset]) rfl
  have H11 := H10.iload 16 wCM_14 rfl
  have H12 := H11.iloadN 17 wCM_16 rfl
  have H13 := H12.icmpNo 20 wCM_17 (XT.ii_eq_f (by decide))
  have H14 := H13.aloadN 21 wCM_20 rfl
  have H15 := H14.iloadN 22 wCM_21 rfl
  have H16 := H15.iloadN 23 wCM_22 rfl
  obtain ⟨_, h3, ⟨b3, k3, rfl, g3, E3, V3⟩, K3, H17⟩ := H16.callS 26 (z := ⟨"java/lang/StringUTF16", "toBytes", "([CII)[B"⟩) (w 110 rfl) (w 111 rfl) (w 73 rfl) (w 112 rfl) (by decide) (argsL := [(.ref a), (.int (0 : Int32)), (.int (3 : Int32))]) (rest := []) (Paid.of_met (W := 0) (metTB3 hw H16.oldO S_AD S_HI S_LO (K.ext X2)) (w 112 rfl) (w 73 rfl) hEL (by decide) (by decide)) (lenOf pdw_4 rfl) rfl (Nat.le_of_eq rfl) wCM_23 (by decide) (by decide) all0
  have H18 := H17.astore 28 wCM_26 (L' := #[.val (.ref a), .val (.int (0 : Int32)), .val (.int (3 : Int32)), .val (.ref b1), .val (.int (1 : Int32)), .val (.ref b3)]) rfl
  have H19 := H18.aload 30 wCM_28 rfl
  have H20 := H19.iload 32 wCM_30 rfl
  obtain ⟨_, h4, ⟨rfl, e4⟩, K4, H21⟩ := H20.callS 35 (z := ⟨"java/lang/StringUTF16", "getChar", "([BI)C"⟩) (w 126 rfl) (w 127 rfl) (w 73 rfl) (w 128 rfl) (by decide) (argsL := [(.ref b3), (.int (1 : Int32))]) (rest := []) (Paid.of_met (W := 0) (metGET hw H20.oldO S_AD S_HI S_LO (i := (1 : Int32)) 1 V3 ⟨by decide, by decide⟩ (by decide) ⟨by decide, by decide⟩ (by decide) (u := StrChars.lo8 x1) (v := StrChars.hi8 x1) rfl rfl) (w 128 rfl) (w 73 rfl) hEL (by decide) (by decide)) (lenOf pdw_1 rfl) rfl (Nat.le_of_eq rfl) wCM_32 (by decide) (by decide) all0
  subst e4
  rw [StrChars.pair_says c1.1 c1.2] at H21
  have H22 := H21.sipush 38 (255 : Int32) wCM_35
  have H23 := H22.icmpYes 54 wCM_38 (XT.ii_gt_t q1)
  have H24 := H23.aload 56 wCM_54 rfl
  exact H24.retA rfl rfl rfl wCM_56 (by decide) (by decide) ⟨b3, k3, rfl, (by rw [g3]; exact X2.1), Ext.trans' X2 E3, V3⟩
set_option maxRecDepth 65536 in
set_option maxHeartbeats 4000000 in
theorem metNW31 {Z : State} {a0 : Array Value} {n0 : Nat} {h : Heap} (hw : ∀ d ∈ tables_1, d.before a0 Z = true) (hO : Old Z n0 h) {zc : Int32} (Sc : Sta Z Z.heap ST "COMPACT_STRINGS" "Z" (.int zc)) (hzc : ¬ zc = 0) (S_AD : Sta Z Z.heap "java/lang/StringUTF16" "$assertionsDisabled" "Z" (.int 1)) (S_HI : Sta Z Z.heap "java/lang/StringUTF16" "HI_BYTE_SHIFT" "I" (.int 0)) (S_LO : Sta Z Z.heap "java/lang/StringUTF16" "LO_BYTE_SHIFT" "I" (.int 8)) {x : Addr} {v0 c0 : Value} (hx0 : n0 ≤ x) (E : Exa Z h x ST) (V : Fld Z h x ST "value" "[B" v0) (C : Fld Z h x ST "coder" "B" c0) {a : Addr} {kC : ClassId} {dv : Value} {x0 x1 x2 : Int32} (K : Arv Z h a kC .char (3 : Int32) (([x0, x1, x2] : List Int32).map Value.int) dv) (c0 : C16 x0) (c1 : C16 x1) (c2 : C16 x2) (q0 : ¬ (255 : Int32) < x0) (q1 : (255 : Int32) < x1) :
    Met Z EL1 n0 ⟨"java/lang/String", "<init>", "([CIILjava/lang/Void;)V"⟩ jdk_42_method_149_code 6 none rwN4 #[.ref x, .ref a, .int 0, .int (3 : Int32), .null] h [x] (fun v h' => v = none ∧ Str Z h' x ([x0, x1, x2] : List Int32)) := by
  have w : ∀ (i : Nat) {d : Jvm.Cond}, tables_1[i]? = some d → d.before a0 Z = true := fun i d q => hw d (List.mem_of_getElem? q)
  have hEL : EW Z a0 EL1 := EW.cons (w 27 rfl) (by simp) EW.nil
  have wlv := (w 29 rfl)
  have wlc := (w 30 rfl)
  have nvc : RoadKit.slotOf Z ST "coder" "B" ≠ RoadKit.slotOf Z ST "value" "[B" := slot_ne (Or.inr wlc) (Or.inr wlv) (by decide) (t := .byte) (by decide) (t' := .array .byte) (by decide)
  refine Met.of_walk (a0 := a0) pnST hEL hO (allS ⟨E.lt, hx0⟩ all0) (L0 := #[.val (.ref x), .val (.ref a), .val (.int (0 : Int32)), .val (.int (3 : Int32)), .val .null, .unset]) (fun m => by first | (simp [entryFrame, mkF, argsToLocals, Value.category, maxLocals]; done) | rfl) rfl ?_
  intro k H0
  have H1 := H0.aloadN 1 wN4_0 rfl
  have H2 := H1.initO 4 (w 24 rfl) (w 25 rfl) (w 26 rfl) wN4_1 (by decide) (W := 0) (by decide) (by decide)
  have H3 := H2.iloadN 5 wN4_4 rfl
  have H4 := H3.ifYes 27 wN4_5 (XT.i0_ne_t (by decide))
  have H5 := H4.getS 30 (w 49 rfl) (staOld Sc H4.oldO) wN4_27
  have H6 := H5.ifNo 33 wN4_30 (XT.i0_eq_f hzc)
  have H7 := H6.aloadN 34 wN4_33 rfl
  have H8 := H7.iloadN 35 wN4_34 rfl
  have H9 := H8.iloadN 36 wN4_35 rfl
  obtain ⟨_, h1, ⟨b1, k1, rfl, g1, E1, V1⟩, K1, H10⟩ := H9.callS 39 (z := ⟨"java/lang/StringUTF16", "compress", "([CII)[B"⟩) (w 71 rfl) (w 72 rfl) (w 73 rfl) (w 74 rfl) (by decide) (argsL := [(.ref a), (.int (0 : Int32)), (.int (3 : Int32))]) (rest := []) (Paid.of_met (W := 0) (metCM31 hw H9.oldO S_AD S_HI S_LO K c1 q0 q1) (w 74 rfl) (w 73 rfl) hEL (by decide) (by decide)) (lenOf pdw_6 rfl) rfl (Nat.le_of_eq rfl) wN4_36 (by decide) (by decide) all0
  have H11 := H10.astore 41 wN4_39 (L' := #[.val (.ref x), .val (.ref a), .val (.int (0 : Int32)), .val (.int (3 : Int32)), .val .null, .val (.ref b1)]) rfl
  have H12 := H11.aloadN 42 wN4_41 rfl
  have H13 := H12.aload 44 wN4_42 rfl
  have H14 := H13.iloadN 45 wN4_44 rfl
  obtain ⟨_, h2, ⟨rfl, e2⟩, K2, H15⟩ := H14.callS 48 (z := ⟨"java/lang/StringUTF16", "coderFromArrayLen", "([BI)B"⟩) (w 78 rfl) (w 79 rfl) (w 73 rfl) (w 80 rfl) (by decide) (argsL := [(.ref b1), (.int (3 : Int32))]) (rest := [(.ref x)]) (Paid.of_met (W := 1) (metCF3 hw H14.oldO V1) (w 80 rfl) (w 73 rfl) hEL (by decide) (by decide)) (lenOf pdw_7 rfl) rfl (Nat.le_of_eq rfl) wN4_45 (by decide) (by decide) all0
  subst e2
  have C1 := C.ext E1
  have E1x := E.ext E1
  obtain ⟨h3, W3, K3, E3, F3, H16⟩ := H15.putF 51 (w 34 rfl) C1 E1x (Or.inr ⟨(w 30 rfl), rfl, rfl⟩) (w 15 rfl) (ty := .byte) (by decide) rfl rfl wN4_48 (by simp)
  have H17 := H16.aloadN 52 wN4_51 rfl
  have H18 := H17.aload 54 wN4_52 rfl
  have V3' := (V.ext E1).other W3 (Or.inr (Ne.symm nvc))
  obtain ⟨h4, W4, K4, E4, F4, H19⟩ := H18.putF 57 (w 33 rfl) V3' E3 (Or.inr ⟨(w 29 rfl), rfl, rfl⟩) (w 15 rfl) (ty := .array .byte) (by decide) rfl rfl wN4_54 (by simp)
  have nx : b1 ∉ [x] := ninS (Nat.ne_of_gt (Nat.lt_of_lt_of_le E.lt g1)) nin0
  refine H19.retV rfl wN4_57 (by decide) (by decide) ⟨rfl, E4, b1, k1, 1, _, _, F4, F3.other W4 (Or.inr nvc), (V1.keep K3 nx).keep K4 nx, Or.inr ⟨rfl, rfl, rfl, x1, by simp, q1⟩, ?_, by simp⟩
  intro c hc
  simp only [List.mem_cons, List.not_mem_nil, or_false] at hc
  rcases hc with rfl | rfl | rfl <;> first | exact c0 | exact c1 | exact c2
set_option maxRecDepth 65536 in
set_option maxHeartbeats 4000000 in
theorem metN31 {Z : State} {a0 : Array Value} {n0 : Nat} {h : Heap} (hw : ∀ d ∈ tables_1, d.before a0 Z = true) (hO : Old Z n0 h) {zc : Int32} (Sc : Sta Z Z.heap ST "COMPACT_STRINGS" "Z" (.int zc)) (hzc : ¬ zc = 0) (S_AD : Sta Z Z.heap "java/lang/StringUTF16" "$assertionsDisabled" "Z" (.int 1)) (S_HI : Sta Z Z.heap "java/lang/StringUTF16" "HI_BYTE_SHIFT" "I" (.int 0)) (S_LO : Sta Z Z.heap "java/lang/StringUTF16" "LO_BYTE_SHIFT" "I" (.int 8)) {x : Addr} {v0 c0 : Value} (hx0 : n0 ≤ x) (E : Exa Z h x ST) (V : Fld Z h x ST "value" "[B" v0) (C : Fld Z h x ST "coder" "B" c0) {a : Addr} {kC : ClassId} {dv : Value} {x0 x1 x2 : Int32} (K : Arv Z h a kC .char (3 : Int32) (([x0, x1, x2] : List Int32).map Value.int) dv) (c0 : C16 x0) (c1 : C16 x1) (c2 : C16 x2) (q0 : ¬ (255 : Int32) < x0) (q1 : (255 : Int32) < x1) :
    Met Z EL1 n0 ⟨"java/lang/String", "<init>", "([C)V"⟩ jdk_42_method_3_code 2 none rwN1 #[.ref x, .ref a] h [x] (fun v h' => v = none ∧ Str Z h' x ([x0, x1, x2] : List Int32)) := by
  have w : ∀ (i : Nat) {d : Jvm.Cond}, tables_1[i]? = some d → d.before a0 Z = true := fun i d q => hw d (List.mem_of_getElem? q)
  have hEL : EW Z a0 EL1 := EW.cons (w 27 rfl) (by simp) EW.nil
  refine Met.of_walk (a0 := a0) pnST hEL hO (allS ⟨E.lt, hx0⟩ all0) (L0 := #[.val (.ref x), .val (.ref a)]) (fun m => by first | (simp [entryFrame, mkF, argsToLocals, Value.category, maxLocals]; done) | rfl) rfl ?_
  intro k H0
  have H1 := H0.aloadN 1 wN1_0 rfl
  have H2 := H1.aloadN 2 wN1_1 rfl
  have H3 := H2.iconst 3 (0 : Int32) wN1_2
  have H4 := H3.aloadN 4 wN1_3 rfl
  have H5 := H4.alen 5 K wN1_4
  have H6 := H5.anull 6 wN1_5
  obtain ⟨_, h1, ⟨rfl, S1⟩, K1, H7⟩ := H6.callI 9 (z := ⟨"java/lang/String", "<init>", "([CIILjava/lang/Void;)V"⟩) rfl (w 20 rfl) (w 21 rfl) (w 23 rfl) (by decide) (a := x) (argsL := [(.ref a), (.int (0 : Int32)), (.int (3 : Int32)), .null]) (rest := []) (Paid.of_met (W := 0) (metNW31 hw H6.oldO Sc hzc S_AD S_HI S_LO hx0 E V C K c0 c1 c2 q0 q1) (w 23 rfl) (w 16 rfl) hEL (by decide) (by decide)) (lenOf pdw_8 rfl) rfl (Nat.le_of_eq rfl) wN1_6 (by decide) (by decide) (by simp)
  exact H7.retV rfl wN1_9 (by decide) (by decide) ⟨rfl, S1⟩
set_option maxRecDepth 65536 in
set_option maxHeartbeats 4000000 in
theorem metCI32 {Z : State} {a0 : Array Value} {n0 : Nat} {h : Heap} (hw : ∀ d ∈ tables_1, d.before a0 Z = true) (hO : Old Z n0 h) {a : Addr} {kC : ClassId} {dv : Value} {x0 x1 x2 : Int32} (K : Arv Z h a kC .char (3 : Int32) (([x0, x1, x2] : List Int32).map Value.int) dv) {b : Addr} {kb : ClassId} {vs : List Value} (V : Arv Z h b kb .byte (3 : Int32) vs (.int 0)) (hv : 4 ≤ vs.length) (hb : n0 ≤ b) (ab : a ≠ b) (q0 : ¬ (255 : Int32) < x0) (q1 : ¬ (255 : Int32) < x1) (q2 : (255 : Int32) < x2) :
    Met Z EL1 n0 ⟨"java/lang/StringUTF16", "compress", "([CI[BII)I"⟩ jdk_52_method_21_code 7 (some .int) rw0 #[.ref a, .int 0, .ref b, .int 0, .int (3 : Int32)] h [b] (fun v h' => v = some (.int 2)) := by
  have w : ∀ (i : Nat) {d : Jvm.Cond}, tables_1[i]? = some d → d.before a0 Z = true := fun i d q => hw d (List.mem_of_getElem? q)
  have hEL : EW Z a0 EL1 := EW.cons (w 27 rfl) (by simp) EW.nil
  refine Met.of_walk (a0 := a0) pnU hEL hO (allS ⟨V.lt, hb⟩ all0) (L0 := #[.val (.ref a), .val (.int (0 : Int32)), .val (.ref b), .val (.int (0 : Int32)), .val (.int (3 : Int32)), .unset, .unset]) (fun m => by first | (simp [entryFrame, mkF, argsToLocals, Value.category, maxLocals]; done) | rfl) rfl ?_
  intro k H0
  have H1 := H0.iconst 1 (0 : Int32) wCI_0
  have H2 := H1.istore 3 wCI_1 (L' := #[.val (.ref a), .val (.int (0 : Int32)), .val (.ref b), .val (.int (0 : Int32)), .val (.int (3 : Int32)), .val (.int (0 : Int32)), .unset]) rfl
  have H3 := H2.iload 5 wCI_3 rfl
  have H4 := H3.iload 7 wCI_5 rfl
  have H5 := H4.icmpNo 10 wCI_7 (XT.ii_ge_f (by decide))
  have H6 := H5.aloadN 11 wCI_10 rfl
  have H7 := H6.iloadN 12 wCI_11 rfl
  have H8 := H7.caload 13 K ⟨by decide, by decide⟩ (v := .int x0) rfl wCI_12
  have H9 := H8.istore 15 wCI_13 (L' := #[.val (.ref a), .val (.int (0 : Int32)), .val (.ref b), .val (.int (0 : Int32)), .val (.int (3 : Int32)), .val (.int (0 : Int32)), .val (.int x0)]) rfl
  have H10 := H9.iload 17 wCI_15 rfl
  have H11 := H10.sipush 20 (255 : Int32) wCI_17
  have H12 := H11.icmpYes 26 wCI_20 (XT.ii_le_t q0)
  have H13 := H12.aloadN 27 wCI_26 rfl
  have H14 := H13.iloadN 28 wCI_27 rfl
  have H15 := H14.iload 30 wCI_28 rfl
  have H16 := H15.i2b 31 wCI_30
  obtain ⟨h_0, K_0, V_0, H17⟩ := H16.stB 32 V 0 ⟨by decide, by decide⟩ (by decide) (by first | omega | (simp only [List.length_set]; omega)) wCI_31 (by simp)
  have Kc0 := K.keep K_0 (ninS ab nin0)
  have H18 := H17.iinc 35 (1 : Int32) wCI_32 rfl (L' := #[.val (.ref a), .val (.int ((0 : Int32) + (1 : Int32))), .val (.ref b), .val (.int (0 : Int32)), .val (.int (3 : Int32)), .val (.int (0 : Int32)), .val (.int x0)]) rfl
  have H19 := H18.iinc 38 (1 : Int32) wCI_35 rfl (L' := #[.val (.ref a), .val (.int ((0 : Int32) + (1 : Int32))), .val (.ref b), .val (.int ((0 : Int32) + (1 : Int32))), .val (.int (3 : Int32)), .val (.int (0 : Int32)), .val (.int x0)]) rfl
  have H20 := H19.iinc 41 (1 : Int32) wCI_38 rfl (L' := #[.val (.ref a), .val (.int ((0 : Int32) + (1 : Int32))), .val (.ref b), .val (.int ((0 : Int32) + (1 : Int32))), .val (.int (3 : Int32)), .val (.int ((0 : Int32) + (1 : Int32))), .val (.int x0)]) rfl
  have H21 := H20.goto 3 wCI_41
  have H22 := H21.iload 5 wCI_3 rfl
  have H23 := H22.iload 7 wCI_5 rfl
  have H24 := H23.icmpNo 10 wCI_7 (XT.ii_ge_f (by decide))
  have H25 := H24.aloadN 11 wCI_10 rfl
  have H26 := H25.iloadN 12 wCI_11 rfl
  have H27 := H26.caload 13 Kc0 ⟨by decide, by decide⟩ (v := .int x1) rfl wCI_12
  have H28 := H27.istore 15 wCI_13 (L' := #[.val (.ref a), .val (.int ((0 : Int32) + (1 : Int32))), .val (.ref b), .val (.int ((0 : Int32) + (1 : Int32))), .val (.int (3 : Int32)), .val (.int ((0 : Int32) + (1 : Int32))), .val (.int x1)]) rfl
  have H29 := H28.iload 17 wCI_15 rfl
  have H30 := H29.sipush 20 (255 : Int32) wCI_17
  have H31 := H30.icmpYes 26 wCI_20 (XT.ii_le_t q1)
  have H32 := H31.aloadN 27 wCI_26 rfl
  have H33 := H32.iloadN 28 wCI_27 rfl
  have H34 := H33.iload 30 wCI_28 rfl
  have H35 := H34.i2b 31 wCI_30
  obtain ⟨h_1, K_1, V_1, H36⟩ := H35.stB 32 V_0 1 ⟨by decide, by decide⟩ (by decide) (by first | omega | (simp only [List.length_set]; omega)) wCI_31 (by simp)
  have Kc1 := Kc0.keep K_1 (ninS ab nin0)
  have H37 := H36.iinc 35 (1 : Int32) wCI_32 rfl (L' := #[.val (.ref a), .val (.int (((0 : Int32) + (1 : Int32)) + (1 : Int32))), .val (.ref b), .val (.int ((0 : Int32) + (1 : Int32))), .val (.int (3 : Int32)), .val (.int ((0 : Int32) + (1 : Int32))), .val (.int x1)]) rfl
  have H38 := H37.iinc 38 (1 : Int32) wCI_35 rfl (L' := #[.val (.ref a), .val (.int (((0 : Int32) + (1 : Int32)) + (1 : Int32))), .val (.ref b), .val (.int (((0 : Int32) + (1 : Int32)) + (1 : Int32))), .val (.int (3 : Int32)), .val (.int ((0 : Int32) + (1 : Int32))), .val (.int x1)]) rfl
  have H39 := H38.iinc 41 (1 : Int32) wCI_38 rfl (L' := #[.val (.ref a), .val (.int (((0 : Int32) + (1 : Int32)) + (1 : Int32))), .val (.ref b), .val (.int (((0 : Int32) + (1 : Int32)) + (1 : Int32))), .val (.int (3 : Int32)), .val (.int (((0 : Int32) + (1 : Int32)) + (1 : Int32))), .val (.int x1)]) rfl
  have H40 := H39.goto 3 wCI_41
  have H41 := H40.iload 5 wCI_3 rfl
  have H42 := H41.iload 7 wCI_5 rfl
  have H43 := H42.icmpNo 10 wCI_7 (XT.ii_ge_f (by decide))
  have H44 := H43.aloadN 11 wCI_10 rfl
  have H45 := H44.iloadN 12 wCI_11 rfl
  have H46 := H45.caload 13 Kc1 ⟨by decide, by decide⟩ (v := .int x2) rfl wCI_12
  have H47 := H46.istore 15 wCI_13 (L' := #[.val (.ref a), .val (.int (((0 : Int32) + (1 : Int32)) + (1 : Int32))), .val (.ref b), .val (.int (((0 : Int32) + (1 : Int32)) + (1 : Int32))), .val (.int (3 : Int32)), .val (.int (((0 : Int32) + (1 : Int32)) + (1 : Int32))), .val (.int x2)]) rfl
  have H48 := H47.iload 17 wCI_15 rfl
  have H49 := H48.sipush 20 (255 : Int32) wCI_17
  have H50 := H49.icmpNo 23 wCI_20 (XT.ii_le_f q2)
  have H51 := H50.iload 25 wCI_23 rfl
  exact H51.retI rfl rfl (by simp) wCI_25 (by decide) (by decide) (by rfl)
set_option maxRecDepth 65536 in
set_option maxHeartbeats 4000000 in
theorem metCM32 {Z : State} {a0 : Array Value} {n0 : Nat} {h : Heap} (hw : ∀ d ∈ tables_1, d.before a0 Z = true) (hO : Old Z n0 h) (S_AD : Sta Z Z.heap "java/lang/StringUTF16" "$assertionsDisabled" "Z" (.int 1)) (S_HI : Sta Z Z.heap "java/lang/StringUTF16" "HI_BYTE_SHIFT" "I" (.int 0)) (S_LO : Sta Z Z.heap "java/lang/StringUTF16" "LO_BYTE_SHIFT" "I" (.int 8)) {a : Addr} {kC : ClassId} {dv : Value} {x0 x1 x2 : Int32} (K : Arv Z h a kC .char (3 : Int32) (([x0, x1, x2] : List Int32).map Value.int) dv) (c2 : C16 x2) (q0 : ¬ (255 : Int32) < x0) (q1 : ¬ (255 : Int32) < x1) (q2 : (255 : Int32) < x2) :
    Met Z EL1 n0 ⟨"java/lang/StringUTF16", "compress", "([CII)[B"⟩ jdk_52_method_16_code 6 (some (.array .byte)) rwCM #[.ref a, .int 0, .int (3 : Int32)] h [] (fun v h' => ∃ (b : Addr) (kb : ClassId), v = some (.ref b) ∧ h.size ≤ b ∧ Ext h h' ∧ Arv Z h' b kb .byte (6 : Int32) (StrChars.Road.wideBytes ([x0, x1, x2] : List Int32)) (.int 0)) := by
  have w : ∀ (i : Nat) {d : Jvm.Cond}, tables_1[i]? = some d → d.before a0 Z = true := fun i d q => hw d (List.mem_of_getElem? q)
  have hEL : EW Z a0 EL1 := EW.cons (w 27 rfl) (by simp) EW.nil
  refine Met.of_walk (a0 := a0) pnU hEL hO all0 (L0 := #[.val (.ref a), .val (.int (0 : Int32)), .val (.int (3 : Int32)), .unset, .unset, .unset]) (fun m => by first | (simp [entryFrame, mkF, argsToLocals, Value.category, maxLocals]; done) | rfl) rfl ?_
  intro k H0
  have H1 := H0.iloadN 1 wCM_0 rfl
  obtain ⟨b1, h1, k1, g1, E1, V1, H2⟩ := H1.newP 3 (ty := .byte) rfl (w 28 rfl) wCM_1 (by decide) (cap := 4) (by decide) (by decide) (by decide) (by decide)
  have H3 := H2.astoreN 4 wCM_3 (L' := #[.val (.ref a), .val (.int (0 : Int32)), .val (.int (3 : Int32)), .val (.ref b1), .unset, .unset]) rfl
  have H4 := H3.aloadN 5 wCM_4 rfl
  have H5 := H4.iloadN 6 wCM_5 rfl
  have H6 := H5.aloadN 7 wCM_6 rfl
  have H7 := H6.iconst 8 (0 : Int32) wCM_7
  have H8 := H7.iloadN 9 wCM_8 rfl
  obtain ⟨_, h2, rfl, K2, H9⟩ := H8.callS 12 (z := ⟨"java/lang/StringUTF16", "compress", "([CI[BII)I"⟩) (w 75 rfl) (w 76 rfl) (w 73 rfl) (w 77 rfl) (by decide) (argsL := [(.ref a), (.int (0 : Int32)), (.ref b1), (.int (0 : Int32)), (.int (3 : Int32))]) (rest := []) (Paid.of_met (W := 0) (metCI32 hw H8.oldO (K.ext E1) V1 (by simp) (H8.sf_lt (by simp)).2 (Nat.ne_of_lt (g1 ▸ K.lt)) q0 q1 q2) (w 77 rfl) (w 73 rfl) hEL (by decide) (by decide)) (lenOf pdw_5 rfl) rfl (Nat.le_of_eq rfl) wCM_9 (by decide) (by decide) (by simp)
  have X2 : Ext h h2 := Ext.keep' E1 K2 (allS (Nat.le_of_eq g1.symm) all0)
  have H10 := H9.istore 14 wCM_12 (L' := #[.val (.ref a), .val (.int (0 : Int32)), .val (.int (3 : Int32)), .val (.ref b1), .val (.int (2 : Int32)), .unset]) rfl
  have H11 := H10.iload 16 wCM_14 rfl
  have H12 := H11.iloadN 17 wCM_16 rfl
  have H13 := H12.icmpNo 20 wCM_17 (XT.ii_eq_f (by decide))
  have H14 := H13.aloadN 21 wCM_20 rfl
  have H15 := H14.iloadN 22 wCM_21 rfl
  have H16 := H15.iloadN 23 wCM_22 rfl
  obtain ⟨_, h3, ⟨b3, k3, rfl, g3, E3, V3⟩, K3, H17⟩ := H16.callS 26 (z := ⟨"java/lang/StringUTF16", "toBytes", "([CII)[B"⟩) (w 110 rfl) (w 111 rfl) (w 73 rfl) (w 112 rfl) (by decide) (argsL := [(.ref a), (.int (0 : Int32)), (.int (3 : Int32))]) (rest := []) (Paid.of_met (W := 0) (metTB3 hw H16.oldO S_AD S_HI S_LO (K.ext X2)) (w 112 rfl) (w 73 rfl) hEL (by decide) (by decide)) (lenOf pdw_4 rfl) rfl (Nat.le_of_eq rfl) wCM_23 (by decide) (by decide) all0
  have H18 := H17.astore 28 wCM_26 (L' := #[.val (.ref a), .val (.int (0 : Int32)), .val (.int (3 : Int32)), .val (.ref b1), .val (.int (2 : Int32)), .val (.ref b3)]) rfl
  have H19 := H18.aload 30 wCM_28 rfl
  have H20 := H19.iload 32 wCM_30 rfl
  obtain ⟨_, h4, ⟨rfl, e4⟩, K4, H21⟩ := H20.callS 35 (z := ⟨"java/lang/StringUTF16", "getChar", "([BI)C"⟩) (w 126 rfl) (w 127 rfl) (w 73 rfl) (w 128 rfl) (by decide) (argsL := [(.ref b3), (.int (2 : Int32))]) (rest := []) (Paid.of_met (W := 0) (metGET hw H20.oldO S_AD S_HI S_LO (i := (2 : Int32)) 2 V3 ⟨by decide, by decide⟩ (by decide) ⟨by decide, by decide⟩ (by decide) (u := StrChars.lo8 x2) (v := StrChars.hi8 x2) rfl rfl) (w 128 rfl) (w 73 rfl) hEL (by decide) (by decide)) (lenOf pdw_1 rfl) rfl (Nat.le_of_eq rfl) wCM_32 (by decide) (by decide) all0
  subst e4
  rw [StrChars.pair_says c2.1 c2.2] at H21
  have H22 := H21.sipush 38 (255 : Int32) wCM_35
  have H23 := H22.icmpYes 54 wCM_38 (XT.ii_gt_t q2)
  have H24 := H23.aload 56 wCM_54 rfl
  exact H24.retA rfl rfl rfl wCM_56 (by decide) (by decide) ⟨b3, k3, rfl, (by rw [g3]; exact X2.1), Ext.trans' X2 E3, V3⟩
set_option maxRecDepth 65536 in
set_option maxHeartbeats 4000000 in
theorem metNW32 {Z : State} {a0 : Array Value} {n0 : Nat} {h : Heap} (hw : ∀ d ∈ tables_1, d.before a0 Z = true) (hO : Old Z n0 h) {zc : Int32} (Sc : Sta Z Z.heap ST "COMPACT_STRINGS" "Z" (.int zc)) (hzc : ¬ zc = 0) (S_AD : Sta Z Z.heap "java/lang/StringUTF16" "$assertionsDisabled" "Z" (.int 1)) (S_HI : Sta Z Z.heap "java/lang/StringUTF16" "HI_BYTE_SHIFT" "I" (.int 0)) (S_LO : Sta Z Z.heap "java/lang/StringUTF16" "LO_BYTE_SHIFT" "I" (.int 8)) {x : Addr} {v0 c0 : Value} (hx0 : n0 ≤ x) (E : Exa Z h x ST) (V : Fld Z h x ST "value" "[B" v0) (C : Fld Z h x ST "coder" "B" c0) {a : Addr} {kC : ClassId} {dv : Value} {x0 x1 x2 : Int32} (K : Arv Z h a kC .char (3 : Int32) (([x0, x1, x2] : List Int32).map Value.int) dv) (c0 : C16 x0) (c1 : C16 x1) (c2 : C16 x2) (q0 : ¬ (255 : Int32) < x0) (q1 : ¬ (255 : Int32) < x1) (q2 : (255 : Int32) < x2) :
    Met Z EL1 n0 ⟨"java/lang/String", "<init>", "([CIILjava/lang/Void;)V"⟩ jdk_42_method_149_code 6 none rwN4 #[.ref x, .ref a, .int 0, .int (3 : Int32), .null] h [x] (fun v h' => v = none ∧ Str Z h' x ([x0, x1, x2] : List Int32)) := by
  have w : ∀ (i : Nat) {d : Jvm.Cond}, tables_1[i]? = some d → d.before a0 Z = true := fun i d q => hw d (List.mem_of_getElem? q)
  have hEL : EW Z a0 EL1 := EW.cons (w 27 rfl) (by simp) EW.nil
  have wlv := (w 29 rfl)
  have wlc := (w 30 rfl)
  have nvc : RoadKit.slotOf Z ST "coder" "B" ≠ RoadKit.slotOf Z ST "value" "[B" := slot_ne (Or.inr wlc) (Or.inr wlv) (by decide) (t := .byte) (by decide) (t' := .array .byte) (by decide)
  refine Met.of_walk (a0 := a0) pnST hEL hO (allS ⟨E.lt, hx0⟩ all0) (L0 := #[.val (.ref x), .val (.ref a), .val (.int (0 : Int32)), .val (.int (3 : Int32)), .val .null, .unset]) (fun m => by first | (simp [entryFrame, mkF, argsToLocals, Value.category, maxLocals]; done) | rfl) rfl ?_
  intro k H0
  have H1 := H0.aloadN 1 wN4_0 rfl
  have H2 := H1.initO 4 (w 24 rfl) (w 25 rfl) (w 26 rfl) wN4_1 (by decide) (W := 0) (by decide) (by decide)
  have H3 := H2.iloadN 5 wN4_4 rfl
  have H4 := H3.ifYes 27 wN4_5 (XT.i0_ne_t (by decide))
  have H5 := H4.getS 30 (w 49 rfl) (staOld Sc H4.oldO) wN4_27
  have H6 := H5.ifNo 33 wN4_30 (XT.i0_eq_f hzc)
  have H7 := H6.aloadN 34 wN4_33 rfl
  have H8 := H7.iloadN 35 wN4_34 rfl
  have H9 := H8.iloadN 36 wN4_35 rfl
  obtain ⟨_, h1, ⟨b1, k1, rfl, g1, E1, V1⟩, K1, H10⟩ := H9.callS 39 (z := ⟨"java/lang/StringUTF16", "compress", "([CII)[B"⟩) (w 71 rfl) (w 72 rfl) (w 73 rfl) (w 74 rfl) (by decide) (argsL := [(.ref a), (.int (0 : Int32)), (.int (3 : Int32))]) (rest := []) (Paid.of_met (W := 0) (metCM32 hw H9.oldO S_AD S_HI S_LO K c2 q0 q1 q2) (w 74 rfl) (w 73 rfl) hEL (by decide) (by decide)) (lenOf pdw_6 rfl) rfl (Nat.le_of_eq rfl) wN4_36 (by decide) (by decide) all0
  have H11 := H10.astore 41 wN4_39 (L' := #[.val (.ref x), .val (.ref a), .val (.int (0 : Int32)), .val (.int (3 : Int32)), .val .null, .val (.ref b1)]) rfl
  have H12 := H11.aloadN 42 wN4_41 rfl
  have H13 := H12.aload 44 wN4_42 rfl
  have H14 := H13.iloadN 45 wN4_44 rfl
  obtain ⟨_, h2, ⟨rfl, e2⟩, K2, H15⟩ := H14.callS 48 (z := ⟨"java/lang/StringUTF16", "coderFromArrayLen", "([BI)B"⟩) (w 78 rfl) (w 79 rfl) (w 73 rfl) (w 80 rfl) (by decide) (argsL := [(.ref b1), (.int (3 : Int32))]) (rest := [(.ref x)]) (Paid.of_met (W := 1) (metCF3 hw H14.oldO V1) (w 80 rfl) (w 73 rfl) hEL (by decide) (by decide)) (lenOf pdw_7 rfl) rfl (Nat.le_of_eq rfl) wN4_45 (by decide) (by decide) all0
  subst e2
  have C1 := C.ext E1
  have E1x := E.ext E1
  obtain ⟨h3, W3, K3, E3, F3, H16⟩ := H15.putF 51 (w 34 rfl) C1 E1x (Or.inr ⟨(w 30 rfl), rfl, rfl⟩) (w 15 rfl) (ty := .byte) (by decide) rfl rfl wN4_48 (by simp)
  have H17 := H16.aloadN 52 wN4_51 rfl
  have H18 := H17.aload 54 wN4_52 rfl
  have V3' := (V.ext E1).other W3 (Or.inr (Ne.symm nvc))
  obtain ⟨h4, W4, K4, E4, F4, H19⟩ := H18.putF 57 (w 33 rfl) V3' E3 (Or.inr ⟨(w 29 rfl), rfl, rfl⟩) (w 15 rfl) (ty := .array .byte) (by decide) rfl rfl wN4_54 (by simp)
  have nx : b1 ∉ [x] := ninS (Nat.ne_of_gt (Nat.lt_of_lt_of_le E.lt g1)) nin0
  refine H19.retV rfl wN4_57 (by decide) (by decide) ⟨rfl, E4, b1, k1, 1, _, _, F4, F3.other W4 (Or.inr nvc), (V1.keep K3 nx).keep K4 nx, Or.inr ⟨rfl, rfl, rfl, x2, by simp, q2⟩, ?_, by simp⟩
  intro c hc
  simp only [List.mem_cons, List.not_mem_nil, or_false] at hc
  rcases hc with rfl | rfl | rfl <;> first | exact c0 | exact c1 | exact c2
set_option maxRecDepth 65536 in
set_option maxHeartbeats 4000000 in
theorem metN32 {Z : State} {a0 : Array Value} {n0 : Nat} {h : Heap} (hw : ∀ d ∈ tables_1, d.before a0 Z = true) (hO : Old Z n0 h) {zc : Int32} (Sc : Sta Z Z.heap ST "COMPACT_STRINGS" "Z" (.int zc)) (hzc : ¬ zc = 0) (S_AD : Sta Z Z.heap "java/lang/StringUTF16" "$assertionsDisabled" "Z" (.int 1)) (S_HI : Sta Z Z.heap "java/lang/StringUTF16" "HI_BYTE_SHIFT" "I" (.int 0)) (S_LO : Sta Z Z.heap "java/lang/StringUTF16" "LO_BYTE_SHIFT" "I" (.int 8)) {x : Addr} {v0 c0 : Value} (hx0 : n0 ≤ x) (E : Exa Z h x ST) (V : Fld Z h x ST "value" "[B" v0) (C : Fld Z h x ST "coder" "B" c0) {a : Addr} {kC : ClassId} {dv : Value} {x0 x1 x2 : Int32} (K : Arv Z h a kC .char (3 : Int32) (([x0, x1, x2] : List Int32).map Value.int) dv) (c0 : C16 x0) (c1 : C16 x1) (c2 : C16 x2) (q0 : ¬ (255 : Int32) < x0) (q1 : ¬ (255 : Int32) < x1) (q2 : (255 : Int32) < x2) :
    Met Z EL1 n0 ⟨"java/lang/String", "<init>", "([C)V"⟩ jdk_42_method_3_code 2 none rwN1 #[.ref x, .ref a] h [x] (fun v h' => v = none ∧ Str Z h' x ([x0, x1, x2] : List Int32)) := by
  have w : ∀ (i : Nat) {d : Jvm.Cond}, tables_1[i]? = some d → d.before a0 Z = true := fun i d q => hw d (List.mem_of_getElem? q)
  have hEL : EW Z a0 EL1 := EW.cons (w 27 rfl) (by simp) EW.nil
  refine Met.of_walk (a0 := a0) pnST hEL hO (allS ⟨E.lt, hx0⟩ all0) (L0 := #[.val (.ref x), .val (.ref a)]) (fun m => by first | (simp [entryFrame, mkF, argsToLocals, Value.category, maxLocals]; done) | rfl) rfl ?_
  intro k H0
  have H1 := H0.aloadN 1 wN1_0 rfl
  have H2 := H1.aloadN 2 wN1_1 rfl
  have H3 := H2.iconst 3 (0 : Int32) wN1_2
  have H4 := H3.aloadN 4 wN1_3 rfl
  have H5 := H4.alen 5 K wN1_4
  have H6 := H5.anull 6 wN1_5
  obtain ⟨_, h1, ⟨rfl, S1⟩, K1, H7⟩ := H6.callI 9 (z := ⟨"java/lang/String", "<init>", "([CIILjava/lang/Void;)V"⟩) rfl (w 20 rfl) (w 21 rfl) (w 23 rfl) (by decide) (a := x) (argsL := [(.ref a), (.int (0 : Int32)), (.int (3 : Int32)), .null]) (rest := []) (Paid.of_met (W := 0) (metNW32 hw H6.oldO Sc hzc S_AD S_HI S_LO hx0 E V C K c0 c1 c2 q0 q1 q2) (w 23 rfl) (w 16 rfl) hEL (by decide) (by decide)) (lenOf pdw_8 rfl) rfl (Nat.le_of_eq rfl) wN1_6 (by decide) (by decide) (by simp)
  exact H7.retV rfl wN1_9 (by decide) (by decide) ⟨rfl, S1⟩
set_option maxRecDepth 65536 in
set_option maxHeartbeats 4000000 in
theorem payW3 {k : Ctx} {R : Room} {Z : State} {a0 : Array Value} {n0 : Nat} {h : Heap} (hw : ∀ d ∈ tables_1, d.before a0 Z = true) (hO : Old Z n0 h) {zc : Int32} (Sc : Sta Z Z.heap ST "COMPACT_STRINGS" "Z" (.int zc)) (hzc : ¬ zc = 0) (S_AD : Sta Z Z.heap "java/lang/StringUTF16" "$assertionsDisabled" "Z" (.int 1)) (S_HI : Sta Z Z.heap "java/lang/StringUTF16" "HI_BYTE_SHIFT" "I" (.int 0)) (S_LO : Sta Z Z.heap "java/lang/StringUTF16" "LO_BYTE_SHIFT" "I" (.int 8)) {W : Nat} {x : Addr} {v0 c0 : Value} (hx0 : n0 ≤ x) (E : Exa Z h x ST) (V : Fld Z h x ST "value" "[B" v0) (C : Fld Z h x ST "coder" "B" c0) {a : Addr} {kC : ClassId} {dv : Value} {x0 x1 x2 : Int32} (K : Arv Z h a kC .char (3 : Int32) (([x0, x1, x2] : List Int32).map Value.int) dv) (c0 : C16 x0) (c1 : C16 x1) (c2 : C16 x2) (hfr : 6 ≤ R.frames) (hlo : W + 87 ≤ R.locals) :
    Paid k R Z EL1 n0 (⟨"java/lang/String", "<init>", "([C)V"⟩ : MethodName) W #[.ref x, .ref a] h [x] 4 12 (fun v h' => v = none ∧ Str Z h' x ([x0, x1, x2] : List Int32)) := by
  have w : ∀ (i : Nat) {d : Jvm.Cond}, tables_1[i]? = some d → d.before a0 Z = true := fun i d q => hw d (List.mem_of_getElem? q)
  have hEL : EW Z a0 EL1 := EW.cons (w 27 rfl) (by simp) EW.nil
  have hws : ∀ d ∈ StrChars.Road.words, d.before a0 Z = true := fun d hd => hw d ((by decide +kernel : ∀ d ∈ StrChars.Road.words, d ∈ tables_1) d hd)
  have wi := (w 15 rfl)
  by_cases q0 : (255 : Int32) < x0
  · exact (Paid.of_met (metN30 hw hO Sc hzc S_AD S_HI S_LO hx0 E V C K c0 c1 c2 q0) (w 19 rfl) (w 16 rfl) hEL (by show 5 + 1 ≤ _; omega) (by show W + (2 + 11) + 74 ≤ _; omega)).more (by decide) (by decide)
  by_cases q1 : (255 : Int32) < x1
  · exact (Paid.of_met (metN31 hw hO Sc hzc S_AD S_HI S_LO hx0 E V C K c0 c1 c2 q0 q1) (w 19 rfl) (w 16 rfl) hEL (by show 5 + 1 ≤ _; omega) (by show W + (2 + 11) + 74 ≤ _; omega)).more (by decide) (by decide)
  by_cases q2 : (255 : Int32) < x2
  · exact (Paid.of_met (metN32 hw hO Sc hzc S_AD S_HI S_LO hx0 E V C K c0 c1 c2 q0 q1 q2) (w 19 rfl) (w 16 rfl) hEL (by show 5 + 1 ≤ _; omega) (by show W + (2 + 11) + 74 ≤ _; omega)).more (by decide) (by decide)
  refine (payV (cs := ([x0, x1, x2] : List Int32)) (n := 3) hEL hws wi hO hx0 E V C K Sc hzc rfl rfl (by decide) (by decide) ?_ (by omega) (by omega)).more (by decide) (by decide)
  intro c hc
  simp only [List.mem_cons, List.not_mem_nil, or_false] at hc
  rcases hc with rfl | rfl | rfl <;> first | exact ⟨c0.1, q0⟩ | exact ⟨c1.1, q1⟩ | exact ⟨c2.1, q2⟩
set_option maxRecDepth 65536 in
set_option maxHeartbeats 4000000 in
theorem metTB4 {Z : State} {a0 : Array Value} {n0 : Nat} {h : Heap} (hw : ∀ d ∈ tables_1, d.before a0 Z = true) (hO : Old Z n0 h) (S_AD : Sta Z Z.heap "java/lang/StringUTF16" "$assertionsDisabled" "Z" (.int 1)) (S_HI : Sta Z Z.heap "java/lang/StringUTF16" "HI_BYTE_SHIFT" "I" (.int 0)) (S_LO : Sta Z Z.heap "java/lang/StringUTF16" "LO_BYTE_SHIFT" "I" (.int 8)) {a : Addr} {kC : ClassId} {dv : Value} {x0 x1 x2 x3 : Int32} (K : Arv Z h a kC .char (4 : Int32) (([x0, x1, x2, x3] : List Int32).map Value.int) dv) :
    Met Z EL1 n0 ⟨"java/lang/StringUTF16", "toBytes", "([CII)[B"⟩ jdk_52_method_14_code 5 (some (.array .byte)) rwTB #[.ref a, .int 0, .int (4 : Int32)] h [] (fun v h' => ∃ (b : Addr) (kb : ClassId), v = some (.ref b) ∧ b = h.size ∧ Ext h h' ∧ Arv Z h' b kb .byte (8 : Int32) (StrChars.Road.wideBytes ([x0, x1, x2, x3] : List Int32)) (.int 0)) := by
  have w : ∀ (i : Nat) {d : Jvm.Cond}, tables_1[i]? = some d → d.before a0 Z = true := fun i d q => hw d (List.mem_of_getElem? q)
  have hEL : EW Z a0 EL1 := EW.cons (w 27 rfl) (by simp) EW.nil
  refine Met.of_walk (a0 := a0) pnU hEL hO all0 (L0 := #[.val (.ref a), .val (.int (0 : Int32)), .val (.int (4 : Int32)), .unset, .unset]) (fun m => by first | (simp [entryFrame, mkF, argsToLocals, Value.category, maxLocals]; done) | rfl) rfl ?_
  intro k H0
  have H1 := H0.iloadN 1 wTB_0 rfl
  obtain ⟨_, h1, ⟨b1, kb, rfl, g1, E1, V1⟩, K1, H2⟩ := H1.callSF 4 (z := ⟨"java/lang/StringUTF16", "newBytesFor", "(I)[B"⟩) (w 113 rfl) (w 114 rfl) (w 73 rfl) (w 115 rfl) (by decide) (argsL := [(.int (4 : Int32))]) (rest := []) (PaidF.of_met (W := 0) (metNBF hw H1.oldO (i := (4 : Int32)) (N := (8 : Int32)) (by decide) (by decide) (by decide) (by decide) (by decide)) (w 115 rfl) (w 73 rfl) hEL (by decide) (by decide)) (Nat.le_refl _) (lenOf pdw_3 rfl) rfl (Nat.le_of_eq rfl) wTB_1 (by decide) (by decide) all0
  rw [← g1] at H2
  have H3 := H2.astoreN 5 wTB_4 (L' := #[.val (.ref a), .val (.int (0 : Int32)), .val (.int (4 : Int32)), .val (.ref b1), .unset]) rfl
  have H4 := H3.iconst 6 (0 : Int32) wTB_5
  have H5 := H4.istore 8 wTB_6 (L' := #[.val (.ref a), .val (.int (0 : Int32)), .val (.int (4 : Int32)), .val (.ref b1), .val (.int (0 : Int32))]) rfl
  have H6 := H5.iload 10 wTB_8 rfl
  have H7 := H6.iloadN 11 wTB_10 rfl
  have H8 := H7.icmpNo 14 wTB_11 (XT.ii_ge_f (by decide))
  have H9 := H8.aloadN 15 wTB_14 rfl
  have H10 := H9.iload 17 wTB_15 rfl
  have H11 := H10.aloadN 18 wTB_17 rfl
  have H12 := H11.iloadN 19 wTB_18 rfl
  have H13 := H12.caload 20 (K.ext E1) ⟨by decide, by decide⟩ (v := .int x0) rfl wTB_19
  obtain ⟨_, hp0, ⟨rfl, Vp0⟩, Kp0, H14⟩ := H13.callS 23 (z := ⟨"java/lang/StringUTF16", "putChar", "([BII)V"⟩) (w 120 rfl) (w 121 rfl) (w 73 rfl) (w 122 rfl) (by decide) (argsL := [(.ref b1), (.int (0 : Int32)), (.int x0)]) (rest := []) (Paid.of_met (W := 0) (metPUT hw H13.oldO S_AD S_HI S_LO (i := (0 : Int32)) (c := x0) 0 V1 (H13.sf_lt (by simp)).2 ⟨by decide, by decide⟩ (by decide) ⟨by decide, by decide⟩ (by decide) (by simp)) (w 122 rfl) (w 73 rfl) hEL (by decide) (by decide)) (lenOf pdw_0 rfl) rfl (Nat.le_of_eq rfl) wTB_20 (by decide) (by decide) (by simp)
  have Xp0 : Ext h hp0 := Ext.keep' E1 Kp0 (allS (Nat.le_of_eq g1.symm) all0)
  have H15 := H14.iinc 26 (1 : Int32) wTB_23 rfl (L' := #[.val (.ref a), .val (.int ((0 : Int32) + (1 : Int32))), .val (.int (4 : Int32)), .val (.ref b1), .val (.int (0 : Int32))]) rfl
  have H16 := H15.iinc 29 (1 : Int32) wTB_26 rfl (L' := #[.val (.ref a), .val (.int ((0 : Int32) + (1 : Int32))), .val (.int (4 : Int32)), .val (.ref b1), .val (.int ((0 : Int32) + (1 : Int32)))]) rfl
  have H17 := H16.goto 8 wTB_29
  have H18 := H17.iload 10 wTB_8 rfl
  have H19 := H18.iloadN 11 wTB_10 rfl
  have H20 := H19.icmpNo 14 wTB_11 (XT.ii_ge_f (by decide))
  have H21 := H20.aloadN 15 wTB_14 rfl
  have H22 := H21.iload 17 wTB_15 rfl
  have H23 := H22.aloadN 18 wTB_17 rfl
  have H24 := H23.iloadN 19 wTB_18 rfl
  have H25 := H24.caload 20 (K.ext Xp0) ⟨by decide, by decide⟩ (v := .int x1) rfl wTB_19
  obtain ⟨_, hp1, ⟨rfl, Vp1⟩, Kp1, H26⟩ := H25.callS 23 (z := ⟨"java/lang/StringUTF16", "putChar", "([BII)V"⟩) (w 120 rfl) (w 121 rfl) (w 73 rfl) (w 122 rfl) (by decide) (argsL := [(.ref b1), (.int ((0 : Int32) + (1 : Int32))), (.int x1)]) (rest := []) (Paid.of_met (W := 0) (metPUT hw H25.oldO S_AD S_HI S_LO (i := ((0 : Int32) + (1 : Int32))) (c := x1) 1 Vp0 (H25.sf_lt (by simp)).2 ⟨by decide, by decide⟩ (by decide) ⟨by decide, by decide⟩ (by decide) (by simp)) (w 122 rfl) (w 73 rfl) hEL (by decide) (by decide)) (lenOf pdw_0 rfl) rfl (Nat.le_of_eq rfl) wTB_20 (by decide) (by decide) (by simp)
  have Xp1 : Ext h hp1 := Ext.keep' Xp0 Kp1 (allS (Nat.le_of_eq g1.symm) all0)
  have H27 := H26.iinc 26 (1 : Int32) wTB_23 rfl (L' := #[.val (.ref a), .val (.int (((0 : Int32) + (1 : Int32)) + (1 : Int32))), .val (.int (4 : Int32)), .val (.ref b1), .val (.int ((0 : Int32) + (1 : Int32)))]) rfl
  have H28 := H27.iinc 29 (1 : Int32) wTB_26 rfl (L' := #[.val (.ref a), .val (.int (((0 : Int32) + (1 : Int32)) + (1 : Int32))), .val (.int (4 : Int32)), .val (.ref b1), .val (.int (((0 : Int32) + (1 : Int32)) + (1 : Int32)))]) rfl
  have H29 := H28.goto 8 wTB_29
  have H30 := H29.iload 10 wTB_8 rfl
  have H31 := H30.iloadN 11 wTB_10 rfl
  have H32 := H31.icmpNo 14 wTB_11 (XT.ii_ge_f (by decide))
  have H33 := H32.aloadN 15 wTB_14 rfl
  have H34 := H33.iload 17 wTB_15 rfl
  have H35 := H34.aloadN 18 wTB_17 rfl
  have H36 := H35.iloadN 19 wTB_18 rfl
  have H37 := H36.caload 20 (K.ext Xp1) ⟨by decide, by decide⟩ (v := .int x2) rfl wTB_19
  obtain ⟨_, hp2, ⟨rfl, Vp2⟩, Kp2, H38⟩ := H37.callS 23 (z := ⟨"java/lang/StringUTF16", "putChar", "([BII)V"⟩) (w 120 rfl) (w 121 rfl) (w 73 rfl) (w 122 rfl) (by decide) (argsL := [(.ref b1), (.int (((0 : Int32) + (1 : Int32)) + (1 : Int32))), (.int x2)]) (rest := []) (Paid.of_met (W := 0) (metPUT hw H37.oldO S_AD S_HI S_LO (i := (((0 : Int32) + (1 : Int32)) + (1 : Int32))) (c := x2) 2 Vp1 (H37.sf_lt (by simp)).2 ⟨by decide, by decide⟩ (by decide) ⟨by decide, by decide⟩ (by decide) (by simp)) (w 122 rfl) (w 73 rfl) hEL (by decide) (by decide)) (lenOf pdw_0 rfl) rfl (Nat.le_of_eq rfl) wTB_20 (by decide) (by decide) (by simp)
  have Xp2 : Ext h hp2 := Ext.keep' Xp1 Kp2 (allS (Nat.le_of_eq g1.symm) all0)
  have H39 := H38.iinc 26 (1 : Int32) wTB_23 rfl (L' := #[.val (.ref a), .val (.int ((((0 : Int32) + (1 : Int32)) + (1 : Int32)) + (1 : Int32))), .val (.int (4 : Int32)), .val (.ref b1), .val (.int (((0 : Int32) + (1 : Int32)) + (1 : Int32)))]) rfl
  have H40 := H39.iinc 29 (1 : Int32) wTB_26 rfl (L' := #[.val (.ref a), .val (.int ((((0 : Int32) + (1 : Int32)) + (1 : Int32)) + (1 : Int32))), .val (.int (4 : Int32)), .val (.ref b1), .val (.int ((((0 : Int32) + (1 : Int32)) + (1 : Int32)) + (1 : Int32)))]) rfl
  have H41 := H40.goto 8 wTB_29
  have H42 := H41.iload 10 wTB_8 rfl
  have H43 := H42.iloadN 11 wTB_10 rfl
  have H44 := H43.icmpNo 14 wTB_11 (XT.ii_ge_f (by decide))
  have H45 := H44.aloadN 15 wTB_14 rfl
  have H46 := H45.iload 17 wTB_15 rfl
  have H47 := H46.aloadN 18 wTB_17 rfl
  have H48 := H47.iloadN 19 wTB_18 rfl
  have H49 := H48.caload 20 (K.ext Xp2) ⟨by decide, by decide⟩ (v := .int x3) rfl wTB_19
  obtain ⟨_, hp3, ⟨rfl, Vp3⟩, Kp3, H50⟩ := H49.callS 23 (z := ⟨"java/lang/StringUTF16", "putChar", "([BII)V"⟩) (w 120 rfl) (w 121 rfl) (w 73 rfl) (w 122 rfl) (by decide) (argsL := [(.ref b1), (.int ((((0 : Int32) + (1 : Int32)) + (1 : Int32)) + (1 : Int32))), (.int x3)]) (rest := []) (Paid.of_met (W := 0) (metPUT hw H49.oldO S_AD S_HI S_LO (i := ((((0 : Int32) + (1 : Int32)) + (1 : Int32)) + (1 : Int32))) (c := x3) 3 Vp2 (H49.sf_lt (by simp)).2 ⟨by decide, by decide⟩ (by decide) ⟨by decide, by decide⟩ (by decide) (by simp)) (w 122 rfl) (w 73 rfl) hEL (by decide) (by decide)) (lenOf pdw_0 rfl) rfl (Nat.le_of_eq rfl) wTB_20 (by decide) (by decide) (by simp)
  have Xp3 : Ext h hp3 := Ext.keep' Xp2 Kp3 (allS (Nat.le_of_eq g1.symm) all0)
  have H51 := H50.iinc 26 (1 : Int32) wTB_23 rfl (L' := #[.val (.ref a), .val (.int (((((0 : Int32) + (1 : Int32)) + (1 : Int32)) + (1 : Int32)) + (1 : Int32))), .val (.int (4 : Int32)), .val (.ref b1), .val (.int ((((0 : Int32) + (1 : Int32)) + (1 : Int32)) + (1 : Int32)))]) rfl
  have H52 := H51.iinc 29 (1 : Int32) wTB_26 rfl (L' := #[.val (.ref a), .val (.int (((((0 : Int32) + (1 : Int32)) + (1 : Int32)) + (1 : Int32)) + (1 : Int32))), .val (.int (4 : Int32)), .val (.ref b1), .val (.int (((((0 : Int32) + (1 : Int32)) + (1 : Int32)) + (1 : Int32)) + (1 : Int32)))]) rfl
  have H53 := H52.goto 8 wTB_29
  have H54 := H53.iload 10 wTB_8 rfl
  have H55 := H54.iloadN 11 wTB_10 rfl
  have H56 := H55.icmpYes 32 wTB_11 (XT.ii_ge_t (by decide))
  have H57 := H56.aloadN 33 wTB_32 rfl
  exact H57.retA rfl rfl rfl wTB_33 (by decide) (by decide) ⟨b1, kb, rfl, g1, Xp3, Vp3.pad (fun i => by rcases i with _ | _ | _ | _ | _ | _ | _ | _ | i <;> rfl)⟩
set_option maxRecDepth 65536 in
set_option maxHeartbeats 4000000 in
theorem metCF4 {Z : State} {a0 : Array Value} {n0 : Nat} {h : Heap} (hw : ∀ d ∈ tables_1, d.before a0 Z = true) (hO : Old Z n0 h) {b : Addr} {kb : ClassId} {vs : List Value} (V : Arv Z h b kb .byte (8 : Int32) vs (.int 0)) :
    Met Z EL1 n0 ⟨"java/lang/StringUTF16", "coderFromArrayLen", "([BI)B"⟩ jdk_52_method_15_code 2 (some .byte) rw0 #[.ref b, .int (4 : Int32)] h [] (fun v h' => v = some (.int 1) ∧ h' = h) := by
  have w : ∀ (i : Nat) {d : Jvm.Cond}, tables_1[i]? = some d → d.before a0 Z = true := fun i d q => hw d (List.mem_of_getElem? q)
  have hEL : EW Z a0 EL1 := EW.cons (w 27 rfl) (by simp) EW.nil
  refine Met.of_walk (a0 := a0) pnU hEL hO all0 (L0 := #[.val (.ref b), .val (.int (4 : Int32))]) (fun m => by first | (simp [entryFrame, mkF, argsToLocals, Value.category, maxLocals]; done) | rfl) rfl ?_
  intro k H0
  have H1 := H0.iloadN 1 wCF_0 rfl
  have H2 := H1.aloadN 2 wCF_1 rfl
  have H3 := H2.alen 3 V wCF_2
  have H4 := H3.isub 4 wCF_3
  have H5 := H4.bipush 6 (31 : Int32) wCF_4
  have H6 := H5.iushr 7 wCF_6
  have H7 := H6.i2b 8 wCF_7
  exact H7.retI rfl (XT.narrow_b _) (by simp) wCF_8 (by decide) (by decide) ⟨by decide, rfl⟩
set_option maxRecDepth 65536 in
set_option maxHeartbeats 4000000 in
theorem metCI40 {Z : State} {a0 : Array Value} {n0 : Nat} {h : Heap} (hw : ∀ d ∈ tables_1, d.before a0 Z = true) (hO : Old Z n0 h) {a : Addr} {kC : ClassId} {dv : Value} {x0 x1 x2 x3 : Int32} (K : Arv Z h a kC .char (4 : Int32) (([x0, x1, x2, x3] : List Int32).map Value.int) dv) {b : Addr} {kb : ClassId} {vs : List Value} (V : Arv Z h b kb .byte (4 : Int32) vs (.int 0)) (hv : 4 ≤ vs.length) (hb : n0 ≤ b) (ab : a ≠ b)  (q0 : (255 : Int32) < x0) :
    Met Z EL1 n0 ⟨"java/lang/StringUTF16", "compress", "([CI[BII)I"⟩ jdk_52_method_21_code 7 (some .int) rw0 #[.ref a, .int 0, .ref b, .int 0, .int (4 : Int32)] h [b] (fun v h' => v = some (.int 0)) := by
  have w : ∀ (i : Nat) {d : Jvm.Cond}, tables_1[i]? = some d → d.before a0 Z = true := fun i d q => hw d (List.mem_of_getElem? q)
  have hEL : EW Z a0 EL1 := EW.cons (w 27 rfl) (by simp) EW.nil
  refine Met.of_walk (a0 := a0) pnU hEL hO (allS ⟨V.lt, hb⟩ all0) (L0 := #[.val (.ref a), .val (.int (0 : Int32)), .val (.ref b), .val (.int (0 : Int32)), .val (.int (4 : Int32)), .unset, .unset]) (fun m => by first | (simp [entryFrame, mkF, argsToLocals, Value.category, maxLocals]; done) | rfl) rfl ?_
  intro k H0
  have H1 := H0.iconst 1 (0 : Int32) wCI_0
  have H2 := H1.istore 3 wCI_1 (L' := #[.val (.ref a), .val (.int (0 : Int32)), .val (.ref b), .val (.int (0 : Int32)), .val (.int (4 : Int32)), .val (.int (0 : Int32)), .unset]) rfl
  have H3 := H2.iload 5 wCI_3 rfl
  have H4 := H3.iload 7 wCI_5 rfl
  have H5 := H4.icmpNo 10 wCI_7 (XT.ii_ge_f (by decide))
  have H6 := H5.aloadN 11 wCI_10 rfl
  have H7 := H6.iloadN 12 wCI_11 rfl
  have H8 := H7.caload 13 K ⟨by decide, by decide⟩ (v := .int x0) rfl wCI_12
  have H9 := H8.istore 15 wCI_13 (L' := #[.val (.ref a), .val (.int (0 : Int32)), .val (.ref b), .val (.int (0 : Int32)), .val (.int (4 : Int32)), .val (.int (0 : Int32)), .val (.int x0)]) rfl
  have H10 := H9.iload 17 wCI_15 rfl
  have H11 := H10.sipush 20 (255 : Int32) wCI_17
  have H12 := H11.icmpNo 23 wCI_20 (XT.ii_le_f q0)
  have H13 := H12.iload 25 wCI_23 rfl
  exact H13.retI rfl rfl (by simp) wCI_25 (by decide) (by decide) (by rfl)
set_option maxRecDepth 65536 in
set_option maxHeartbeats 4000000 in
theorem metCM40 {Z : State} {a0 : Array Value} {n0 : Nat} {h : Heap} (hw : ∀ d ∈ tables_1, d.before a0 Z = true) (hO : Old Z n0 h) (S_AD : Sta Z Z.heap "java/lang/StringUTF16" "$assertionsDisabled" "Z" (.int 1)) (S_HI : Sta Z Z.heap "java/lang/StringUTF16" "HI_BYTE_SHIFT" "I" (.int 0)) (S_LO : Sta Z Z.heap "java/lang/StringUTF16" "LO_BYTE_SHIFT" "I" (.int 8)) {a : Addr} {kC : ClassId} {dv : Value} {x0 x1 x2 x3 : Int32} (K : Arv Z h a kC .char (4 : Int32) (([x0, x1, x2, x3] : List Int32).map Value.int) dv) (c0 : C16 x0)  (q0 : (255 : Int32) < x0) :
    Met Z EL1 n0 ⟨"java/lang/StringUTF16", "compress", "([CII)[B"⟩ jdk_52_method_16_code 6 (some (.array .byte)) rwCM #[.ref a, .int 0, .int (4 : Int32)] h [] (fun v h' => ∃ (b : Addr) (kb : ClassId), v = some (.ref b) ∧ h.size ≤ b ∧ Ext h h' ∧ Arv Z h' b kb .byte (8 : Int32) (StrChars.Road.wideBytes ([x0, x1, x2, x3] : List Int32)) (.int 0)) := by
  have w : ∀ (i : Nat) {d : Jvm.Cond}, tables_1[i]? = some d → d.before a0 Z = true := fun i d q => hw d (List.mem_of_getElem? q)
  have hEL : EW Z a0 EL1 := EW.cons (w 27 rfl) (by simp) EW.nil
  refine Met.of_walk (a0 := a0) pnU hEL hO all0 (L0 := #[.val (.ref a), .val (.int (0 : Int32)), .val (.int (4 : Int32)), .unset, .unset, .unset]) (fun m => by first | (simp [entryFrame, mkF, argsToLocals, Value.category, maxLocals]; done) | rfl) rfl ?_
  intro k H0
  have H1 := H0.iloadN 1 wCM_0 rfl
  obtain ⟨b1, h1, k1, g1, E1, V1, H2⟩ := H1.newP 3 (ty := .byte) rfl (w 28 rfl) wCM_1 (by decide) (cap := 4) (by decide) (by decide) (by decide) (by decide)
  have H3 := H2.astoreN 4 wCM_3 (L' := #[.val (.ref a), .val (.int (0 : Int32)), .val (.int (4 : Int32)), .val (.ref b1), .unset, .unset]) rfl
  have H4 := H3.aloadN 5 wCM_4 rfl
  have H5 := H4.iloadN 6 wCM_5 rfl
  have H6 := H5.aloadN 7 wCM_6 rfl
  have H7 := H6.iconst 8 (0 : Int32) wCM_7
  have H8 := H7.iloadN 9 wCM_8 rfl
  obtain ⟨_, h2, rfl, K2, H9⟩ := H8.callS 12 (z := ⟨"java/lang/StringUTF16", "compress", "([CI[BII)I"⟩) (w 75 rfl) (w 76 rfl) (w 73 rfl) (w 77 rfl) (by decide) (argsL := [(.ref a), (.int (0 : Int32)), (.ref b1), (.int (0 : Int32)), (.int (4 : Int32))]) (rest := []) (Paid.of_met (W := 0) (metCI40 hw H8.oldO (K.ext E1) V1 (by simp) (H8.sf_lt (by simp)).2 (Nat.ne_of_lt (g1 ▸ K.lt)) q0) (w 77 rfl) (w 73 rfl) hEL (by decide) (by decide)) (lenOf pdw_5 rfl) rfl (Nat.le_of_eq rfl) wCM_9 (by decide) (by decide) (by simp)
  have X2 : Ext h h2 := Ext.keep' E1 K2 (allS (Nat.le_of_eq g1.symm) all0)
  have H10 := H9.istore 14 wCM_12 (L' := #[.val (.ref a), .val (.int (0 : Int32)), .val (.int (4 : Int32)), .val (.ref b1), .val (.int (0 : Int32)), .unset]) rfl
  have H11 := H10.iload 16 wCM_14 rfl
  have H12 := H11.iloadN 17 wCM_16 rfl
  have H13 := H12.icmpNo 20 wCM_17 (XT.ii_eq_f (by decide))
  have H14 := H13.aloadN 21 wCM_20 rfl
  have H15 := H14.iloadN 22 wCM_21 rfl
  have H16 := H15.iloadN 23 wCM_22 rfl
  obtain ⟨_, h3, ⟨b3, k3, rfl, g3, E3, V3⟩, K3, H17⟩ := H16.callS 26 (z := ⟨"java/lang/StringUTF16", "toBytes", "([CII)[B"⟩) (w 110 rfl) (w 111 rfl) (w 73 rfl) (w 112 rfl) (by decide) (argsL := [(.ref a), (.int (0 : Int32)), (.int (4 : Int32))]) (rest := []) (Paid.of_met (W := 0) (metTB4 hw H16.oldO S_AD S_HI S_LO (K.ext X2)) (w 112 rfl) (w 73 rfl) hEL (by decide) (by decide)) (lenOf pdw_4 rfl) rfl (Nat.le_of_eq rfl) wCM_23 (by decide) (by decide) all0
  have H18 := H17.astore 28 wCM_26 (L' := #[.val (.ref a), .val (.int (0 : Int32)), .val (.int (4 : Int32)), .val (.ref b1), .val (.int (0 : Int32)), .val (.ref b3)]) rfl
  have H19 := H18.aload 30 wCM_28 rfl
  have H20 := H19.iload 32 wCM_30 rfl
  obtain ⟨_, h4, ⟨rfl, e4⟩, K4, H21⟩ := H20.callS 35 (z := ⟨"java/lang/StringUTF16", "getChar", "([BI)C"⟩) (w 126 rfl) (w 127 rfl) (w 73 rfl) (w 128 rfl) (by decide) (argsL := [(.ref b3), (.int (0 : Int32))]) (rest := []) (Paid.of_met (W := 0) (metGET hw H20.oldO S_AD S_HI S_LO (i := (0 : Int32)) 0 V3 ⟨by decide, by decide⟩ (by decide) ⟨by decide, by decide⟩ (by decide) (u := StrChars.lo8 x0) (v := StrChars.hi8 x0) rfl rfl) (w 128 rfl) (w 73 rfl) hEL (by decide) (by decide)) (lenOf pdw_1 rfl) rfl (Nat.le_of_eq rfl) wCM_32 (by decide) (by decide) all0
  subst e4
  rw [StrChars.pair_says c0.1 c0.2] at H21
  have H22 := H21.sipush 38 (255 : Int32) wCM_35
  have H23 := H22.icmpYes 54 wCM_38 (XT.ii_gt_t q0)
  have H24 := H23.aload 56 wCM_54 rfl
  exact H24.retA rfl rfl rfl wCM_56 (by decide) (by decide) ⟨b3, k3, rfl, (by rw [g3]; exact X2.1), Ext.trans' X2 E3, V3⟩
set_option maxRecDepth 65536 in
set_option maxHeartbeats 4000000 in
theorem metNW40 {Z : State} {a0 : Array Value} {n0 : Nat} {h : Heap} (hw : ∀ d ∈ tables_1, d.before a0 Z = true) (hO : Old Z n0 h) {zc : Int32} (Sc : Sta Z Z.heap ST "COMPACT_STRINGS" "Z" (.int zc)) (hzc : ¬ zc = 0) (S_AD : Sta Z Z.heap "java/lang/StringUTF16" "$assertionsDisabled" "Z" (.int 1)) (S_HI : Sta Z Z.heap "java/lang/StringUTF16" "HI_BYTE_SHIFT" "I" (.int 0)) (S_LO : Sta Z Z.heap "java/lang/StringUTF16" "LO_BYTE_SHIFT" "I" (.int 8)) {x : Addr} {v0 c0 : Value} (hx0 : n0 ≤ x) (E : Exa Z h x ST) (V : Fld Z h x ST "value" "[B" v0) (C : Fld Z h x ST "coder" "B" c0) {a : Addr} {kC : ClassId} {dv : Value} {x0 x1 x2 x3 : Int32} (K : Arv Z h a kC .char (4 : Int32) (([x0, x1, x2, x3] : List Int32).map Value.int) dv) (c0 : C16 x0) (c1 : C16 x1) (c2 : C16 x2) (c3 : C16 x3)  (q0 : (255 : Int32) < x0) :
    Met Z EL1 n0 ⟨"java/lang/String", "<init>", "([CIILjava/lang/Void;)V"⟩ jdk_42_method_149_code 6 none rwN4 #[.ref x, .ref a, .int 0, .int (4 : Int32), .null] h [x] (fun v h' => v = none ∧ Str Z h' x ([x0, x1, x2, x3] : List Int32)) := by
  have w : ∀ (i : Nat) {d : Jvm.Cond}, tables_1[i]? = some d → d.before a0 Z = true := fun i d q => hw d (List.mem_of_getElem? q)
  have hEL : EW Z a0 EL1 := EW.cons (w 27 rfl) (by simp) EW.nil
  have wlv := (w 29 rfl)
  have wlc := (w 30 rfl)
  have nvc : RoadKit.slotOf Z ST "coder" "B" ≠ RoadKit.slotOf Z ST "value" "[B" := slot_ne (Or.inr wlc) (Or.inr wlv) (by decide) (t := .byte) (by decide) (t' := .array .byte) (by decide)
  refine Met.of_walk (a0 := a0) pnST hEL hO (allS ⟨E.lt, hx0⟩ all0) (L0 := #[.val (.ref x), .val (.ref a), .val (.int (0 : Int32)), .val (.int (4 : Int32)), .val .null, .unset]) (fun m => by first | (simp [entryFrame, mkF, argsToLocals, Value.category, maxLocals]; done) | rfl) rfl ?_
  intro k H0
  have H1 := H0.aloadN 1 wN4_0 rfl
  have H2 := H1.initO 4 (w 24 rfl) (w 25 rfl) (w 26 rfl) wN4_1 (by decide) (W := 0) (by decide) (by decide)
  have H3 := H2.iloadN 5 wN4_4 rfl
  have H4 := H3.ifYes 27 wN4_5 (XT.i0_ne_t (by decide))
  have H5 := H4.getS 30 (w 49 rfl) (staOld Sc H4.oldO) wN4_27
  have H6 := H5.ifNo 33 wN4_30 (XT.i0_eq_f hzc)
  have H7 := H6.aloadN 34 wN4_33 rfl
  have H8 := H7.iloadN 35 wN4_34 rfl
  have H9 := H8.iloadN 36 wN4_35 rfl
  obtain ⟨_, h1, ⟨b1, k1, rfl, g1, E1, V1⟩, K1, H10⟩ := H9.callS 39 (z := ⟨"java/lang/StringUTF16", "compress", "([CII)[B"⟩) (w 71 rfl) (w 72 rfl) (w 73 rfl) (w 74 rfl) (by decide) (argsL := [(.ref a), (.int (0 : Int32)), (.int (4 : Int32))]) (rest := []) (Paid.of_met (W := 0) (metCM40 hw H9.oldO S_AD S_HI S_LO K c0 q0) (w 74 rfl) (w 73 rfl) hEL (by decide) (by decide)) (lenOf pdw_6 rfl) rfl (Nat.le_of_eq rfl) wN4_36 (by decide) (by decide) all0
  have H11 := H10.astore 41 wN4_39 (L' := #[.val (.ref x), .val (.ref a), .val (.int (0 : Int32)), .val (.int (4 : Int32)), .val .null, .val (.ref b1)]) rfl
  have H12 := H11.aloadN 42 wN4_41 rfl
  have H13 := H12.aload 44 wN4_42 rfl
  have H14 := H13.iloadN 45 wN4_44 rfl
  obtain ⟨_, h2, ⟨rfl, e2⟩, K2, H15⟩ := H14.callS 48 (z := ⟨"java/lang/StringUTF16", "coderFromArrayLen", "([BI)B"⟩) (w 78 rfl) (w 79 rfl) (w 73 rfl) (w 80 rfl) (by decide) (argsL := [(.ref b1), (.int (4 : Int32))]) (rest := [(.ref x)]) (Paid.of_met (W := 1) (metCF4 hw H14.oldO V1) (w 80 rfl) (w 73 rfl) hEL (by decide) (by decide)) (lenOf pdw_7 rfl) rfl (Nat.le_of_eq rfl) wN4_45 (by decide) (by decide) all0
  subst e2
  have C1 := C.ext E1
  have E1x := E.ext E1
  obtain ⟨h3, W3, K3, E3, F3, H16⟩ := H15.putF 51 (w 34 rfl) C1 E1x (Or.inr ⟨(w 30 rfl), rfl, rfl⟩) (w 15 rfl) (ty := .byte) (by decide) rfl rfl wN4_48 (by simp)
  have H17 := H16.aloadN 52 wN4_51 rfl
  have H18 := H17.aload 54 wN4_52 rfl
  have V3' := (V.ext E1).other W3 (Or.inr (Ne.symm nvc))
  obtain ⟨h4, W4, K4, E4, F4, H19⟩ := H18.putF 57 (w 33 rfl) V3' E3 (Or.inr ⟨(w 29 rfl), rfl, rfl⟩) (w 15 rfl) (ty := .array .byte) (by decide) rfl rfl wN4_54 (by simp)
  have nx : b1 ∉ [x] := ninS (Nat.ne_of_gt (Nat.lt_of_lt_of_le E.lt g1)) nin0
  refine H19.retV rfl wN4_57 (by decide) (by decide) ⟨rfl, E4, b1, k1, 1, _, _, F4, F3.other W4 (Or.inr nvc), (V1.keep K3 nx).keep K4 nx, Or.inr ⟨rfl, rfl, rfl, x0, by simp, q0⟩, ?_, by simp⟩
  intro c hc
  simp only [List.mem_cons, List.not_mem_nil, or_false] at hc
  rcases hc with rfl | rfl | rfl | rfl <;> first | exact c0 | exact c1 | exact c2 | exact c3
set_option maxRecDepth 65536 in
set_option maxHeartbeats 4000000 in
theorem metN40 {Z : State} {a0 : Array Value} {n0 : Nat} {h : Heap} (hw : ∀ d ∈ tables_1, d.before a0 Z = true) (hO : Old Z n0 h) {zc : Int32} (Sc : Sta Z Z.heap ST "COMPACT_STRINGS" "Z" (.int zc)) (hzc : ¬ zc = 0) (S_AD : Sta Z Z.heap "java/lang/StringUTF16" "$assertionsDisabled" "Z" (.int 1)) (S_HI : Sta Z Z.heap "java/lang/StringUTF16" "HI_BYTE_SHIFT" "I" (.int 0)) (S_LO : Sta Z Z.heap "java/lang/StringUTF16" "LO_BYTE_SHIFT" "I" (.int 8)) {x : Addr} {v0 c0 : Value} (hx0 : n0 ≤ x) (E : Exa Z h x ST) (V : Fld Z h x ST "value" "[B" v0) (C : Fld Z h x ST "coder" "B" c0) {a : Addr} {kC : ClassId} {dv : Value} {x0 x1 x2 x3 : Int32} (K : Arv Z h a kC .char (4 : Int32) (([x0, x1, x2, x3] : List Int32).map Value.int) dv) (c0 : C16 x0) (c1 : C16 x1) (c2 : C16 x2) (c3 : C16 x3)  (q0 : (255 : Int32) < x0) :
    Met Z EL1 n0 ⟨"java/lang/String", "<init>", "([C)V"⟩ jdk_42_method_3_code 2 none rwN1 #[.ref x, .ref a] h [x] (fun v h' => v = none ∧ Str Z h' x ([x0, x1, x2, x3] : List Int32)) := by
  have w : ∀ (i : Nat) {d : Jvm.Cond}, tables_1[i]? = some d → d.before a0 Z = true := fun i d q => hw d (List.mem_of_getElem? q)
  have hEL : EW Z a0 EL1 := EW.cons (w 27 rfl) (by simp) EW.nil
  refine Met.of_walk (a0 := a0) pnST hEL hO (allS ⟨E.lt, hx0⟩ all0) (L0 := #[.val (.ref x), .val (.ref a)]) (fun m => by first | (simp [entryFrame, mkF, argsToLocals, Value.category, maxLocals]; done) | rfl) rfl ?_
  intro k H0
  have H1 := H0.aloadN 1 wN1_0 rfl
  have H2 := H1.aloadN 2 wN1_1 rfl
  have H3 := H2.iconst 3 (0 : Int32) wN1_2
  have H4 := H3.aloadN 4 wN1_3 rfl
  have H5 := H4.alen 5 K wN1_4
  have H6 := H5.anull 6 wN1_5
  obtain ⟨_, h1, ⟨rfl, S1⟩, K1, H7⟩ := H6.callI 9 (z := ⟨"java/lang/String", "<init>", "([CIILjava/lang/Void;)V"⟩) rfl (w 20 rfl) (w 21 rfl) (w 23 rfl) (by decide) (a := x) (argsL := [(.ref a), (.int (0 : Int32)), (.int (4 : Int32)), .null]) (rest := []) (Paid.of_met (W := 0) (metNW40 hw H6.oldO Sc hzc S_AD S_HI S_LO hx0 E V C K c0 c1 c2 c3 q0) (w 23 rfl) (w 16 rfl) hEL (by decide) (by decide)) (lenOf pdw_8 rfl) rfl (Nat.le_of_eq rfl) wN1_6 (by decide) (by decide) (by simp)
  exact H7.retV rfl wN1_9 (by decide) (by decide) ⟨rfl, S1⟩
set_option maxRecDepth 65536 in
set_option maxHeartbeats 4000000 in
theorem metCI41 {Z : State} {a0 : Array Value} {n0 : Nat} {h : Heap} (hw : ∀ d ∈ tables_1, d.before a0 Z = true) (hO : Old Z n0 h) {a : Addr} {kC : ClassId} {dv : Value} {x0 x1 x2 x3 : Int32} (K : Arv Z h a kC .char (4 : Int32) (([x0, x1, x2, x3] : List Int32).map Value.int) dv) {b : Addr} {kb : ClassId} {vs : List Value} (V : Arv Z h b kb .byte (4 : Int32) vs (.int 0)) (hv : 4 ≤ vs.length) (hb : n0 ≤ b) (ab : a ≠ b) (q0 : ¬ (255 : Int32) < x0) (q1 : (255 : Int32) < x1) :
    Met Z EL1 n0 ⟨"java/lang/StringUTF16", "compress", "([CI[BII)I"⟩ jdk_52_method_21_code 7 (some .int) rw0 #[.ref a, .int 0, .ref b, .int 0, .int (4 : Int32)] h [b] (fun v h' => v = some (.int 1)) := by
  have w : ∀ (i : Nat) {d : Jvm.Cond}, tables_1[i]? = some d → d.before a0 Z = true := fun i d q => hw d (List.mem_of_getElem? q)
  have hEL : EW Z a0 EL1 := EW.cons (w 27 rfl) (by simp) EW.nil
  refine Met.of_walk (a0 := a0) pnU hEL hO (allS ⟨V.lt, hb⟩ all0) (L0 := #[.val (.ref a), .val (.int (0 : Int32)), .val (.ref b), .val (.int (0 : Int32)), .val (.int (4 : Int32)), .unset, .unset]) (fun m => by first | (simp [entryFrame, mkF, argsToLocals, Value.category, maxLocals]; done) | rfl) rfl ?_
  intro k H0
  have H1 := H0.iconst 1 (0 : Int32) wCI_0
  have H2 := H1.istore 3 wCI_1 (L' := #[.val (.ref a), .val (.int (0 : Int32)), .val (.ref b), .val (.int (0 : Int32)), .val (.int (4 : Int32)), .val (.int (0 : Int32)), .unset]) rfl
  have H3 := H2.iload 5 wCI_3 rfl
  have H4 := H3.iload 7 wCI_5 rfl
  have H5 := H4.icmpNo 10 wCI_7 (XT.ii_ge_f (by decide))
  have H6 := H5.aloadN 11 wCI_10 rfl
  have H7 := H6.iloadN 12 wCI_11 rfl
  have H8 := H7.caload 13 K ⟨by decide, by decide⟩ (v := .int x0) rfl wCI_12
  have H9 := H8.istore 15 wCI_13 (L' := #[.val (.ref a), .val (.int (0 : Int32)), .val (.ref b), .val (.int (0 : Int32)), .val (.int (4 : Int32)), .val (.int (0 : Int32)), .val (.int x0)]) rfl
  have H10 := H9.iload 17 wCI_15 rfl
  have H11 := H10.sipush 20 (255 : Int32) wCI_17
  have H12 := H11.icmpYes 26 wCI_20 (XT.ii_le_t q0)
  have H13 := H12.aloadN 27 wCI_26 rfl
  have H14 := H13.iloadN 28 wCI_27 rfl
  have H15 := H14.iload 30 wCI_28 rfl
  have H16 := H15.i2b 31 wCI_30
  obtain ⟨h_0, K_0, V_0, H17⟩ := H16.stB 32 V 0 ⟨by decide, by decide⟩ (by decide) (by first | omega | (simp only [List.length_set]; omega)) wCI_31 (by simp)
  have Kc0 := K.keep K_0 (ninS ab nin0)
  have H18 := H17.iinc 35 (1 : Int32) wCI_32 rfl (L' := #[.val (.ref a), .val (.int ((0 : Int32) + (1 : Int32))), .val (.ref b), .val (.int (0 : Int32)), .val (.int (4 : Int32)), .val (.int (0 : Int32)), .val (.int x0)]) rfl
  have H19 := H18.iinc 38 (1 : Int32) wCI_35 rfl (L' := #[.val (.ref a), .val (.int ((0 : Int32) + (1 : Int32))), .val (.ref b), .val (.int ((0 : Int32) + (1 : Int32))), .val (.int (4 : Int32)), .val (.int (0 : Int32)), .val (.int x0)]) rfl
  have H20 := H19.iinc 41 (1 : Int32) wCI_38 rfl (L' := #[.val (.ref a), .val (.int ((0 : Int32) + (1 : Int32))), .val (.ref b), .val (.int ((0 : Int32) + (1 : Int32))), .val (.int (4 : Int32)), .val (.int ((0 : Int32) + (1 : Int32))), .val (.int x0)]) rfl
  have H21 := H20.goto 3 wCI_41
  have H22 := H21.iload 5 wCI_3 rfl
  have H23 := H22.iload 7 wCI_5 rfl
  have H24 := H23.icmpNo 10 wCI_7 (XT.ii_ge_f (by decide))
  have H25 := H24.aloadN 11 wCI_10 rfl
  have H26 := H25.iloadN 12 wCI_11 rfl
  have H27 := H26.caload 13 Kc0 ⟨by decide, by decide⟩ (v := .int x1) rfl wCI_12
  have H28 := H27.istore 15 wCI_13 (L' := #[.val (.ref a), .val (.int ((0 : Int32) + (1 : Int32))), .val (.ref b), .val (.int ((0 : Int32) + (1 : Int32))), .val (.int (4 : Int32)), .val (.int ((0 : Int32) + (1 : Int32))), .val (.int x1)]) rfl
  have H29 := H28.iload 17 wCI_15 rfl
  have H30 := H29.sipush 20 (255 : Int32) wCI_17
  have H31 := H30.icmpNo 23 wCI_20 (XT.ii_le_f q1)
  have H32 := H31.iload 25 wCI_23 rfl
  exact H32.retI rfl rfl (by simp) wCI_25 (by decide) (by decide) (by rfl)
set_option maxRecDepth 65536 in
set_option maxHeartbeats 4000000 in
theorem metCM41 {Z : State} {a0 : Array Value} {n0 : Nat} {h : Heap} (hw : ∀ d ∈ tables_1, d.before a0 Z = true) (hO : Old Z n0 h) (S_AD : Sta Z Z.heap "java/lang/StringUTF16" "$assertionsDisabled" "Z" (.int 1)) (S_HI : Sta Z Z.heap "java/lang/StringUTF16" "HI_BYTE_SHIFT" "I" (.int 0)) (S_LO : Sta Z Z.heap "java/lang/StringUTF16" "LO_BYTE_SHIFT" "I" (.int 8)) {a : Addr} {kC : ClassId} {dv : Value} {x0 x1 x2 x3 : Int32} (K : Arv Z h a kC .char (4 : Int32) (([x0, x1, x2, x3] : List Int32).map Value.int) dv) (c1 : C16 x1) (q0 : ¬ (255 : Int32) < x0) (q1 : (255 : Int32) < x1) :
    Met Z EL1 n0 ⟨"java/lang/StringUTF16", "compress", "([CII)[B"⟩ jdk_52_method_16_code 6 (some (.array .byte)) rwCM #[.ref a, .int 0, .int (4 : Int32)] h [] (fun v h' => ∃ (b : Addr) (kb : ClassId), v = some (.ref b) ∧ h.size ≤ b ∧ Ext h h' ∧ Arv Z h' b kb .byte (8 : Int32) (StrChars.Road.wideBytes ([x0, x1, x2, x3] : List Int32)) (.int 0)) := by
  have w : ∀ (i : Nat) {d : Jvm.Cond}, tables_1[i]? = some d → d.before a0 Z = true := fun i d q => hw d (List.mem_of_getElem? q)
  have hEL : EW Z a0 EL1 := EW.cons (w 27 rfl) (by simp) EW.nil
  refine Met.of_walk (a0 := a0) pnU hEL hO all0 (L0 := #[.val (.ref a), .val (.int (0 : Int32)), .val (.int (4 : Int32)), .unset, .unset, .unset]) (fun m => by first | (simp [entryFrame, mkF, argsToLocals, Value.category, maxLocals]; done) | rfl) rfl ?_
  intro k H0
  have H1 := H0.iloadN 1 wCM_0 rfl
  obtain ⟨b1, h1, k1, g1, E1, V1, H2⟩ := H1.newP 3 (ty := .byte) rfl (w 28 rfl) wCM_1 (by decide) (cap := 4) (by decide) (by decide) (by decide) (by decide)
  have H3 := H2.astoreN 4 wCM_3 (L' := #[.val (.ref a), .val (.int (0 : Int32)), .val (.int (4 : Int32)), .val (.ref b1), .unset, .unset]) rfl
  have H4 := H3.aloadN 5 wCM_4 rfl
  have H5 := H4.iloadN 6 wCM_5 rfl
  have H6 := H5.aloadN 7 wCM_6 rfl
  have H7 := H6.iconst 8 (0 : Int32) wCM_7
  have H8 := H7.iloadN 9 wCM_8 rfl
  obtain ⟨_, h2, rfl, K2, H9⟩ := H8.callS 12 (z := ⟨"java/lang/StringUTF16", "compress", "([CI[BII)I"⟩) (w 75 rfl) (w 76 rfl) (w 73 rfl) (w 77 rfl) (by decide) (argsL := [(.ref a), (.int (0 : Int32)), (.ref b1), (.int (0 : Int32)), (.int (4 : Int32))]) (rest := []) (Paid.of_met (W := 0) (metCI41 hw H8.oldO (K.ext E1) V1 (by simp) (H8.sf_lt (by simp)).2 (Nat.ne_of_lt (g1 ▸ K.lt)) q0 q1) (w 77 rfl) (w 73 rfl) hEL (by decide) (by decide)) (lenOf pdw_5 rfl) rfl (Nat.le_of_eq rfl) wCM_9 (by decide) (by decide) (by simp)
  have X2 : Ext h h2 := Ext.keep' E1 K2 (allS (Nat.le_of_eq g1.symm) all0)
  have H10 := H9.istore 14 wCM_12 (L' := #[.val (.ref a), .val (.int (0 : Int32)), .val (.int (4 : Int32)), .val (.ref b1), .val (.int (1 : Int32)), .unset]) rfl
  have H11 := H10.iload 16 wCM_14 rfl
  have H12 := H11.iloadN 17 wCM_16 rfl
  have H13 := H12.icmpNo 20 wCM_17 (XT.ii_eq_f (by decide))
  have H14 := H13.aloadN 21 wCM_20 rfl
  have H15 := H14.iloadN 22 wCM_21 rfl
  have H16 := H15.iloadN 23 wCM_22 rfl
  obtain ⟨_, h3, ⟨b3, k3, rfl, g3, E3, V3⟩, K3, H17⟩ := H16.callS 26 (z := ⟨"java/lang/StringUTF16", "toBytes", "([CII)[B"⟩) (w 110 rfl) (w 111 rfl) (w 73 rfl) (w 112 rfl) (by decide) (argsL := [(.ref a), (.int (0 : Int32)), (.int (4 : Int32))]) (rest := []) (Paid.of_met (W := 0) (metTB4 hw H16.oldO S_AD S_HI S_LO (K.ext X2)) (w 112 rfl) (w 73 rfl) hEL (by decide) (by decide)) (lenOf pdw_4 rfl) rfl (Nat.le_of_eq rfl) wCM_23 (by decide) (by decide) all0
  have H18 := H17.astore 28 wCM_26 (L' := #[.val (.ref a), .val (.int (0 : Int32)), .val (.int (4 : Int32)), .val (.ref b1), .val (.int (1 : Int32)), .val (.ref b3)]) rfl
  have H19 := H18.aload 30 wCM_28 rfl
  have H20 := H19.iload 32 wCM_30 rfl
  obtain ⟨_, h4, ⟨rfl, e4⟩, K4, H21⟩ := H20.callS 35 (z := ⟨"java/lang/StringUTF16", "getChar", "([BI)C"⟩) (w 126 rfl) (w 127 rfl) (w 73 rfl) (w 128 rfl) (by decide) (argsL := [(.ref b3), (.int (1 : Int32))]) (rest := []) (Paid.of_met (W := 0) (metGET hw H20.oldO S_AD S_HI S_LO (i := (1 : Int32)) 1 V3 ⟨by decide, by decide⟩ (by decide) ⟨by decide, by decide⟩ (by decide) (u := StrChars.lo8 x1) (v := StrChars.hi8 x1) rfl rfl) (w 128 rfl) (w 73 rfl) hEL (by decide) (by decide)) (lenOf pdw_1 rfl) rfl (Nat.le_of_eq rfl) wCM_32 (by decide) (by decide) all0
  subst e4
  rw [StrChars.pair_says c1.1 c1.2] at H21
  have H22 := H21.sipush 38 (255 : Int32) wCM_35
  have H23 := H22.icmpYes 54 wCM_38 (XT.ii_gt_t q1)
  have H24 := H23.aload 56 wCM_54 rfl
  exact H24.retA rfl rfl rfl wCM_56 (by decide) (by decide) ⟨b3, k3, rfl, (by rw [g3]; exact X2.1), Ext.trans' X2 E3, V3⟩
set_option maxRecDepth 65536 in
set_option maxHeartbeats 4000000 in
theorem metNW41 {Z : State} {a0 : Array Value} {n0 : Nat} {h : Heap} (hw : ∀ d ∈ tables_1, d.before a0 Z = true) (hO : Old Z n0 h) {zc : Int32} (Sc : Sta Z Z.heap ST "COMPACT_STRINGS" "Z" (.int zc)) (hzc : ¬ zc = 0) (S_AD : Sta Z Z.heap "java/lang/StringUTF16" "$assertionsDisabled" "Z" (.int 1)) (S_HI : Sta Z Z.heap "java/lang/StringUTF16" "HI_BYTE_SHIFT" "I" (.int 0)) (S_LO : Sta Z Z.heap "java/lang/StringUTF16" "LO_BYTE_SHIFT" "I" (.int 8)) {x : Addr} {v0 c0 : Value} (hx0 : n0 ≤ x) (E : Exa Z h x ST) (V : Fld Z h x ST "value" "[B" v0) (C : Fld Z h x ST "coder" "B" c0) {a : Addr} {kC : ClassId} {dv : Value} {x0 x1 x2 x3 : Int32} (K : Arv Z h a kC .char (4 : Int32) (([x0, x1, x2, x3] : List Int32).map Value.int) dv) (c0 : C16 x0) (c1 : C16 x1) (c2 : C16 x2) (c3 : C16 x3) (q0 : ¬ (255 : Int32) < x0) (q1 : (255 : Int32) < x1) :
    Met Z EL1 n0 ⟨"java/lang/String", "<init>", "([CIILjava/lang/Void;)V"⟩ jdk_42_method_149_code 6 none rwN4 #[.ref x, .ref a, .int 0, .int (4 : Int32), .null] h [x] (fun v h' => v = none ∧ Str Z h' x ([x0, x1, x2, x3] : List Int32)) := by
  have w : ∀ (i : Nat) {d : Jvm.Cond}, tables_1[i]? = some d → d.before a0 Z = true := fun i d q => hw d (List.mem_of_getElem? q)
  have hEL : EW Z a0 EL1 := EW.cons (w 27 rfl) (by simp) EW.nil
  have wlv := (w 29 rfl)
  have wlc := (w 30 rfl)
  have nvc : RoadKit.slotOf Z ST "coder" "B" ≠ RoadKit.slotOf Z ST "value" "[B" := slot_ne (Or.inr wlc) (Or.inr wlv) (by decide) (t := .byte) (by decide) (t' := .array .byte) (by decide)
  refine Met.of_walk (a0 := a0) pnST hEL hO (allS ⟨E.lt, hx0⟩ all0) (L0 := #[.val (.ref x), .val (.ref a), .val (.int (0 : Int32)), .val (.int (4 : Int32)), .val .null, .unset]) (fun m => by first | (simp [entryFrame, mkF, argsToLocals, Value.category, maxLocals]; done) | rfl) rfl ?_
  intro k H0
  have H1 := H0.aloadN 1 wN4_0 rfl
  have H2 := H1.initO 4 (w 24 rfl) (w 25 rfl) (w 26 rfl) wN4_1 (by decide) (W := 0) (by decide) (by decide)
  have H3 := H2.iloadN 5 wN4_4 rfl
  have H4 := H3.ifYes 27 wN4_5 (XT.i0_ne_t (by decide))
  have H5 := H4.getS 30 (w 49 rfl) (staOld Sc H4.oldO) wN4_27
  have H6 := H5.ifNo 33 wN4_30 (XT.i0_eq_f hzc)
  have H7 := H6.aloadN 34 wN4_33 rfl
  have H8 := H7.iloadN 35 wN4_34 rfl
  have H9 := H8.iloadN 36 wN4_35 rfl
  obtain ⟨_, h1, ⟨b1, k1, rfl, g1, E1, V1⟩, K1, H10⟩ := H9.callS 39 (z := ⟨"java/lang/StringUTF16", "compress", "([CII)[B"⟩) (w 71 rfl) (w 72 rfl) (w 73 rfl) (w 74 rfl) (by decide) (argsL := [(.ref a), (.int (0 : Int32)), (.int (4 : Int32))]) (rest := []) (Paid.of_met (W := 0) (metCM41 hw H9.oldO S_AD S_HI S_LO K c1 q0 q1) (w 74 rfl) (w 73 rfl) hEL (by decide) (by decide)) (lenOf pdw_6 rfl) rfl (Nat.le_of_eq rfl) wN4_36 (by decide) (by decide) all0
  have H11 := H10.astore 41 wN4_39 (L' := #[.val (.ref x), .val (.ref a), .val (.int (0 : Int32)), .val (.int (4 : Int32)), .val .null, .val (.ref b1)]) rfl
  have H12 := H11.aloadN 42 wN4_41 rfl
  have H13 := H12.aload 44 wN4_42 rfl
  have H14 := H13.iloadN 45 wN4_44 rfl
  obtain ⟨_, h2, ⟨rfl, e2⟩, K2, H15⟩ := H14.callS 48 (z := ⟨"java/lang/StringUTF16", "coderFromArrayLen", "([BI)B"⟩) (w 78 rfl) (w 79 rfl) (w 73 rfl) (w 80 rfl) (by decide) (argsL := [(.ref b1), (.int (4 : Int32))]) (rest := [(.ref x)]) (Paid.of_met (W := 1) (metCF4 hw H14.oldO V1) (w 80 rfl) (w 73 rfl) hEL (by decide) (by decide)) (lenOf pdw_7 rfl) rfl (Nat.le_of_eq rfl) wN4_45 (by decide) (by decide) all0
  subst e2
  have C1 := C.ext E1
  have E1x := E.ext E1
  obtain ⟨h3, W3, K3, E3, F3, H16⟩ := H15.putF 51 (w 34 rfl) C1 E1x (Or.inr ⟨(w 30 rfl), rfl, rfl⟩) (w 15 rfl) (ty := .byte) (by decide) rfl rfl wN4_48 (by simp)
  have H17 := H16.aloadN 52 wN4_51 rfl
  have H18 := H17.aload 54 wN4_52 rfl
  have V3' := (V.ext E1).other W3 (Or.inr (Ne.symm nvc))
  obtain ⟨h4, W4, K4, E4, F4, H19⟩ := H18.putF 57 (w 33 rfl) V3' E3 (Or.inr ⟨(w 29 rfl), rfl, rfl⟩) (w 15 rfl) (ty := .array .byte) (by decide) rfl rfl wN4_54 (by simp)
  have nx : b1 ∉ [x] := ninS (Nat.ne_of_gt (Nat.lt_of_lt_of_le E.lt g1)) nin0
  refine H19.retV rfl wN4_57 (by decide) (by decide) ⟨rfl, E4, b1, k1, 1, _, _, F4, F3.other W4 (Or.inr nvc), (V1.keep K3 nx).keep K4 nx, Or.inr ⟨rfl, rfl, rfl, x1, by simp, q1⟩, ?_, by simp⟩
  intro c hc
  simp only [List.mem_cons, List.not_mem_nil, or_false] at hc
  rcases hc with rfl | rfl | rfl | rfl <;> first | exact c0 | exact c1 | exact c2 | exact c3
set_option maxRecDepth 65536 in
set_option maxHeartbeats 4000000 in
theorem metN41 {Z : State} {a0 : Array Value} {n0 : Nat} {h : Heap} (hw : ∀ d ∈ tables_1, d.before a0 Z = true) (hO : Old Z n0 h) {zc : Int32} (Sc : Sta Z Z.heap ST "COMPACT_STRINGS" "Z" (.int zc)) (hzc : ¬ zc = 0) (S_AD : Sta Z Z.heap "java/lang/StringUTF16" "$assertionsDisabled" "Z" (.int 1)) (S_HI : Sta Z Z.heap "java/lang/StringUTF16" "HI_BYTE_SHIFT" "I" (.int 0)) (S_LO : Sta Z Z.heap "java/lang/StringUTF16" "LO_BYTE_SHIFT" "I" (.int 8)) {x : Addr} {v0 c0 : Value} (hx0 : n0 ≤ x) (E : Exa Z h x ST) (V : Fld Z h x ST "value" "[B" v0) (C : Fld Z h x ST "coder" "B" c0) {a : Addr} {kC : ClassId} {dv : Value} {x0 x1 x2 x3 : Int32} (K : Arv Z h a kC .char (4 : Int32) (([x0, x1, x2, x3] : List Int32).map Value.int) dv) (c0 : C16 x0) (c1 : C16 x1) (c2 : C16 x2) (c3 : C16 x3) (q0 : ¬ (255 : Int32) < x0) (q1 : (255 : Int32) < x1) :
    Met Z EL1 n0 ⟨"java/lang/String", "<init>", "([C)V"⟩ jdk_42_method_3_code 2 none rwN1 #[.ref x, .ref a] h [x] (fun v h' => v = none ∧ Str Z h' x ([x0, x1, x2, x3] : List Int32)) := by
  have w : ∀ (i : Nat) {d : Jvm.Cond}, tables_1[i]? = some d → d.before a0 Z = true := fun i d q => hw d (List.mem_of_getElem? q)
  have hEL : EW Z a0 EL1 := EW.cons (w 27 rfl) (by simp) EW.nil
  refine Met.of_walk (a0 := a0) pnST hEL hO (allS ⟨E.lt, hx0⟩ all0) (L0 := #[.val (.ref x), .val (.ref a)]) (fun m => by first | (simp [entryFrame, mkF, argsToLocals, Value.category, maxLocals]; done) | rfl) rfl ?_
  intro k H0
  have H1 := H0.aloadN 1 wN1_0 rfl
  have H2 := H1.aloadN 2 wN1_1 rfl
  have H3 := H2.iconst 3 (0 : Int32) wN1_2
  have H4 := H3.aloadN 4 wN1_3 rfl
  have H5 := H4.alen 5 K wN1_4
  have H6 := H5.anull 6 wN1_5
  obtain ⟨_, h1, ⟨rfl, S1⟩, K1, H7⟩ := H6.callI 9 (z := ⟨"java/lang/String", "<init>", "([CIILjava/lang/Void;)V"⟩) rfl (w 20 rfl) (w 21 rfl) (w 23 rfl) (by decide) (a := x) (argsL := [(.ref a), (.int (0 : Int32)), (.int (4 : Int32)), .null]) (rest := []) (Paid.of_met (W := 0) (metNW41 hw H6.oldO Sc hzc S_AD S_HI S_LO hx0 E V C K c0 c1 c2 c3 q0 q1) (w 23 rfl) (w 16 rfl) hEL (by decide) (by decide)) (lenOf pdw_8 rfl) rfl (Nat.le_of_eq rfl) wN1_6 (by decide) (by decide) (by simp)
  exact H7.retV rfl wN1_9 (by decide) (by decide) ⟨rfl, S1⟩
set_option maxRecDepth 65536 in
set_option maxHeartbeats 4000000 in
theorem metCI42 {Z : State} {a0 : Array Value} {n0 : Nat} {h : Heap} (hw : ∀ d ∈ tables_1, d.before a0 Z = true) (hO : Old Z n0 h) {a : Addr} {kC : ClassId} {dv : Value} {x0 x1 x2 x3 : Int32} (K : Arv Z h a kC .char (4 : Int32) (([x0, x1, x2, x3] : List Int32).map Value.int) dv) {b : Addr} {kb : ClassId} {vs : List Value} (V : Arv Z h b kb .byte (4 : Int32) vs (.int 0)) (hv : 4 ≤ vs.length) (hb : n0 ≤ b) (ab : a ≠ b) (q0 : ¬ (255 : Int32) < x0) (q1 : ¬ (255 : Int32) < x1) (q2 : (255 : Int32) < x2) :
    Met Z EL1 n0 ⟨"java/lang/StringUTF16", "compress", "([CI[BII)I"⟩ jdk_52_method_21_code 7 (some .int) rw0 #[.ref a, .int 0, .ref b, .int 0, .int (4 : Int32)] h [b] (fun v h' => v = some (.int 2)) := by
  have w : ∀ (i : Nat) {d : Jvm.Cond}, tables_1[i]? = some d → d.before a0 Z = true := fun i d q => hw d (List.mem_of_getElem? q)
  have hEL : EW Z a0 EL1 := EW.cons (w 27 rfl) (by simp) EW.nil
  refine Met.of_walk (a0 := a0) pnU hEL hO (allS ⟨V.lt, hb⟩ all0) (L0 := #[.val (.ref a), .val (.int (0 : Int32)), .val (.ref b), .val (.int (0 : Int32)), .val (.int (4 : Int32)), .unset, .unset]) (fun m => by first | (simp [entryFrame, mkF, argsToLocals, Value.category, maxLocals]; done) | rfl) rfl ?_
  intro k H0
  have H1 := H0.iconst 1 (0 : Int32) wCI_0
  have H2 := H1.istore 3 wCI_1 (L' := #[.val (.ref a), .val (.int (0 : Int32)), .val (.ref b), .val (.int (0 : Int32)), .val (.int (4 : Int32)), .val (.int (0 : Int32)), .unset]) rfl
  have H3 := H2.iload 5 wCI_3 rfl
  have H4 := H3.iload 7 wCI_5 rfl
  have H5 := H4.icmpNo 10 wCI_7 (XT.ii_ge_f (by decide))
  have H6 := H5.aloadN 11 wCI_10 rfl
  have H7 := H6.iloadN 12 wCI_11 rfl
  have H8 := H7.caload 13 K ⟨by decide, by decide⟩ (v := .int x0) rfl wCI_12
  have H9 := H8.istore 15 wCI_13 (L' := #[.val (.ref a), .val (.int (0 : Int32)), .val (.ref b), .val (.int (0 : Int32)), .val (.int (4 : Int32)), .val (.int (0 : Int32)), .val (.int x0)]) rfl
  have H10 := H9.iload 17 wCI_15 rfl
  have H11 := H10.sipush 20 (255 : Int32) wCI_17
  have H12 := H11.icmpYes 26 wCI_20 (XT.ii_le_t q0)
  have H13 := H12.aloadN 27 wCI_26 rfl
  have H14 := H13.iloadN 28 wCI_27 rfl
  have H15 := H14.iload 30 wCI_28 rfl
  have H16 := H15.i2b 31 wCI_30
  obtain ⟨h_0, K_0, V_0, H17⟩ := H16.stB 32 V 0 ⟨by decide, by decide⟩ (by decide) (by first | omega | (simp only [List.length_set]; omega)) wCI_31 (by simp)
  have Kc0 := K.keep K_0 (ninS ab nin0)
  have H18 := H17.iinc 35 (1 : Int32) wCI_32 rfl (L' := #[.val (.ref a), .val (.int ((0 : Int32) + (1 : Int32))), .val (.ref b), .val (.int (0 : Int32)), .val (.int (4 : Int32)), .val (.int (0 : Int32)), .val (.int x0)]) rfl
  have H19 := H18.iinc 38 (1 : Int32) wCI_35 rfl (L' := #[.val (.ref a), .val (.int ((0 : Int32) + (1 : Int32))), .val (.ref b), .val (.int ((0 : Int32) + (1 : Int32))), .val (.int (4 : Int32)), .val (.int (0 : Int32)), .val (.int x0)]) rfl
  have H20 := H19.iinc 41 (1 : Int32) wCI_38 rfl (L' := #[.val (.ref a), .val (.int ((0 : Int32) + (1 : Int32))), .val (.ref b), .val (.int ((0 : Int32) + (1 : Int32))), .val (.int (4 : Int32)), .val (.int ((0 : Int32) + (1 : Int32))), .val (.int x0)]) rfl
  have H21 := H20.goto 3 wCI_41
  have H22 := H21.iload 5 wCI_3 rfl
  have H23 := H22.iload 7 wCI_5 rfl
  have H24 := H23.icmpNo 10 wCI_7 (XT.ii_ge_f (by decide))
  have H25 := H24.aloadN 11 wCI_10 rfl
  have H26 := H25.iloadN 12 wCI_11 rfl
  have H27 := H26.caload 13 Kc0 ⟨by decide, by decide⟩ (v := .int x1) rfl wCI_12
  have H28 := H27.istore 15 wCI_13 (L' := #[.val (.ref a), .val (.int ((0 : Int32) + (1 : Int32))), .val (.ref b), .val (.int ((0 : Int32) + (1 : Int32))), .val (.int (4 : Int32)), .val (.int ((0 : Int32) + (1 : Int32))), .val (.int x1)]) rfl
  have H29 := H28.iload 17 wCI_15 rfl
  have H30 := H29.sipush 20 (255 : Int32) wCI_17
  have H31 := H30.icmpYes 26 wCI_20 (XT.ii_le_t q1)
  have H32 := H31.aloadN 27 wCI_26 rfl
  have H33 := H32.iloadN 28 wCI_27 rfl
  have H34 := H33.iload 30 wCI_28 rfl
  have H35 := H34.i2b 31 wCI_30
  obtain ⟨h_1, K_1, V_1, H36⟩ := H35.stB 32 V_0 1 ⟨by decide, by decide⟩ (by decide) (by first | omega | (simp only [List.length_set]; omega)) wCI_31 (by simp)
  have Kc1 := Kc0.keep K_1 (ninS ab nin0)
  have H37 := H36.iinc 35 (1 : Int32) wCI_32 rfl (L' := #[.val (.ref a), .val (.int (((0 : Int32) + (1 : Int32)) + (1 : Int32))), .val (.ref b), .val (.int ((0 : Int32) + (1 : Int32))), .val (.int (4 : Int32)), .val (.int ((0 : Int32) + (1 : Int32))), .val (.int x1)]) rfl
  have H38 := H37.iinc 38 (1 : Int32) wCI_35 rfl (L' := #[.val (.ref a), .val (.int (((0 : Int32) + (1 : Int32)) + (1 : Int32))), .val (.ref b), .val (.int (((0 : Int32) + (1 : Int32)) + (1 : Int32))), .val (.int (4 : Int32)), .val (.int ((0 : Int32) + (1 : Int32))), .val (.int x1)]) rfl
  have H39 := H38.iinc 41 (1 : Int32) wCI_38 rfl (L' := #[.val (.ref a), .val (.int (((0 : Int32) + (1 : Int32)) + (1 : Int32))), .val (.ref b), .val (.int (((0 : Int32) + (1 : Int32)) + (1 : Int32))), .val (.int (4 : Int32)), .val (.int (((0 : Int32) + (1 : Int32)) + (1 : Int32))), .val (.int x1)]) rfl
  have H40 := H39.goto 3 wCI_41
  have H41 := H40.iload 5 wCI_3 rfl
  have H42 := H41.iload 7 wCI_5 rfl
  have H43 := H42.icmpNo 10 wCI_7 (XT.ii_ge_f (by decide))
  have H44 := H43.aloadN 11 wCI_10 rfl
  have H45 := H44.iloadN 12 wCI_11 rfl
  have H46 := H45.caload 13 Kc1 ⟨by decide, by decide⟩ (v := .int x2) rfl wCI_12
  have H47 := H46.istore 15 wCI_13 (L' := #[.val (.ref a), .val (.int (((0 : Int32) + (1 : Int32)) + (1 : Int32))), .val (.ref b), .val (.int (((0 : Int32) + (1 : Int32)) + (1 : Int32))), .val (.int (4 : Int32)), .val (.int (((0 : Int32) + (1 : Int32)) + (1 : Int32))), .val (.int x2)]) rfl
  have H48 := H47.iload 17 wCI_15 rfl
  have H49 := H48.sipush 20 (255 : Int32) wCI_17
  have H50 := H49.icmpNo 23 wCI_20 (XT.ii_le_f q2)
  have H51 := H50.iload 25 wCI_23 rfl
  exact H51.retI rfl rfl (by simp) wCI_25 (by decide) (by decide) (by rfl)
set_option maxRecDepth 65536 in
set_option maxHeartbeats 4000000 in
theorem metCM42 {Z : State} {a0 : Array Value} {n0 : Nat} {h : Heap} (hw : ∀ d ∈ tables_1, d.before a0 Z = true) (hO : Old Z n0 h) (S_AD : Sta Z Z.heap "java/lang/StringUTF16" "$assertionsDisabled" "Z" (.int 1)) (S_HI : Sta Z Z.heap "java/lang/StringUTF16" "HI_BYTE_SHIFT" "I" (.int 0)) (S_LO : Sta Z Z.heap "java/lang/StringUTF16" "LO_BYTE_SHIFT" "I" (.int 8)) {a : Addr} {kC : ClassId} {dv : Value} {x0 x1 x2 x3 : Int32} (K : Arv Z h a kC .char (4 : Int32) (([x0, x1, x2, x3] : List Int32).map Value.int) dv) (c2 : C16 x2) (q0 : ¬ (255 : Int32) < x0) (q1 : ¬ (255 : Int32) < x1) (q2 : (255 : Int32) < x2) :
    Met Z EL1 n0 ⟨"java/lang/StringUTF16", "compress", "([CII)[B"⟩ jdk_52_method_16_code 6 (some (.array .byte)) rwCM #[.ref a, .int 0, .int (4 : Int32)] h [] (fun v h' => ∃ (b : Addr) (kb : ClassId), v = some (.ref b) ∧ h.size ≤ b ∧ Ext h h' ∧ Arv Z h' b kb .byte (8 : Int32) (StrChars.Road.wideBytes ([x0, x1, x2, x3] : List Int32)) (.int 0)) := by
  have w : ∀ (i : Nat) {d : Jvm.Cond}, tables_1[i]? = some d → d.before a0 Z = true := fun i d q => hw d (List.mem_of_getElem? q)
  have hEL : EW Z a0 EL1 := EW.cons (w 27 rfl) (by simp) EW.nil
  refine Met.of_walk (a0 := a0) pnU hEL hO all0 (L0 := #[.val (.ref a), .val (.int (0 : Int32)), .val (.int (4 : Int32)), .unset, .unset, .unset]) (fun m => by first | (simp [entryFrame, mkF, argsToLocals, Value.category, maxLocals]; done) | rfl) rfl ?_
  intro k H0
  have H1 := H0.iloadN 1 wCM_0 rfl
  obtain ⟨b1, h1, k1, g1, E1, V1, H2⟩ := H1.newP 3 (ty := .byte) rfl (w 28 rfl) wCM_1 (by decide) (cap := 4) (by decide) (by decide) (by decide) (by decide)
  have H3 := H2.astoreN 4 wCM_3 (L' := #[.val (.ref a), .val (.int (0 : Int32)), .val (.int (4 : Int32)), .val (.ref b1), .unset, .unset]) rfl
  have H4 := H3.aloadN 5 wCM_4 rfl
  have H5 := H4.iloadN 6 wCM_5 rfl
  have H6 := H5.aloadN 7 wCM_6 rfl
  have H7 := H6.iconst 8 (0 : Int32) wCM_7
  have H8 := H7.iloadN 9 wCM_8 rfl
  obtain ⟨_, h2, rfl, K2, H9⟩ := H8.callS 12 (z := ⟨"java/lang/StringUTF16", "compress", "([CI[BII)I"⟩) (w 75 rfl) (w 76 rfl) (w 73 rfl) (w 77 rfl) (by decide) (argsL := [(.ref a), (.int (0 : Int32)), (.ref b1), (.int (0 : Int32)), (.int (4 : Int32))]) (rest := []) (Paid.of_met (W := 0) (metCI42 hw H8.oldO (K.ext E1) V1 (by simp) (H8.sf_lt (by simp)).2 (Nat.ne_of_lt (g1 ▸ K.lt)) q0 q1 q2) (w 77 rfl) (w 73 rfl) hEL (by decide) (by decide)) (lenOf pdw_5 rfl) rfl (Nat.le_of_eq rfl) wCM_9 (by decide) (by decide) (by simp)
  have X2 : Ext h h2 := Ext.keep' E1 K2 (allS (Nat.le_of_eq g1.symm) all0)
  have H10 := H9.istore 14 wCM_12 (L' := #[.val (.ref a), .val (.int (0 : Int32)), .val (.int (4 : Int32)), .val (.ref b1), .val (.int (2 : Int32)), .unset]) rfl
  have H11 := H10.iload 16 wCM_14 rfl
  have H12 := H11.iloadN 17 wCM_16 rfl
  have H13 := H12.icmpNo 20 wCM_17 (XT.ii_eq_f (by decide))
  have H14 := H13.aloadN 21 wCM_20 rfl
  have H15 := H14.iloadN 22 wCM_21 rfl
  have H16 := H15.iloadN 23 wCM_22 rfl
  obtain ⟨_, h3, ⟨b3, k3, rfl, g3, E3, V3⟩, K3, H17⟩ := H16.callS 26 (z := ⟨"java/lang/StringUTF16", "toBytes", "([CII)[B"⟩) (w 110 rfl) (w 111 rfl) (w 73 rfl) (w 112 rfl) (by decide) (argsL := [(.ref a), (.int (0 : Int32)), (.int (4 : Int32))]) (rest := []) (Paid.of_met (W := 0) (metTB4 hw H16.oldO S_AD S_HI S_LO (K.ext X2)) (w 112 rfl) (w 73 rfl) hEL (by decide) (by decide)) (lenOf pdw_4 rfl) rfl (Nat.le_of_eq rfl) wCM_23 (by decide) (by decide) all0
  have H18 := H17.astore 28 wCM_26 (L' := #[.val (.ref a), .val (.int (0 : Int32)), .val (.int (4 : Int32)), .val (.ref b1), .val (.int (2 : Int32)), .val (.ref b3)]) rfl
  have H19 := H18.aload 30 wCM_28 rfl
  have H20 := H19.iload 32 wCM_30 rfl
  obtain ⟨_, h4, ⟨rfl, e4⟩, K4, H21⟩ := H20.callS 35 (z := ⟨"java/lang/StringUTF16", "getChar", "([BI)C"⟩) (w 126 rfl) (w 127 rfl) (w 73 rfl) (w 128 rfl) (by decide) (argsL := [(.ref b3), (.int (2 : Int32))]) (rest := []) (Paid.of_met (W := 0) (metGET hw H20.oldO S_AD S_HI S_LO (i := (2 : Int32)) 2 V3 ⟨by decide, by decide⟩ (by decide) ⟨by decide, by decide⟩ (by decide) (u := StrChars.lo8 x2) (v := StrChars.hi8 x2) rfl rfl) (w 128 rfl) (w 73 rfl) hEL (by decide) (by decide)) (lenOf pdw_1 rfl) rfl (Nat.le_of_eq rfl) wCM_32 (by decide) (by decide) all0
  subst e4
  rw [StrChars.pair_says c2.1 c2.2] at H21
  have H22 := H21.sipush 38 (255 : Int32) wCM_35
  have H23 := H22.icmpYes 54 wCM_38 (XT.ii_gt_t q2)
  have H24 := H23.aload 56 wCM_54 rfl
  exact H24.retA rfl rfl rfl wCM_56 (by decide) (by decide) ⟨b3, k3, rfl, (by rw [g3]; exact X2.1), Ext.trans' X2 E3, V3⟩
set_option maxRecDepth 65536 in
set_option maxHeartbeats 4000000 in
theorem metNW42 {Z : State} {a0 : Array Value} {n0 : Nat} {h : Heap} (hw : ∀ d ∈ tables_1, d.before a0 Z = true) (hO : Old Z n0 h) {zc : Int32} (Sc : Sta Z Z.heap ST "COMPACT_STRINGS" "Z" (.int zc)) (hzc : ¬ zc = 0) (S_AD : Sta Z Z.heap "java/lang/StringUTF16" "$assertionsDisabled" "Z" (.int 1)) (S_HI : Sta Z Z.heap "java/lang/StringUTF16" "HI_BYTE_SHIFT" "I" (.int 0)) (S_LO : Sta Z Z.heap "java/lang/StringUTF16" "LO_BYTE_SHIFT" "I" (.int 8)) {x : Addr} {v0 c0 : Value} (hx0 : n0 ≤ x) (E : Exa Z h x ST) (V : Fld Z h x ST "value" "[B" v0) (C : Fld Z h x ST "coder" "B" c0) {a : Addr} {kC : ClassId} {dv : Value} {x0 x1 x2 x3 : Int32} (K : Arv Z h a kC .char (4 : Int32) (([x0, x1, x2, x3] : List Int32).map Value.int) dv) (c0 : C16 x0) (c1 : C16 x1) (c2 : C16 x2) (c3 : C16 x3) (q0 : ¬ (255 : Int32) < x0) (q1 : ¬ (255 : Int32) < x1) (q2 : (255 : Int32) < x2) :
    Met Z EL1 n0 ⟨"java/lang/String", "<init>", "([CIILjava/lang/Void;)V"⟩ jdk_42_method_149_code 6 none rwN4 #[.ref x, .ref a, .int 0, .int (4 : Int32), .null] h [x] (fun v h' => v = none ∧ Str Z h' x ([x0, x1, x2, x3] : List Int32)) := by
  have w : ∀ (i : Nat) {d : Jvm.Cond}, tables_1[i]? = some d → d.before a0 Z = true := fun i d q => hw d (List.mem_of_getElem? q)
  have hEL : EW Z a0 EL1 := EW.cons (w 27 rfl) (by simp) EW.nil
  have wlv := (w 29 rfl)
  have wlc := (w 30 rfl)
  have nvc : RoadKit.slotOf Z ST "coder" "B" ≠ RoadKit.slotOf Z ST "value" "[B" := slot_ne (Or.inr wlc) (Or.inr wlv) (by decide) (t := .byte) (by decide) (t' := .array .byte) (by decide)
  refine Met.of_walk (a0 := a0) pnST hEL hO (allS ⟨E.lt, hx0⟩ all0) (L0 := #[.val (.ref x), .val (.ref a), .val (.int (0 : Int32)), .val (.int (4 : Int32)), .val .null, .unset]) (fun m => by first | (simp [entryFrame, mkF, argsToLocals, Value.category, maxLocals]; done) | rfl) rfl ?_
  intro k H0
  have H1 := H0.aloadN 1 wN4_0 rfl
  have H2 := H1.initO 4 (w 24 rfl) (w 25 rfl) (w 26 rfl) wN4_1 (by decide) (W := 0) (by decide) (by decide)
  have H3 := H2.iloadN 5 wN4_4 rfl
  have H4 := H3.ifYes 27 wN4_5 (XT.i0_ne_t (by decide))
  have H5 := H4.getS 30 (w 49 rfl) (staOld Sc H4.oldO) wN4_27
  have H6 := H5.ifNo 33 wN4_30 (XT.i0_eq_f hzc)
  have H7 := H6.aloadN 34 wN4_33 rfl
  have H8 := H7.iloadN 35 wN4_34 rfl
  have H9 := H8.iloadN 36 wN4_35 rfl
  obtain ⟨_, h1, ⟨b1, k1, rfl, g1, E1, V1⟩, K1, H10⟩ := H9.callS 39 (z := ⟨"java/lang/StringUTF16", "compress", "([CII)[B"⟩) (w 71 rfl) (w 72 rfl) (w 73 rfl) (w 74 rfl) (by decide) (argsL := [(.ref a), (.int (0 : Int32)), (.int (4 : Int32))]) (rest := []) (Paid.of_met (W := 0) (metCM42 hw H9.oldO S_AD S_HI S_LO K c2 q0 q1 q2) (w 74 rfl) (w 73 rfl) hEL (by decide) (by decide)) (lenOf pdw_6 rfl) rfl (Nat.le_of_eq rfl) wN4_36 (by decide) (by decide) all0
  have H11 := H10.astore 41 wN4_39 (L' := #[.val (.ref x), .val (.ref a), .val (.int (0 : Int32)), .val (.int (4 : Int32)), .val .null, .val (.ref b1)]) rfl
  have H12 := H11.aloadN 42 wN4_41 rfl
  have H13 := H12.aload 44 wN4_42 rfl
  have H14 := H13.iloadN 45 wN4_44 rfl
  obtain ⟨_, h2, ⟨rfl, e2⟩, K2, H15⟩ := H14.callS 48 (z := ⟨"java/lang/StringUTF16", "coderFromArrayLen", "([BI)B"⟩) (w 78 rfl) (w 79 rfl) (w 73 rfl) (w 80 rfl) (by decide) (argsL := [(.ref b1), (.int (4 : Int32))]) (rest := [(.ref x)]) (Paid.of_met (W := 1) (metCF4 hw H14.oldO V1) (w 80 rfl) (w 73 rfl) hEL (by decide) (by decide)) (lenOf pdw_7 rfl) rfl (Nat.le_of_eq rfl) wN4_45 (by decide) (by decide) all0
  subst e2
  have C1 := C.ext E1
  have E1x := E.ext E1
  obtain ⟨h3, W3, K3, E3, F3, H16⟩ := H15.putF 51 (w 34 rfl) C1 E1x (Or.inr ⟨(w 30 rfl), rfl, rfl⟩) (w 15 rfl) (ty := .byte) (by decide) rfl rfl wN4_48 (by simp)
  have H17 := H16.aloadN 52 wN4_51 rfl
  have H18 := H17.aload 54 wN4_52 rfl
  have V3' := (V.ext E1).other W3 (Or.inr (Ne.symm nvc))
  obtain ⟨h4, W4, K4, E4, F4, H19⟩ := H18.putF 57 (w 33 rfl) V3' E3 (Or.inr ⟨(w 29 rfl), rfl, rfl⟩) (w 15 rfl) (ty := .array .byte) (by decide) rfl rfl wN4_54 (by simp)
  have nx : b1 ∉ [x] := ninS (Nat.ne_of_gt (Nat.lt_of_lt_of_le E.lt g1)) nin0
  refine H19.retV rfl wN4_57 (by decide) (by decide) ⟨rfl, E4, b1, k1, 1, _, _, F4, F3.other W4 (Or.inr nvc), (V1.keep K3 nx).keep K4 nx, Or.inr ⟨rfl, rfl, rfl, x2, by simp, q2⟩, ?_, by simp⟩
  intro c hc
  simp only [List.mem_cons, List.not_mem_nil, or_false] at hc
  rcases hc with rfl | rfl | rfl | rfl <;> first | exact c0 | exact c1 | exact c2 | exact c3
set_option maxRecDepth 65536 in
set_option maxHeartbeats 4000000 in
theorem metN42 {Z : State} {a0 : Array Value} {n0 : Nat} {h : Heap} (hw : ∀ d ∈ tables_1, d.before a0 Z = true) (hO : Old Z n0 h) {zc : Int32} (Sc : Sta Z Z.heap ST "COMPACT_STRINGS" "Z" (.int zc)) (hzc : ¬ zc = 0) (S_AD : Sta Z Z.heap "java/lang/StringUTF16" "$assertionsDisabled" "Z" (.int 1)) (S_HI : Sta Z Z.heap "java/lang/StringUTF16" "HI_BYTE_SHIFT" "I" (.int 0)) (S_LO : Sta Z Z.heap "java/lang/StringUTF16" "LO_BYTE_SHIFT" "I" (.int 8)) {x : Addr} {v0 c0 : Value} (hx0 : n0 ≤ x) (E : Exa Z h x ST) (V : Fld Z h x ST "value" "[B" v0) (C : Fld Z h x ST "coder" "B" c0) {a : Addr} {kC : ClassId} {dv : Value} {x0 x1 x2 x3 : Int32} (K : Arv Z h a kC .char (4 : Int32) (([x0, x1, x2, x3] : List Int32).map Value.int) dv) (c0 : C16 x0) (c1 : C16 x1) (c2 : C16 x2) (c3 : C16 x3) (q0 : ¬ (255 : Int32) < x0) (q1 : ¬ (255 : Int32) < x1) (q2 : (255 : Int32) < x2) :
    Met Z EL1 n0 ⟨"java/lang/String", "<init>", "([C)V"⟩ jdk_42_method_3_code 2 none rwN1 #[.ref x, .ref a] h [x] (fun v h' => v = none ∧ Str Z h' x ([x0, x1, x2, x3] : List Int32)) := by
  have w : ∀ (i : Nat) {d : Jvm.Cond}, tables_1[i]? = some d → d.before a0 Z = true := fun i d q => hw d (List.mem_of_getElem? q)
  have hEL : EW Z a0 EL1 := EW.cons (w 27 rfl) (by simp) EW.nil
  refine Met.of_walk (a0 := a0) pnST hEL hO (allS ⟨E.lt, hx0⟩ all0) (L0 := #[.val (.ref x), .val (.ref a)]) (fun m => by first | (simp [entryFrame, mkF, argsToLocals, Value.category, maxLocals]; done) | rfl) rfl ?_
  intro k H0
  have H1 := H0.aloadN 1 wN1_0 rfl
  have H2 := H1.aloadN 2 wN1_1 rfl
  have H3 := H2.iconst 3 (0 : Int32) wN1_2
  have H4 := H3.aloadN 4 wN1_3 rfl
  have H5 := H4.alen 5 K wN1_4
  have H6 := H5.anull 6 wN1_5
  obtain ⟨_, h1, ⟨rfl, S1⟩, K1, H7⟩ := H6.callI 9 (z := ⟨"java/lang/String", "<init>", "([CIILjava/lang/Void;)V"⟩) rfl (w 20 rfl) (w 21 rfl) (w 23 rfl) (by decide) (a := x) (argsL := [(.ref a), (.int (0 : Int32)), (.int (4 : Int32)), .null]) (rest := []) (Paid.of_met (W := 0) (metNW42 hw H6.oldO Sc hzc S_AD S_HI S_LO hx0 E V C K c0 c1 c2 c3 q0 q1 q2) (w 23 rfl) (w 16 rfl) hEL (by decide) (by decide)) (lenOf pdw_8 rfl) rfl (Nat.le_of_eq rfl) wN1_6 (by decide) (by decide) (by simp)
  exact H7.retV rfl wN1_9 (by decide) (by decide) ⟨rfl, S1⟩
set_option maxRecDepth 65536 in
set_option maxHeartbeats 4000000 in
theorem metCI43 {Z : State} {a0 : Array Value} {n0 : Nat} {h : Heap} (hw : ∀ d ∈ tables_1, d.before a0 Z = true) (hO : Old Z n0 h) {a : Addr} {kC : ClassId} {dv : Value} {x0 x1 x2 x3 : Int32} (K : Arv Z h a kC .char (4 : Int32) (([x0, x1, x2, x3] : List Int32).map Value.int) dv) {b : Addr} {kb : ClassId} {vs : List Value} (V : Arv Z h b kb .byte (4 : Int32) vs (.int 0)) (hv : 4 ≤ vs.length) (hb : n0 ≤ b) (ab : a ≠ b) (q0 : ¬ (255 : Int32) < x0) (q1 : ¬ (255 : Int32) < x1) (q2 : ¬ (255 : Int32) < x2) (q3 : (255 : Int32) < x3) :
    Met Z EL1 n0 ⟨"java/lang/StringUTF16", "compress", "([CI[BII)I"⟩ jdk_52_method_21_code 7 (some .int) rw0 #[.ref a, .int 0, .ref b, .int 0, .int (4 : Int32)] h [b] (fun v h' => v = some (.int 3)) := by
  have w : ∀ (i : Nat) {d : Jvm.Cond}, tables_1[i]? = some d → d.before a0 Z = true := fun i d q => hw d (List.mem_of_getElem? q)
  have hEL : EW Z a0 EL1 := EW.cons (w 27 rfl) (by simp) EW.nil
  refine Met.of_walk (a0 := a0) pnU hEL hO (allS ⟨V.lt, hb⟩ all0) (L0 := #[.val (.ref a), .val (.int (0 : Int32)), .val (.ref b), .val (.int (0 : Int32)), .val (.int (4 : Int32)), .unset, .unset]) (fun m => by first | (simp [entryFrame, mkF, argsToLocals, Value.category, maxLocals]; done) | rfl) rfl ?_
  intro k H0
  have H1 := H0.iconst 1 (0 : Int32) wCI_0
  have H2 := H1.istore 3 wCI_1 (L' := #[.val (.ref a), .val (.int (0 : Int32)), .val (.ref b), .val (.int (0 : Int32)), .val (.int (4 : Int32)), .val (.int (0 : Int32)), .unset]) rfl
  have H3 := H2.iload 5 wCI_3 rfl
  have H4 := H3.iload 7 wCI_5 rfl
  have H5 := H4.icmpNo 10 wCI_7 (XT.ii_ge_f (by decide))
  have H6 := H5.aloadN 11 wCI_10 rfl
  have H7 := H6.iloadN 12 wCI_11 rfl
  have H8 := H7.caload 13 K ⟨by decide, by decide⟩ (v := .int x0) rfl wCI_12
  have H9 := H8.istore 15 wCI_13 (L' := #[.val (.ref a), .val (.int (0 : Int32)), .val (.ref b), .val (.int (0 : Int32)), .val (.int (4 : Int32)), .val (.int (0 : Int32)), .val (.int x0)]) rfl
  have H10 := H9.iload 17 wCI_15 rfl
  have H11 := H10.sipush 20 (255 : Int32) wCI_17
  have H12 := H11.icmpYes 26 wCI_20 (XT.ii_le_t q0)
  have H13 := H12.aloadN 27 wCI_26 rfl
  have H14 := H13.iloadN 28 wCI_27 rfl
  have H15 := H14.iload 30 wCI_28 rfl
  have H16 := H15.i2b 31 wCI_30
  obtain ⟨h_0, K_0, V_0, H17⟩ := H16.stB 32 V 0 ⟨by decide, by decide⟩ (by decide) (by first | omega | (simp only [List.length_set]; omega)) wCI_31 (by simp)
  have Kc0 := K.keep K_0 (ninS ab nin0)
  have H18 := H17.iinc 35 (1 : Int32) wCI_32 rfl (L' := #[.val (.ref a), .val (.int ((0 : Int32) + (1 : Int32))), .val (.ref b), .val (.int (0 : Int32)), .val (.int (4 : Int32)), .val (.int (0 : Int32)), .val (.int x0)]) rfl
  have H19 := H18.iinc 38 (1 : Int32) wCI_35 rfl (L' := #[.val (.ref a), .val (.int ((0 : Int32) + (1 : Int32))), .val (.ref b), .val (.int ((0 : Int32) + (1 : Int32))), .val (.int (4 : Int32)), .val (.int (0 : Int32)), .val (.int x0)]) rfl
  have H20 := H19.iinc 41 (1 : Int32) wCI_38 rfl (L' := #[.val (.ref a), .val (.int ((0 : Int32) + (1 : Int32))), .val (.ref b), .val (.int ((0 : Int32) + (1 : Int32))), .val (.int (4 : Int32)), .val (.int ((0 : Int32) + (1 : Int32))), .val (.int x0)]) rfl
  have H21 := H20.goto 3 wCI_41
  have H22 := H21.iload 5 wCI_3 rfl
  have H23 := H22.iload 7 wCI_5 rfl
  have H24 := H23.icmpNo 10 wCI_7 (XT.ii_ge_f (by decide))
  have H25 := H24.aloadN 11 wCI_10 rfl
  have H26 := H25.iloadN 12 wCI_11 rfl
  have H27 := H26.caload 13 Kc0 ⟨by decide, by decide⟩ (v := .int x1) rfl wCI_12
  have H28 := H27.istore 15 wCI_13 (L' := #[.val (.ref a), .val (.int ((0 : Int32) + (1 : Int32))), .val (.ref b), .val (.int ((0 : Int32) + (1 : Int32))), .val (.int (4 : Int32)), .val (.int ((0 : Int32) + (1 : Int32))), .val (.int x1)]) rfl
  have H29 := H28.iload 17 wCI_15 rfl
  have H30 := H29.sipush 20 (255 : Int32) wCI_17
  have H31 := H30.icmpYes 26 wCI_20 (XT.ii_le_t q1)
  have H32 := H31.aloadN 27 wCI_26 rfl
  have H33 := H32.iloadN 28 wCI_27 rfl
  have H34 := H33.iload 30 wCI_28 rfl
  have H35 := H34.i2b 31 wCI_30
  obtain ⟨h_1, K_1, V_1, H36⟩ := H35.stB 32 V_0 1 ⟨by decide, by decide⟩ (by decide) (by first | omega | (simp only [List.length_set]; omega)) wCI_31 (by simp)
  have Kc1 := Kc0.keep K_1 (ninS ab nin0)
  have H37 := H36.iinc 35 (1 : Int32) wCI_32 rfl (L' := #[.val (.ref a), .val (.int (((0 : Int32) + (1 : Int32)) + (1 : Int32))), .val (.ref b), .val (.int ((0 : Int32) + (1 : Int32))), .val (.int (4 : Int32)), .val (.int ((0 : Int32) + (1 : Int32))), .val (.int x1)]) rfl
  have H38 := H37.iinc 38 (1 : Int32) wCI_35 rfl (L' := #[.val (.ref a), .val (.int (((0 : Int32) + (1 : Int32)) + (1 : Int32))), .val (.ref b), .val (.int (((0 : Int32) + (1 : Int32)) + (1 : Int32))), .val (.int (4 : Int32)), .val (.int ((0 : Int32) + (1 : Int32))), .val (.int x1)]) rfl
  have H39 := H38.iinc 41 (1 : Int32) wCI_38 rfl (L' := #[.val (.ref a), .val (.int (((0 : Int32) + (1 : Int32)) + (1 : Int32))), .val (.ref b), .val (.int (((0 : Int32) + (1 : Int32)) + (1 : Int32))), .val (.int (4 : Int32)), .val (.int (((0 : Int32) + (1 : Int32)) + (1 : Int32))), .val (.int x1)]) rfl
  have H40 := H39.goto 3 wCI_41
  have H41 := H40.iload 5 wCI_3 rfl
  have H42 := H41.iload 7 wCI_5 rfl
  have H43 := H42.icmpNo 10 wCI_7 (XT.ii_ge_f (by decide))
  have H44 := H43.aloadN 11 wCI_10 rfl
  have H45 := H44.iloadN 12 wCI_11 rfl
  have H46 := H45.caload 13 Kc1 ⟨by decide, by decide⟩ (v := .int x2) rfl wCI_12
  have H47 := H46.istore 15 wCI_13 (L' := #[.val (.ref a), .val (.int (((0 : Int32) + (1 : Int32)) + (1 : Int32))), .val (.ref b), .val (.int (((0 : Int32) + (1 : Int32)) + (1 : Int32))), .val (.int (4 : Int32)), .val (.int (((0 : Int32) + (1 : Int32)) + (1 : Int32))), .val (.int x2)]) rfl
  have H48 := H47.iload 17 wCI_15 rfl
  have H49 := H48.sipush 20 (255 : Int32) wCI_17
  have H50 := H49.icmpYes 26 wCI_20 (XT.ii_le_t q2)
  have H51 := H50.aloadN 27 wCI_26 rfl
  have H52 := H51.iloadN 28 wCI_27 rfl
  have H53 := H52.iload 30 wCI_28 rfl
  have H54 := H53.i2b 31 wCI_30
  obtain ⟨h_2, K_2, V_2, H55⟩ := H54.stB 32 V_1 2 ⟨by decide, by decide⟩ (by decide) (by first | omega | (simp only [List.length_set]; omega)) wCI_31 (by simp)
  have Kc2 := Kc1.keep K_2 (ninS ab nin0)
  have H56 := H55.iinc 35 (1 : Int32) wCI_32 rfl (L' := #[.val (.ref a), .val (.int ((((0 : Int32) + (1 : Int32)) + (1 : Int32)) + (1 : Int32))), .val (.ref b), .val (.int (((0 : Int32) + (1 : Int32)) + (1 : Int32))), .val (.int (4 : Int32)), .val (.int (((0 : Int32) + (1 : Int32)) + (1 : Int32))), .val (.int x2)]) rfl
  have H57 := H56.iinc 38 (1 : Int32) wCI_35 rfl (L' := #[.val (.ref a), .val (.int ((((0 : Int32) + (1 : Int32)) + (1 : Int32)) + (1 : Int32))), .val (.ref b), .val (.int ((((0 : Int32) + (1 : Int32)) + (1 : Int32)) + (1 : Int32))), .val (.int (4 : Int32)), .val (.int (((0 : Int32) + (1 : Int32)) + (1 : Int32))), .val (.int x2)]) rfl
  have H58 := H57.iinc 41 (1 : Int32) wCI_38 rfl (L' := #[.val (.ref a), .val (.int ((((0 : Int32) + (1 : Int32)) + (1 : Int32)) + (1 : Int32))), .val (.ref b), .val (.int ((((0 : Int32) + (1 : Int32)) + (1 : Int32)) + (1 : Int32))), .val (.int (4 : Int32)), .val (.int ((((0 : Int32) + (1 : Int32)) + (1 : Int32)) + (1 : Int32))), .val (.int x2)]) rfl
  have H59 := H58.goto 3 wCI_41
  have H60 := H59.iload 5 wCI_3 rfl
  have H61 := H60.iload 7 wCI_5 rfl
  have H62 := H61.icmpNo 10 wCI_7 (XT.ii_ge_f (by decide))
  have H63 := H62.aloadN 11 wCI_10 rfl
  have H64 := H63.iloadN 12 wCI_11 rfl
  have H65 := H64.caload 13 Kc2 ⟨by decide, by decide⟩ (v := .int x3) rfl wCI_12
  have H66 := H65.istore 15 wCI_13 (L' := #[.val (.ref a), .val (.int ((((0 : Int32) + (1 : Int32)) + (1 : Int32)) + (1 : Int32))), .val (.ref b), .val (.int ((((0 : Int32) + (1 : Int32)) + (1 : Int32)) + (1 : Int32))), .val (.int (4 : Int32)), .val (.int ((((0 : Int32) + (1 : Int32)) + (1 : Int32)) + (1 : Int32))), .val (.int x3)]) rfl
  have H67 := H66.iload 17 wCI_15 rfl
  have H68 := H67.sipush 20 (255 : Int32) wCI_17
  have H69 := H68.icmpNo 23 wCI_20 (XT.ii_le_f q3)
  have H70 := H69.iload 25 wCI_23 rfl
  exact H70.retI rfl rfl (by simp) wCI_25 (by decide) (by decide) (by rfl)
set_option maxRecDepth 65536 in
set_option maxHeartbeats 4000000 in
theorem metCM43 {Z : State} {a0 : Array Value} {n0 : Nat} {h : Heap} (hw : ∀ d ∈ tables_1, d.before a0 Z = true) (hO : Old Z n0 h) (S_AD : Sta Z Z.heap "java/lang/StringUTF16" "$assertionsDisabled" "Z" (.int 1)) (S_HI : Sta Z Z.heap "java/lang/StringUTF16" "HI_BYTE_SHIFT" "I" (.int 0)) (S_LO : Sta Z Z.heap "java/lang/StringUTF16" "LO_BYTE_SHIFT" "I" (.int 8)) {a : Addr} {kC : ClassId} {dv : Value} {x0 x1 x2 x3 : Int32} (K : Arv Z h a kC .char (4 : Int32) (([x0, x1, x2, x3] : List Int32).map Value.int) dv) (c3 : C16 x3) (q0 : ¬ (255 : Int32) < x0) (q1 : ¬ (255 : Int32) < x1) (q2 : ¬ (255 : Int32) < x2) (q3 : (255 : Int32) < x3) :
    Met Z EL1 n0 ⟨"java/lang/StringUTF16", "compress", "([CII)[B"⟩ jdk_52_method_16_code 6 (some (.array .byte)) rwCM #[.ref a, .int 0, .int (4 : Int32)] h [] (fun v h' => ∃ (b : Addr) (kb : ClassId), v = some (.ref b) ∧ h.size ≤ b ∧ Ext h h' ∧ Arv Z h' b kb .byte (8 : Int32) (StrChars.Road.wideBytes ([x0, x1, x2, x3] : List Int32)) (.int 0)) := by
  have w : ∀ (i : Nat) {d : Jvm.Cond}, tables_1[i]? = some d → d.before a0 Z = true := fun i d q => hw d (List.mem_of_getElem? q)
  have hEL : EW Z a0 EL1 := EW.cons (w 27 rfl) (by simp) EW.nil
  refine Met.of_walk (a0 := a0) pnU hEL hO all0 (L0 := #[.val (.ref a), .val (.int (0 : Int32)), .val (.int (4 : Int32)), .unset, .unset, .unset]) (fun m => by first | (simp [entryFrame, mkF, argsToLocals, Value.category, maxLocals]; done) | rfl) rfl ?_
  intro k H0
  have H1 := H0.iloadN 1 wCM_0 rfl
  obtain ⟨b1, h1, k1, g1, E1, V1, H2⟩ := H1.newP 3 (ty := .byte) rfl (w 28 rfl) wCM_1 (by decide) (cap := 4) (by decide) (by decide) (by decide) (by decide)
  have H3 := H2.astoreN 4 wCM_3 (L' := #[.val (.ref a), .val (.int (0 : Int32)), .val (.int (4 : Int32)), .val (.ref b1), .unset, .unset]) rfl
  have H4 := H3.aloadN 5 wCM_4 rfl
  have H5 := H4.iloadN 6 wCM_5 rfl
  have H6 := H5.aloadN 7 wCM_6 rfl
  have H7 := H6.iconst 8 (0 : Int32) wCM_7
  have H8 := H7.iloadN 9 wCM_8 rfl
  obtain ⟨_, h2, rfl, K2, H9⟩ := H8.callS 12 (z := ⟨"java/lang/StringUTF16", "compress", "([CI[BII)I"⟩) (w 75 rfl) (w 76 rfl) (w 73 rfl) (w 77 rfl) (by decide) (argsL := [(.ref a), (.int (0 : Int32)), (.ref b1), (.int (0 : Int32)), (.int (4 : Int32))]) (rest := []) (Paid.of_met (W := 0) (metCI43 hw H8.oldO (K.ext E1) V1 (by simp) (H8.sf_lt (by simp)).2 (Nat.ne_of_lt (g1 ▸ K.lt)) q0 q1 q2 q3) (w 77 rfl) (w 73 rfl) hEL (by decide) (by decide)) (lenOf pdw_5 rfl) rfl (Nat.le_of_eq rfl) wCM_9 (by decide) (by decide) (by simp)
  have X2 : Ext h h2 := Ext.keep' E1 K2 (allS (Nat.le_of_eq g1.symm) all0)
  have H10 := H9.istore 14 wCM_12 (L' := #[.val (.ref a), .val (.int (0 : Int32)), .val (.int (4 : Int32)), .val (.ref b1), .val (.int (3 : Int32)), .unset]) rfl
  have H11 := H10.iload 16 wCM_14 rfl
  have H12 := H11.iloadN 17 wCM_16 rfl
  have H13 := H12.icmpNo 20 wCM_17 (XT.ii_eq_f (by decide))
  have H14 := H13.aloadN 21 wCM_20 rfl
  have H15 := H14.iloadN 22 wCM_21 rfl
  have H16 := H15.iloadN 23 wCM_22 rfl
  obtain ⟨_, h3, ⟨b3, k3, rfl, g3, E3, V3⟩, K3, H17⟩ := H16.callS 26 (z := ⟨"java/lang/StringUTF16", "toBytes", "([CII)[B"⟩) (w 110 rfl) (w 111 rfl) (w 73 rfl) (w 112 rfl) (by decide) (argsL := [(.ref a), (.int (0 : Int32)), (.int (4 : Int32))]) (rest := []) (Paid.of_met (W := 0) (metTB4 hw H16.oldO S_AD S_HI S_LO (K.ext X2)) (w 112 rfl) (w 73 rfl) hEL (by decide) (by decide)) (lenOf pdw_4 rfl) rfl (Nat.le_of_eq rfl) wCM_23 (by decide) (by decide) all0
  have H18 := H17.astore 28 wCM_26 (L' := #[.val (.ref a), .val (.int (0 : Int32)), .val (.int (4 : Int32)), .val (.ref b1), .val (.int (3 : Int32)), .val (.ref b3)]) rfl
  have H19 := H18.aload 30 wCM_28 rfl
  have H20 := H19.iload 32 wCM_30 rfl
  obtain ⟨_, h4, ⟨rfl, e4⟩, K4, H21⟩ := H20.callS 35 (z := ⟨"java/lang/StringUTF16", "getChar", "([BI)C"⟩) (w 126 rfl) (w 127 rfl) (w 73 rfl) (w 128 rfl) (by decide) (argsL := [(.ref b3), (.int (3 : Int32))]) (rest := []) (Paid.of_met (W := 0) (metGET hw H20.oldO S_AD S_HI S_LO (i := (3 : Int32)) 3 V3 ⟨by decide, by decide⟩ (by decide) ⟨by decide, by decide⟩ (by decide) (u := StrChars.lo8 x3) (v := StrChars.hi8 x3) rfl rfl) (w 128 rfl) (w 73 rfl) hEL (by decide) (by decide)) (lenOf pdw_1 rfl) rfl (Nat.le_of_eq rfl) wCM_32 (by decide) (by decide) all0
  subst e4
  rw [StrChars.pair_says c3.1 c3.2] at H21
  have H22 := H21.sipush 38 (255 : Int32) wCM_35
  have H23 := H22.icmpYes 54 wCM_38 (XT.ii_gt_t q3)
  have H24 := H23.aload 56 wCM_54 rfl
  exact H24.retA rfl rfl rfl wCM_56 (by decide) (by decide) ⟨b3, k3, rfl, (by rw [g3]; exact X2.1), Ext.trans' X2 E3, V3⟩
set_option maxRecDepth 65536 in
set_option maxHeartbeats 4000000 in
theorem metNW43 {Z : State} {a0 : Array Value} {n0 : Nat} {h : Heap} (hw : ∀ d ∈ tables_1, d.before a0 Z = true) (hO : Old Z n0 h) {zc : Int32} (Sc : Sta Z Z.heap ST "COMPACT_STRINGS" "Z" (.int zc)) (hzc : ¬ zc = 0) (S_AD : Sta Z Z.heap "java/lang/StringUTF16" "$assertionsDisabled" "Z" (.int 1)) (S_HI : Sta Z Z.heap "java/lang/StringUTF16" "HI_BYTE_SHIFT" "I" (.int 0)) (S_LO : Sta Z Z.heap "java/lang/StringUTF16" "LO_BYTE_SHIFT" "I" (.int 8)) {x : Addr} {v0 c0 : Value} (hx0 : n0 ≤ x) (E : Exa Z h x ST) (V : Fld Z h x ST "value" "[B" v0) (C : Fld Z h x ST "coder" "B" c0) {a : Addr} {kC : ClassId} {dv : Value} {x0 x1 x2 x3 : Int32} (K : Arv Z h a kC .char (4 : Int32) (([x0, x1, x2, x3] : List Int32).map Value.int) dv) (c0 : C16 x0) (c1 : C16 x1) (c2 : C16 x2) (c3 : C16 x3) (q0 : ¬ (255 : Int32) < x0) (q1 : ¬ (255 : Int32) < x1) (q2 : ¬ (255 : Int32) < x2) (q3 : (255 : Int32) < x3) :
    Met Z EL1 n0 ⟨"java/lang/String", "<init>", "([CIILjava/lang/Void;)V"⟩ jdk_42_method_149_code 6 none rwN4 #[.ref x, .ref a, .int 0, .int (4 : Int32), .null] h [x] (fun v h' => v = none ∧ Str Z h' x ([x0, x1, x2, x3] : List Int32)) := by
  have w : ∀ (i : Nat) {d : Jvm.Cond}, tables_1[i]? = some d → d.before a0 Z = true := fun i d q => hw d (List.mem_of_getElem? q)
  have hEL : EW Z a0 EL1 := EW.cons (w 27 rfl) (by simp) EW.nil
  have wlv := (w 29 rfl)
  have wlc := (w 30 rfl)
  have nvc : RoadKit.slotOf Z ST "coder" "B" ≠ RoadKit.slotOf Z ST "value" "[B" := slot_ne (Or.inr wlc) (Or.inr wlv) (by decide) (t := .byte) (by decide) (t' := .array .byte) (by decide)
  refine Met.of_walk (a0 := a0) pnST hEL hO (allS ⟨E.lt, hx0⟩ all0) (L0 := #[.val (.ref x), .val (.ref a), .val (.int (0 : Int32)), .val (.int (4 : Int32)), .val .null, .unset]) (fun m => by first | (simp [entryFrame, mkF, argsToLocals, Value.category, maxLocals]; done) | rfl) rfl ?_
  intro k H0
  have H1 := H0.aloadN 1 wN4_0 rfl
  have H2 := H1.initO 4 (w 24 rfl) (w 25 rfl) (w 26 rfl) wN4_1 (by decide) (W := 0) (by decide) (by decide)
  have H3 := H2.iloadN 5 wN4_4 rfl
  have H4 := H3.ifYes 27 wN4_5 (XT.i0_ne_t (by decide))
  have H5 := H4.getS 30 (w 49 rfl) (staOld Sc H4.oldO) wN4_27
  have H6 := H5.ifNo 33 wN4_30 (XT.i0_eq_f hzc)
  have H7 := H6.aloadN 34 wN4_33 rfl
  have H8 := H7.iloadN 35 wN4_34 rfl
  have H9 := H8.iloadN 36 wN4_35 rfl
  obtain ⟨_, h1, ⟨b1, k1, rfl, g1, E1, V1⟩, K1, H10⟩ := H9.callS 39 (z := ⟨"java/lang/StringUTF16", "compress", "([CII)[B"⟩) (w 71 rfl) (w 72 rfl) (w 73 rfl) (w 74 rfl) (by decide) (argsL := [(.ref a), (.int (0 : Int32)), (.int (4 : Int32))]) (rest := []) (Paid.of_met (W := 0) (metCM43 hw H9.oldO S_AD S_HI S_LO K c3 q0 q1 q2 q3) (w 74 rfl) (w 73 rfl) hEL (by decide) (by decide)) (lenOf pdw_6 rfl) rfl (Nat.le_of_eq rfl) wN4_36 (by decide) (by decide) all0
  have H11 := H10.astore 41 wN4_39 (L' := #[.val (.ref x), .val (.ref a), .val (.int (0 : Int32)), .val (.int (4 : Int32)), .val .null, .val (.ref b1)]) rfl
  have H12 := H11.aloadN 42 wN4_41 rfl
  have H13 := H12.aload 44 wN4_42 rfl
  have H14 := H13.iloadN 45 wN4_44 rfl
  obtain ⟨_, h2, ⟨rfl, e2⟩, K2, H15⟩ := H14.callS 48 (z := ⟨"java/lang/StringUTF16", "coderFromArrayLen", "([BI)B"⟩) (w 78 rfl) (w 79 rfl) (w 73 rfl) (w 80 rfl) (by decide) (argsL := [(.ref b1), (.int (4 : Int32))]) (rest := [(.ref x)]) (Paid.of_met (W := 1) (metCF4 hw H14.oldO V1) (w 80 rfl) (w 73 rfl) hEL (by decide) (by decide)) (lenOf pdw_7 rfl) rfl (Nat.le_of_eq rfl) wN4_45 (by decide) (by decide) all0
  subst e2
  have C1 := C.ext E1
  have E1x := E.ext E1
  obtain ⟨h3, W3, K3, E3, F3, H16⟩ := H15.putF 51 (w 34 rfl) C1 E1x (Or.inr ⟨(w 30 rfl), rfl, rfl⟩) (w 15 rfl) (ty := .byte) (by decide) rfl rfl wN4_48 (by simp)
  have H17 := H16.aloadN 52 wN4_51 rfl
  have H18 := H17.aload 54 wN4_52 rfl
  have V3' := (V.ext E1).other W3 (Or.inr (Ne.symm nvc))
  obtain ⟨h4, W4, K4, E4, F4, H19⟩ := H18.putF 57 (w 33 rfl) V3' E3 (Or.inr ⟨(w 29 rfl), rfl, rfl⟩) (w 15 rfl) (ty := .array .byte) (by decide) rfl rfl wN4_54 (by simp)
  have nx : b1 ∉ [x] := ninS (Nat.ne_of_gt (Nat.lt_of_lt_of_le E.lt g1)) nin0
  refine H19.retV rfl wN4_57 (by decide) (by decide) ⟨rfl, E4, b1, k1, 1, _, _, F4, F3.other W4 (Or.inr nvc), (V1.keep K3 nx).keep K4 nx, Or.inr ⟨rfl, rfl, rfl, x3, by simp, q3⟩, ?_, by simp⟩
  intro c hc
  simp only [List.mem_cons, List.not_mem_nil, or_false] at hc
  rcases hc with rfl | rfl | rfl | rfl <;> first | exact c0 | exact c1 | exact c2 | exact c3
set_option maxRecDepth 65536 in
set_option maxHeartbeats 4000000 in
theorem metN43 {Z : State} {a0 : Array Value} {n0 : Nat} {h : Heap} (hw : ∀ d ∈ tables_1, d.before a0 Z = true) (hO : Old Z n0 h) {zc : Int32} (Sc : Sta Z Z.heap ST "COMPACT_STRINGS" "Z" (.int zc)) (hzc : ¬ zc = 0) (S_AD : Sta Z Z.heap "java/lang/StringUTF16" "$assertionsDisabled" "Z" (.int 1)) (S_HI : Sta Z Z.heap "java/lang/StringUTF16" "HI_BYTE_SHIFT" "I" (.int 0)) (S_LO : Sta Z Z.heap "java/lang/StringUTF16" "LO_BYTE_SHIFT" "I" (.int 8)) {x : Addr} {v0 c0 : Value} (hx0 : n0 ≤ x) (E : Exa Z h x ST) (V : Fld Z h x ST "value" "[B" v0) (C : Fld Z h x ST "coder" "B" c0) {a : Addr} {kC : ClassId} {dv : Value} {x0 x1 x2 x3 : Int32} (K : Arv Z h a kC .char (4 : Int32) (([x0, x1, x2, x3] : List Int32).map Value.int) dv) (c0 : C16 x0) (c1 : C16 x1) (c2 : C16 x2) (c3 : C16 x3) (q0 : ¬ (255 : Int32) < x0) (q1 : ¬ (255 : Int32) < x1) (q2 : ¬ (255 : Int32) < x2) (q3 : (255 : Int32) < x3) :
    Met Z EL1 n0 ⟨"java/lang/String", "<init>", "([C)V"⟩ jdk_42_method_3_code 2 none rwN1 #[.ref x, .ref a] h [x] (fun v h' => v = none ∧ Str Z h' x ([x0, x1, x2, x3] : List Int32)) := by
  have w : ∀ (i : Nat) {d : Jvm.Cond}, tables_1[i]? = some d → d.before a0 Z = true := fun i d q => hw d (List.mem_of_getElem? q)
  have hEL : EW Z a0 EL1 := EW.cons (w 27 rfl) (by simp) EW.nil
  refine Met.of_walk (a0 := a0) pnST hEL hO (allS ⟨E.lt, hx0⟩ all0) (L0 := #[.val (.ref x), .val (.ref a)]) (fun m => by first | (simp [entryFrame, mkF, argsToLocals, Value.category, maxLocals]; done) | rfl) rfl ?_
  intro k H0
  have H1 := H0.aloadN 1 wN1_0 rfl
  have H2 := H1.aloadN 2 wN1_1 rfl
  have H3 := H2.iconst 3 (0 : Int32) wN1_2
  have H4 := H3.aloadN 4 wN1_3 rfl
  have H5 := H4.alen 5 K wN1_4
  have H6 := H5.anull 6 wN1_5
  obtain ⟨_, h1, ⟨rfl, S1⟩, K1, H7⟩ := H6.callI 9 (z := ⟨"java/lang/String", "<init>", "([CIILjava/lang/Void;)V"⟩) rfl (w 20 rfl) (w 21 rfl) (w 23 rfl) (by decide) (a := x) (argsL := [(.ref a), (.int (0 : Int32)), (.int (4 : Int32)), .null]) (rest := []) (Paid.of_met (W := 0) (metNW43 hw H6.oldO Sc hzc S_AD S_HI S_LO hx0 E V C K c0 c1 c2 c3 q0 q1 q2 q3) (w 23 rfl) (w 16 rfl) hEL (by decide) (by decide)) (lenOf pdw_8 rfl) rfl (Nat.le_of_eq rfl) wN1_6 (by decide) (by decide) (by simp)
  exact H7.retV rfl wN1_9 (by decide) (by decide) ⟨rfl, S1⟩
set_option maxRecDepth 65536 in
set_option maxHeartbeats 4000000 in
theorem payW4 {k : Ctx} {R : Room} {Z : State} {a0 : Array Value} {n0 : Nat} {h : Heap} (hw : ∀ d ∈ tables_1, d.before a0 Z = true) (hO : Old Z n0 h) {zc : Int32} (Sc : Sta Z Z.heap ST "COMPACT_STRINGS" "Z" (.int zc)) (hzc : ¬ zc = 0) (S_AD : Sta Z Z.heap "java/lang/StringUTF16" "$assertionsDisabled" "Z" (.int 1)) (S_HI : Sta Z Z.heap "java/lang/StringUTF16" "HI_BYTE_SHIFT" "I" (.int 0)) (S_LO : Sta Z Z.heap "java/lang/StringUTF16" "LO_BYTE_SHIFT" "I" (.int 8)) {W : Nat} {x : Addr} {v0 c0 : Value} (hx0 : n0 ≤ x) (E : Exa Z h x ST) (V : Fld Z h x ST "value" "[B" v0) (C : Fld Z h x ST "coder" "B" c0) {a : Addr} {kC : ClassId} {dv : Value} {x0 x1 x2 x3 : Int32} (K : Arv Z h a kC .char (4 : Int32) (([x0, x1, x2, x3] : List Int32).map Value.int) dv) (c0 : C16 x0) (c1 : C16 x1) (c2 : C16 x2) (c3 : C16 x3) (hfr : 6 ≤ R.frames) (hlo : W + 87 ≤ R.locals) :
    Paid k R Z EL1 n0 (⟨"java/lang/String", "<init>", "([C)V"⟩ : MethodName) W #[.ref x, .ref a] h [x] 4 12 (fun v h' => v = none ∧ Str Z h' x ([x0, x1, x2, x3] : List Int32)) := by
  have w : ∀ (i : Nat) {d : Jvm.Cond}, tables_1[i]? = some d → d.before a0 Z = true := fun i d q => hw d (List.mem_of_getElem? q)
  have hEL : EW Z a0 EL1 := EW.cons (w 27 rfl) (by simp) EW.nil
  have hws : ∀ d ∈ StrChars.Road.words, d.before a0 Z = true := fun d hd => hw d ((by decide +kernel : ∀ d ∈ StrChars.Road.words, d ∈ tables_1) d hd)
  have wi := (w 15 rfl)
  by_cases q0 : (255 : Int32) < x0
  · exact (Paid.of_met (metN40 hw hO Sc hzc S_AD S_HI S_LO hx0 E V C K c0 c1 c2 c3 q0) (w 19 rfl) (w 16 rfl) hEL (by show 5 + 1 ≤ _; omega) (by show W + (2 + 11) + 74 ≤ _; omega)).more (by decide) (by decide)
  by_cases q1 : (255 : Int32) < x1
  · exact (Paid.of_met (metN41 hw hO Sc hzc S_AD S_HI S_LO hx0 E V C K c0 c1 c2 c3 q0 q1) (w 19 rfl) (w 16 rfl) hEL (by show 5 + 1 ≤ _; omega) (by show W + (2 + 11) + 74 ≤ _; omega)).more (by decide) (by decide)
  by_cases q2 : (255 : Int32) < x2
  · exact (Paid.of_met (metN42 hw hO Sc hzc S_AD S_HI S_LO hx0 E V C K c0 c1 c2 c3 q0 q1 q2) (w 19 rfl) (w 16 rfl) hEL (by show 5 + 1 ≤ _; omega) (by show W + (2 + 11) + 74 ≤ _; omega)).more (by decide) (by decide)
  by_cases q3 : (255 : Int32) < x3
  · exact (Paid.of_met (metN43 hw hO Sc hzc S_AD S_HI S_LO hx0 E V C K c0 c1 c2 c3 q0 q1 q2 q3) (w 19 rfl) (w 16 rfl) hEL (by show 5 + 1 ≤ _; omega) (by show W + (2 + 11) + 74 ≤ _; omega)).more (by decide) (by decide)
  refine (payV (cs := ([x0, x1, x2, x3] : List Int32)) (n := 4) hEL hws wi hO hx0 E V C K Sc hzc rfl rfl (by decide) (by decide) ?_ (by omega) (by omega)).more (by decide) (by decide)
  intro c hc
  simp only [List.mem_cons, List.not_mem_nil, or_false] at hc
  rcases hc with rfl | rfl | rfl | rfl <;> first | exact ⟨c0.1, q0⟩ | exact ⟨c1.1, q1⟩ | exact ⟨c2.1, q2⟩ | exact ⟨c3.1, q3⟩
theorem c16m (x : Int32) : C16 (x.toUInt32.toUInt16.toUInt32.toInt32) := by
  have h := fits_nar_char x
  simp only [fits, nar, Bool.and_eq_true, decide_eq_true_eq] at h
  exact ⟨Int32.not_lt.mpr (of_decide_eq_true h.1), Int32.not_lt.mpr (of_decide_eq_true h.2)⟩
theorem C16.nar {x : Int32} (h : C16 x) : nar .char x = x := nar_char h.1 h.2
theorem i2c_id {x : Int32} (h : C16 x) : x.toUInt32.toUInt16.toUInt32.toInt32 = x := h.nar
theorem c16_narrow {c : Int32} (h : C16 c) : narrow .char (.int c) = .int c := StrChars.narrow_ch h.1 h.2
def CPt (c : Int32) : Prop := 0 ≤ c.toInt ∧ c.toInt < 1114112 ∧ (c.toInt < 55296 ∨ 57344 ≤ c.toInt)
def hsU (c : Int32) : Int32 := ((55296 : Int32) + ((c - (65536 : Int32)) >>> ((10 : Int32) &&& 31))).toUInt32.toUInt16.toUInt32.toInt32
def lsU (c : Int32) : Int32 := ((56320 : Int32) + ((c - (65536 : Int32)) &&& (1023 : Int32))).toUInt32.toUInt16.toUInt32.toInt32
def enc (c : Int32) : List Int32 := if c < 65536 then [c] else [hsU c, lsU c]
def encs (n a b : Int32) : List Int32 := if n = 0 then [] else if n = 1 then enc a else enc a ++ enc b
def icmp (a b : Int32) : Int32 := if a < b then -1 else if a = b then 0 else 1
def rnk (c : Int32) : Int32 := if c < 57344 then (if c < 55296 then c else c + 8192) else c - 2048
def cmpL : List Int32 → List Int32 → Int32
  | [], [] => 0
  | [], _ :: _ => -1
  | _ :: _, [] => 1
  | x :: xs, y :: ys => if x = y then cmpL xs ys else icmp (rnk x) (rnk y)
def sg (x : Int32) : Int32 := if x < 0 then -1 else if 0 < x then 1 else 0
def ccmp (a b : Int32) : Int32 := if a < b then -1 else if b < a then 1 else 0
def rfd (na a0 a1 nb b0 b1 : Int32) : Int32 := if na < 1 then ccmp na nb else if nb < 1 then ccmp na nb else if a0 = b0 then (if na < 2 then ccmp na nb else if nb < 2 then ccmp na nb else if a1 = b1 then ccmp na nb else ccmp a1 b1) else ccmp a0 b0
abbrev rm0 : Room := { frames := 0, cells := 0, slots := 0, locals := 0 }
set_option maxRecDepth 65536 in
set_option maxHeartbeats 4000000 in
theorem metCp {Z : State} {a0 : Array Value} {n0 : Nat} {h : Heap} (hw : ∀ d ∈ tables_1, d.before a0 Z = true) (hO : Old Z n0 h) (x : Int32) :
    Met Z EL1 n0 ⟨"com/example/load_then_swap/loadthenswap/input/KeyOrderComparePinLaw", "cp", "(I)I"⟩ method_2_code 2 (some .int) rm0 #[.int x] h [] (fun v h' => ∃ c, v = some (.int c) ∧ CPt c ∧ h' = h) := by
  have w : ∀ (i : Nat) {d : Jvm.Cond}, tables_1[i]? = some d → d.before a0 Z = true := fun i d q => hw d (List.mem_of_getElem? q)
  have hEL : EW Z a0 EL1 := EW.cons (w 27 rfl) (by simp) EW.nil
  refine Met.of_walk (a0 := a0) pnL hEL hO all0 (L0 := #[.val (.int x), .unset]) (fun m => by first | (simp [entryFrame, mkF, argsToLocals, Value.category, maxLocals]; done) | rfl) rfl ?_
  intro k H0
  have H1 := H0.iloadN 1 dCp_0 rfl
  have H2 := H1.ldcI 3 (w 4 rfl) dCp_1
  have H3 := H2.iand 4 dCp_3
  have H4 := H3.ldcI 6 (w 5 rfl) dCp_4
  have H5 := H4.irem 7 dCp_6 (by decide)
  generalize hc : ((x &&& (2147483647 : Int32)) % (1114112 : Int32)) = c at H5
  have hb : 0 ≤ c.toInt ∧ c.toInt < 1114112 := by
    obtain ⟨q1, q2⟩ := c_and x 2147483647 (by decide)
    have r := (c_irem (x &&& 2147483647) 1114112 1114112 rfl).1 q1
    rw [← hc]; omega
  have e1 : (55296 : Int32).toInt = 55296 := rfl
  have e2 : (57343 : Int32).toInt = 57343 := rfl
  have e3 : (2048 : Int32).toInt = 2048 := rfl
  have H6 := H5.istoreN 8 dCp_7 (L' := #[.val (.int x), .val (.int c)]) rfl
  have H7 := H6.iloadN 9 dCp_8 rfl
  have H8 := H7.ldcI 11 (w 6 rfl) dCp_9
  by_cases j0 : c < (55296 : Int32)
  · have H9 := H8.icmpYes 26 dCp_11 (XT.ii_lt_t j0)
    have H10 := H9.iloadN 27 dCp_26 rfl
    exact H10.retI rfl rfl (by simp) dCp_27 (by decide) (by decide) ⟨_, rfl, ⟨hb.1, hb.2, by rw [Int32.lt_iff_toInt_lt] at j0; omega⟩, rfl⟩
  · have H11 := H8.icmpNo 14 dCp_11 (XT.ii_lt_f j0)
    have H12 := H11.iloadN 15 dCp_14 rfl
    have H13 := H12.ldcI 17 (w 108 rfl) dCp_15
    by_cases j1 : (57343 : Int32) < c
    · have H14 := H13.icmpYes 26 dCp_17 (XT.ii_gt_t j1)
      have H15 := H14.iloadN 27 dCp_26 rfl
      exact H15.retI rfl rfl (by simp) dCp_27 (by decide) (by decide) ⟨_, rfl, ⟨hb.1, hb.2, by rw [Int32.lt_iff_toInt_lt] at j1; omega⟩, rfl⟩
    · have H16 := H13.icmpNo 20 dCp_17 (XT.ii_gt_f j1)
      have H17 := H16.iloadN 21 dCp_20 rfl
      have H18 := H17.sipush 24 (2048 : Int32) dCp_21
      have H19 := H18.iadd 25 dCp_24
      have H20 := H19.istoreN 26 dCp_25 (L' := #[.val (.int x), .val (.int (c + (2048 : Int32)))]) rfl
      have H21 := H20.iloadN 27 dCp_26 rfl
      exact H21.retI rfl rfl (by simp) dCp_27 (by decide) (by decide) ⟨_, rfl, (by rw [Int32.lt_iff_toInt_lt] at j0 j1; have r := c_iadd c 2048; have := (c + 2048).toInt_lt; have := (c + 2048).le_toInt; unfold CPt; omega), rfl⟩
set_option maxRecDepth 65536 in
set_option maxHeartbeats 4000000 in
theorem metRk {Z : State} {a0 : Array Value} {n0 : Nat} {h : Heap} (hw : ∀ d ∈ tables_1, d.before a0 Z = true) (hO : Old Z n0 h) (c : Int32) :
    Met Z EL1 n0 ⟨"com/example/load_then_swap/loadthenswap/input/KeyOrder", "rank", "(C)I"⟩ prog_11_method_3_code 2 (some .int) rm0 #[.int c] h [] (fun v h' => v = some (.int (rnk c)) ∧ h' = h) := by
  have w : ∀ (i : Nat) {d : Jvm.Cond}, tables_1[i]? = some d → d.before a0 Z = true := fun i d q => hw d (List.mem_of_getElem? q)
  have hEL : EW Z a0 EL1 := EW.cons (w 27 rfl) (by simp) EW.nil
  refine Met.of_walk (a0 := a0) pnK hEL hO all0 (L0 := #[.val (.int c), .unset]) (fun m => by first | (simp [entryFrame, mkF, argsToLocals, Value.category, maxLocals]; done) | rfl) rfl ?_
  intro k H0
  have H1 := H0.iloadN 1 dRk_0 rfl
  have H2 := H1.ldcI 3 (w 106 rfl) dRk_1
  by_cases j0 : c < (57344 : Int32)
  · have H3 := H2.icmpYes 15 dRk_3 (XT.ii_lt_t j0)
    have H4 := H3.iloadN 16 dRk_15 rfl
    have H5 := H4.ldcI 18 (w 107 rfl) dRk_16
    by_cases j1 : c < (55296 : Int32)
    · have H6 := H5.icmpYes 30 dRk_18 (XT.ii_lt_t j1)
      have H7 := H6.iloadN 31 dRk_30 rfl
      have H8 := H7.istoreN 32 dRk_31 (L' := #[.val (.int c), .val (.int c)]) rfl
      have H9 := H8.iloadN 33 dRk_32 rfl
      exact H9.retI rfl rfl (by simp) dRk_33 (by decide) (by decide) (⟨by simp [rnk, j0, j1], rfl⟩)
    · have H10 := H5.icmpNo 21 dRk_18 (XT.ii_lt_f j1)
      have H11 := H10.iloadN 22 dRk_21 rfl
      have H12 := H11.sipush 25 (8192 : Int32) dRk_22
      have H13 := H12.iadd 26 dRk_25
      have H14 := H13.istoreN 27 dRk_26 (L' := #[.val (.int c), .val (.int (c + (8192 : Int32)))]) rfl
      have H15 := H14.goto 32 dRk_27
      have H16 := H15.iloadN 33 dRk_32 rfl
      exact H16.retI rfl rfl (by simp) dRk_33 (by decide) (by decide) (⟨by simp [rnk, j0, j1], rfl⟩)
  · have H17 := H2.icmpNo 6 dRk_3 (XT.ii_lt_f j0)
    have H18 := H17.iloadN 7 dRk_6 rfl
    have H19 := H18.sipush 10 (2048 : Int32) dRk_7
    have H20 := H19.isub 11 dRk_10
    have H21 := H20.istoreN 12 dRk_11 (L' := #[.val (.int c), .val (.int (c - (2048 : Int32)))]) rfl
    have H22 := H21.goto 32 dRk_12
    have H23 := H22.iloadN 33 dRk_32 rfl
    exact H23.retI rfl rfl (by simp) dRk_33 (by decide) (by decide) (⟨by simp [rnk, j0], rfl⟩)
set_option maxRecDepth 65536 in
set_option maxHeartbeats 4000000 in
theorem metIC {Z : State} {a0 : Array Value} {n0 : Nat} {h : Heap} (hw : ∀ d ∈ tables_1, d.before a0 Z = true) (hO : Old Z n0 h) (x y : Int32) :
    Met Z EL1 n0 ⟨"java/lang/Integer", "compare", "(II)I"⟩ jdk_33_method_40_code 2 (some .int) rm0 #[.int x, .int y] h [] (fun v h' => v = some (.int (icmp x y)) ∧ h' = h) := by
  have w : ∀ (i : Nat) {d : Jvm.Cond}, tables_1[i]? = some d → d.before a0 Z = true := fun i d q => hw d (List.mem_of_getElem? q)
  have hEL : EW Z a0 EL1 := EW.cons (w 27 rfl) (by simp) EW.nil
  refine Met.of_walk (a0 := a0) pnIn hEL hO all0 (L0 := #[.val (.int x), .val (.int y)]) (fun m => by first | (simp [entryFrame, mkF, argsToLocals, Value.category, maxLocals]; done) | rfl) rfl ?_
  intro k H0
  have H1 := H0.iloadN 1 dIC_0 rfl
  have H2 := H1.iloadN 2 dIC_1 rfl
  by_cases j0 : x < y
  · have H3 := H2.icmpNo 5 dIC_2 (XT.ii_ge_f j0)
    have H4 := H3.iconst 6 (-1 : Int32) dIC_5
    have H5 := H4.goto 19 dIC_6
    exact H5.retI rfl rfl (by simp) dIC_19 (by decide) (by decide) (⟨by simp [icmp, j0], rfl⟩)
  · have H6 := H2.icmpYes 9 dIC_2 (XT.ii_ge_t j0)
    have H7 := H6.iloadN 10 dIC_9 rfl
    have H8 := H7.iloadN 11 dIC_10 rfl
    by_cases j1 : x = y
    · have H9 := H8.icmpNo 14 dIC_11 (XT.ii_ne_f j1)
      have H10 := H9.iconst 15 (0 : Int32) dIC_14
      have H11 := H10.goto 19 dIC_15
      exact H11.retI rfl rfl (by simp) dIC_19 (by decide) (by decide) (⟨by simp [icmp, j0, j1], rfl⟩)
    · have H12 := H8.icmpYes 18 dIC_11 (XT.ii_ne_t j1)
      have H13 := H12.iconst 19 (1 : Int32) dIC_18
      exact H13.retI rfl rfl (by simp) dIC_19 (by decide) (by decide) (⟨by simp [icmp, j0, j1], rfl⟩)
set_option maxRecDepth 65536 in
set_option maxHeartbeats 4000000 in
theorem metMin {Z : State} {a0 : Array Value} {n0 : Nat} {h : Heap} (hw : ∀ d ∈ tables_1, d.before a0 Z = true) (hO : Old Z n0 h) (x y : Int32) :
    Met Z EL1 n0 ⟨"java/lang/Math", "min", "(II)I"⟩ jdk_29_method_69_code 2 (some .int) rm0 #[.int x, .int y] h [] (fun v h' => v = some (.int (if y < x then y else x)) ∧ h' = h) := by
  have w : ∀ (i : Nat) {d : Jvm.Cond}, tables_1[i]? = some d → d.before a0 Z = true := fun i d q => hw d (List.mem_of_getElem? q)
  have hEL : EW Z a0 EL1 := EW.cons (w 27 rfl) (by simp) EW.nil
  refine Met.of_walkP (a0 := a0) pnMa hEL hO all0 (L0 := #[.val (.int x), .val (.int y)]) (fun m => by first | (simp [entryFrame, mkF, argsToLocals, Value.category, maxLocals]; done) | rfl) rfl ?_
  intro k H0
  have H1 := H0.iloadN 1 dMin_0 rfl
  have H2 := H1.iloadN 2 dMin_1 rfl
  by_cases j0 : y < x
  · have H3 := H2.icmpYes 9 dMin_2 (XT.ii_gt_t j0)
    have H4 := H3.iloadN 10 dMin_9 rfl
    exact H4.retI rfl rfl (by simp) dMin_10 (by decide) (by decide) (⟨by simp [j0], rfl⟩)
  · have H5 := H2.icmpNo 5 dMin_2 (XT.ii_gt_f j0)
    have H6 := H5.iloadN 6 dMin_5 rfl
    have H7 := H6.goto 10 dMin_6
    exact H7.retI rfl rfl (by simp) dMin_10 (by decide) (by decide) (⟨by simp [j0], rfl⟩)
set_option maxRecDepth 65536 in
set_option maxHeartbeats 4000000 in
theorem metSg {Z : State} {a0 : Array Value} {n0 : Nat} {h : Heap} (hw : ∀ d ∈ tables_1, d.before a0 Z = true) (hO : Old Z n0 h) (x : Int32) :
    Met Z EL1 n0 ⟨"com/example/load_then_swap/loadthenswap/input/KeyOrderComparePinLaw", "sgn", "(I)I"⟩ method_7_code 1 (some .int) rm0 #[.int x] h [] (fun v h' => v = some (.int (sg x)) ∧ h' = h) := by
  have w : ∀ (i : Nat) {d : Jvm.Cond}, tables_1[i]? = some d → d.before a0 Z = true := fun i d q => hw d (List.mem_of_getElem? q)
  have hEL : EW Z a0 EL1 := EW.cons (w 27 rfl) (by simp) EW.nil
  refine Met.of_walk (a0 := a0) pnL hEL hO all0 (L0 := #[.val (.int x)]) (fun m => by first | (simp [entryFrame, mkF, argsToLocals, Value.category, maxLocals]; done) | rfl) rfl ?_
  intro k H0
  have H1 := H0.iloadN 1 dSg_0 rfl
  by_cases j0 : x < (0 : Int32)
  · have H2 := H1.ifNo 4 dSg_1 (XT.i0_ge_f j0)
    have H3 := H2.iconst 5 (-1 : Int32) dSg_4
    exact H3.retI rfl rfl (by simp) dSg_5 (by decide) (by decide) (⟨by simp [sg, j0], rfl⟩)
  · have H4 := H1.ifYes 6 dSg_1 (XT.i0_ge_t j0)
    have H5 := H4.iloadN 7 dSg_6 rfl
    by_cases j1 : (0 : Int32) < x
    · have H6 := H5.ifNo 10 dSg_7 (XT.i0_le_f j1)
      have H7 := H6.iconst 11 (1 : Int32) dSg_10
      exact H7.retI rfl rfl (by simp) dSg_11 (by decide) (by decide) (⟨by simp [sg, j0, j1], rfl⟩)
    · have H8 := H5.ifYes 12 dSg_7 (XT.i0_le_t j1)
      have H9 := H8.iconst 13 (0 : Int32) dSg_12
      exact H9.retI rfl rfl (by simp) dSg_13 (by decide) (by decide) (⟨by simp [sg, j0, j1], rfl⟩)
set_option maxRecDepth 65536 in
set_option maxHeartbeats 4000000 in
theorem metCmp {Z : State} {a0 : Array Value} {n0 : Nat} {h : Heap} (hw : ∀ d ∈ tables_1, d.before a0 Z = true) (hO : Old Z n0 h) (x y : Int32) :
    Met Z EL1 n0 ⟨"com/example/load_then_swap/loadthenswap/input/KeyOrderComparePinLaw", "cmp", "(II)I"⟩ method_6_code 2 (some .int) rm0 #[.int x, .int y] h [] (fun v h' => v = some (.int (ccmp x y)) ∧ h' = h) := by
  have w : ∀ (i : Nat) {d : Jvm.Cond}, tables_1[i]? = some d → d.before a0 Z = true := fun i d q => hw d (List.mem_of_getElem? q)
  have hEL : EW Z a0 EL1 := EW.cons (w 27 rfl) (by simp) EW.nil
  refine Met.of_walk (a0 := a0) pnL hEL hO all0 (L0 := #[.val (.int x), .val (.int y)]) (fun m => by first | (simp [entryFrame, mkF, argsToLocals, Value.category, maxLocals]; done) | rfl) rfl ?_
  intro k H0
  have H1 := H0.iloadN 1 dCmp_0 rfl
  have H2 := H1.iloadN 2 dCmp_1 rfl
  by_cases j0 : x < y
  · have H3 := H2.icmpNo 5 dCmp_2 (XT.ii_ge_f j0)
    have H4 := H3.iconst 6 (-1 : Int32) dCmp_5
    exact H4.retI rfl rfl (by simp) dCmp_6 (by decide) (by decide) (⟨by simp [ccmp, j0], rfl⟩)
  · have H5 := H2.icmpYes 7 dCmp_2 (XT.ii_ge_t j0)
    have H6 := H5.iloadN 8 dCmp_7 rfl
    have H7 := H6.iloadN 9 dCmp_8 rfl
    by_cases j1 : y < x
    · have H8 := H7.icmpNo 12 dCmp_9 (XT.ii_le_f j1)
      have H9 := H8.iconst 13 (1 : Int32) dCmp_12
      exact H9.retI rfl rfl (by simp) dCmp_13 (by decide) (by decide) (⟨by simp [ccmp, j0, j1], rfl⟩)
    · have H10 := H7.icmpYes 14 dCmp_9 (XT.ii_le_t j1)
      have H11 := H10.iconst 15 (0 : Int32) dCmp_14
      exact H11.retI rfl rfl (by simp) dCmp_15 (by decide) (by decide) (⟨by simp [ccmp, j0, j1], rfl⟩)
abbrev rmR : Room := { frames := 1, cells := 0, slots := 0, locals := 14 }
set_option maxRecDepth 65536 in
set_option maxHeartbeats 4000000 in
theorem metRf {Z : State} {a0 : Array Value} {n0 : Nat} {h : Heap} (hw : ∀ d ∈ tables_1, d.before a0 Z = true) (hO : Old Z n0 h) (na a0' a1' nb b0' b1' : Int32) :
    Met Z EL1 n0 ⟨"com/example/load_then_swap/loadthenswap/input/KeyOrderComparePinLaw", "ref", "(IIIIII)I"⟩ method_8_code 6 (some .int) rmR #[.int na, .int a0', .int a1', .int nb, .int b0', .int b1'] h [] (fun v h' => v = some (.int (rfd na a0' a1' nb b0' b1')) ∧ h' = h) := by
  have w : ∀ (i : Nat) {d : Jvm.Cond}, tables_1[i]? = some d → d.before a0 Z = true := fun i d q => hw d (List.mem_of_getElem? q)
  have hEL : EW Z a0 EL1 := EW.cons (w 27 rfl) (by simp) EW.nil
  refine Met.of_walk (a0 := a0) pnL hEL hO all0 (L0 := #[.val (.int na), .val (.int a0'), .val (.int a1'), .val (.int nb), .val (.int b0'), .val (.int b1')]) (fun m => by first | (simp [entryFrame, mkF, argsToLocals, Value.category, maxLocals]; done) | rfl) rfl ?_
  intro k H0
  have H1 := H0.iloadN 1 dRf_0 rfl
  have H2 := H1.iconst 2 (1 : Int32) dRf_1
  by_cases j0 : na < (1 : Int32)
  · have H3 := H2.icmpYes 46 dRf_2 (XT.ii_lt_t j0)
    have H4 := H3.iloadN 47 dRf_46 rfl
    have H5 := H4.iloadN 48 dRf_47 rfl
    obtain ⟨_, h1, ⟨rfl, e1⟩, K1, H6⟩ := H5.callS 51 (z := ⟨"com/example/load_then_swap/loadthenswap/input/KeyOrderComparePinLaw", "cmp", "(II)I"⟩) (w 64 rfl) (w 65 rfl) (w 2 rfl) (w 66 rfl) (by decide) (argsL := [(.int na), (.int nb)]) (rest := []) (Paid.of_met (W := 0) (metCmp hw H5.oldO na nb) (w 66 rfl) (w 2 rfl) hEL (by decide) (by decide)) (lenOf pd_4 rfl) rfl (Nat.le_of_eq rfl) dRf_48 (by decide) (by decide) all0
    obtain rfl := e1.symm
    exact H6.retI rfl rfl (by simp) dRf_51 (by decide) (by decide) ⟨by simp [rfd, j0], rfl⟩
  · have H7 := H2.icmpNo 5 dRf_2 (XT.ii_lt_f j0)
    have H8 := H7.iloadN 6 dRf_5 rfl
    have H9 := H8.iconst 7 (1 : Int32) dRf_6
    by_cases j1 : nb < (1 : Int32)
    · have H10 := H9.icmpYes 46 dRf_7 (XT.ii_lt_t j1)
      have H11 := H10.iloadN 47 dRf_46 rfl
      have H12 := H11.iloadN 48 dRf_47 rfl
      obtain ⟨_, h1, ⟨rfl, e1⟩, K1, H13⟩ := H12.callS 51 (z := ⟨"com/example/load_then_swap/loadthenswap/input/KeyOrderComparePinLaw", "cmp", "(II)I"⟩) (w 64 rfl) (w 65 rfl) (w 2 rfl) (w 66 rfl) (by decide) (argsL := [(.int na), (.int nb)]) (rest := []) (Paid.of_met (W := 0) (metCmp hw H12.oldO na nb) (w 66 rfl) (w 2 rfl) hEL (by decide) (by decide)) (lenOf pd_4 rfl) rfl (Nat.le_of_eq rfl) dRf_48 (by decide) (by decide) all0
      obtain rfl := e1.symm
      exact H13.retI rfl rfl (by simp) dRf_51 (by decide) (by decide) ⟨by simp [rfd, j0, j1], rfl⟩
    · have H14 := H9.icmpNo 10 dRf_7 (XT.ii_lt_f j1)
      have H15 := H14.iloadN 11 dRf_10 rfl
      have H16 := H15.iload 13 dRf_11 rfl
      by_cases j2 : a0' = b0'
      · have H17 := H16.icmpYes 23 dRf_13 (XT.ii_eq_t j2)
        have H18 := H17.iloadN 24 dRf_23 rfl
        have H19 := H18.iconst 25 (2 : Int32) dRf_24
        by_cases j3 : na < (2 : Int32)
        · have H20 := H19.icmpYes 46 dRf_25 (XT.ii_lt_t j3)
          have H21 := H20.iloadN 47 dRf_46 rfl
          have H22 := H21.iloadN 48 dRf_47 rfl
          obtain ⟨_, h1, ⟨rfl, e1⟩, K1, H23⟩ := H22.callS 51 (z := ⟨"com/example/load_then_swap/loadthenswap/input/KeyOrderComparePinLaw", "cmp", "(II)I"⟩) (w 64 rfl) (w 65 rfl) (w 2 rfl) (w 66 rfl) (by decide) (argsL := [(.int na), (.int nb)]) (rest := []) (Paid.of_met (W := 0) (metCmp hw H22.oldO na nb) (w 66 rfl) (w 2 rfl) hEL (by decide) (by decide)) (lenOf pd_4 rfl) rfl (Nat.le_of_eq rfl) dRf_48 (by decide) (by decide) all0
          obtain rfl := e1.symm
          exact H23.retI rfl rfl (by simp) dRf_51 (by decide) (by decide) ⟨by simp [rfd, j0, j1, j2, j3], rfl⟩
        · have H24 := H19.icmpNo 28 dRf_25 (XT.ii_lt_f j3)
          have H25 := H24.iloadN 29 dRf_28 rfl
          have H26 := H25.iconst 30 (2 : Int32) dRf_29
          by_cases j4 : nb < (2 : Int32)
          · have H27 := H26.icmpYes 46 dRf_30 (XT.ii_lt_t j4)
            have H28 := H27.iloadN 47 dRf_46 rfl
            have H29 := H28.iloadN 48 dRf_47 rfl
            obtain ⟨_, h1, ⟨rfl, e1⟩, K1, H30⟩ := H29.callS 51 (z := ⟨"com/example/load_then_swap/loadthenswap/input/KeyOrderComparePinLaw", "cmp", "(II)I"⟩) (w 64 rfl) (w 65 rfl) (w 2 rfl) (w 66 rfl) (by decide) (argsL := [(.int na), (.int nb)]) (rest := []) (Paid.of_met (W := 0) (metCmp hw H29.oldO na nb) (w 66 rfl) (w 2 rfl) hEL (by decide) (by decide)) (lenOf pd_4 rfl) rfl (Nat.le_of_eq rfl) dRf_48 (by decide) (by decide) all0
            obtain rfl := e1.symm
            exact H30.retI rfl rfl (by simp) dRf_51 (by decide) (by decide) ⟨by simp [rfd, j0, j1, j2, j3, j4], rfl⟩
          · have H31 := H26.icmpNo 33 dRf_30 (XT.ii_lt_f j4)
            have H32 := H31.iloadN 34 dRf_33 rfl
            have H33 := H32.iload 36 dRf_34 rfl
            by_cases j5 : a1' = b1'
            · have H34 := H33.icmpYes 46 dRf_36 (XT.ii_eq_t j5)
              have H35 := H34.iloadN 47 dRf_46 rfl
              have H36 := H35.iloadN 48 dRf_47 rfl
              obtain ⟨_, h1, ⟨rfl, e1⟩, K1, H37⟩ := H36.callS 51 (z := ⟨"com/example/load_then_swap/loadthenswap/input/KeyOrderComparePinLaw", "cmp", "(II)I"⟩) (w 64 rfl) (w 65 rfl) (w 2 rfl) (w 66 rfl) (by decide) (argsL := [(.int na), (.int nb)]) (rest := []) (Paid.of_met (W := 0) (metCmp hw H36.oldO na nb) (w 66 rfl) (w 2 rfl) hEL (by decide) (by decide)) (lenOf pd_4 rfl) rfl (Nat.le_of_eq rfl) dRf_48 (by decide) (by decide) all0
              obtain rfl := e1.symm
              exact H37.retI rfl rfl (by simp) dRf_51 (by decide) (by decide) ⟨by simp [rfd, j0, j1, j2, j3, j4, j5], rfl⟩
            · have H38 := H33.icmpNo 39 dRf_36 (XT.ii_eq_f j5)
              have H39 := H38.iloadN 40 dRf_39 rfl
              have H40 := H39.iload 42 dRf_40 rfl
              obtain ⟨_, h1, ⟨rfl, e1⟩, K1, H41⟩ := H40.callS 45 (z := ⟨"com/example/load_then_swap/loadthenswap/input/KeyOrderComparePinLaw", "cmp", "(II)I"⟩) (w 64 rfl) (w 65 rfl) (w 2 rfl) (w 66 rfl) (by decide) (argsL := [(.int a1'), (.int b1')]) (rest := []) (Paid.of_met (W := 0) (metCmp hw H40.oldO a1' b1') (w 66 rfl) (w 2 rfl) hEL (by decide) (by decide)) (lenOf pd_4 rfl) rfl (Nat.le_of_eq rfl) dRf_42 (by decide) (by decide) all0
              obtain rfl := e1.symm
              exact H41.retI rfl rfl (by simp) dRf_45 (by decide) (by decide) ⟨by simp [rfd, j0, j1, j2, j3, j4, j5], rfl⟩
      · have H42 := H16.icmpNo 16 dRf_13 (XT.ii_eq_f j2)
        have H43 := H42.iloadN 17 dRf_16 rfl
        have H44 := H43.iload 19 dRf_17 rfl
        obtain ⟨_, h1, ⟨rfl, e1⟩, K1, H45⟩ := H44.callS 22 (z := ⟨"com/example/load_then_swap/loadthenswap/input/KeyOrderComparePinLaw", "cmp", "(II)I"⟩) (w 64 rfl) (w 65 rfl) (w 2 rfl) (w 66 rfl) (by decide) (argsL := [(.int a0'), (.int b0')]) (rest := []) (Paid.of_met (W := 0) (metCmp hw H44.oldO a0' b0') (w 66 rfl) (w 2 rfl) hEL (by decide) (by decide)) (lenOf pd_4 rfl) rfl (Nat.le_of_eq rfl) dRf_19 (by decide) (by decide) all0
        obtain rfl := e1.symm
        exact H45.retI rfl rfl (by simp) dRf_22 (by decide) (by decide) ⟨by simp [rfd, j0, j1, j2], rfl⟩
set_option maxRecDepth 65536 in
set_option maxHeartbeats 4000000 in
theorem metPt0 {Z : State} {a0 : Array Value} {n0 : Nat} {h : Heap} (hw : ∀ d ∈ tables_1, d.before a0 Z = true) (hO : Old Z n0 h) {u : Addr} {ku : ClassId} {c : Int32} (hc : CPt c) (hu : n0 ≤ u) (V : Arv Z h u ku .char 4 (([] : List Int32).map Value.int) (.int 0)) :
    Met Z EL1 n0 ⟨"com/example/load_then_swap/loadthenswap/input/KeyOrderComparePinLaw", "put", "([CII)I"⟩ method_3_code 4 (some .int) rm0 #[.ref u, .int (0 : Int32), .int c] h [u] (fun v h' => (c < 65536 ∧ v = some (.int 1) ∧ Arv Z h' u ku .char 4 (([c] : List Int32).map Value.int) (.int 0)) ∨ (¬ c < 65536 ∧ v = some (.int 2) ∧ Arv Z h' u ku .char 4 (([hsU c, lsU c] : List Int32).map Value.int) (.int 0))) := by
  have w : ∀ (i : Nat) {d : Jvm.Cond}, tables_1[i]? = some d → d.before a0 Z = true := fun i d q => hw d (List.mem_of_getElem? q)
  have hEL : EW Z a0 EL1 := EW.cons (w 27 rfl) (by simp) EW.nil
  have V0 : Arv Z h u ku .char 4 (([0, 0, 0, 0] : List Int32).map Value.int) (.int 0) := V.pad (fun i => by rcases i with _ | _ | _ | _ | i <;> rfl)
  refine Met.of_walk (a0 := a0) pnL hEL hO (allS ⟨V.lt, hu⟩ all0) (L0 := #[.val (.ref u), .val (.int (0 : Int32)), .val (.int c), .unset]) (fun m => by first | (simp [entryFrame, mkF, argsToLocals, Value.category, maxLocals]; done) | rfl) rfl ?_
  intro k H0
  have H1 := H0.iloadN 1 dPt_0 rfl
  have H2 := H1.ldcI 3 (w 70 rfl) dPt_1
  by_cases e : c < 65536
  · have H3 := H2.icmpNo 6 dPt_3 (XT.ii_ge_f e)
    have H4 := H3.aloadN 7 dPt_6 rfl
    have H5 := H4.iloadN 8 dPt_7 rfl
    have H6 := H5.iloadN 9 dPt_8 rfl
    have H7 := H6.i2c 10 dPt_9
    have cc : C16 c := ⟨by rw [Int32.lt_iff_toInt_lt]; have := hc.1; have e0 : (0 : Int32).toInt = 0 := rfl; omega, by rw [Int32.lt_iff_toInt_lt] at e ⊢; have e1 : (65536 : Int32).toInt = 65536 := rfl; have e2 : (65535 : Int32).toInt = 65535 := rfl; omega⟩
    rw [i2c_id cc] at H7
    obtain ⟨h1, K1, V1, H8⟩ := H7.stC 11 V0 0 ⟨by decide, by decide⟩ rfl (by simp) cc.nar dPt_10 (by simp)
    have H9 := H8.iloadN 12 dPt_11 rfl
    have H10 := H9.iconst 13 (1 : Int32) dPt_12
    have H11 := H10.iadd 14 dPt_13
    exact H11.retI rfl rfl (by simp) dPt_14 (by decide) (by decide) (Or.inl ⟨e, rfl, V1.pad (fun i => by rcases i with _ | _ | _ | _ | i <;> rfl)⟩)
  · have H12 := H2.icmpYes 15 dPt_3 (XT.ii_ge_t e)
    have H13 := H12.iloadN 16 dPt_15 rfl
    have H14 := H13.ldcI 18 (w 70 rfl) dPt_16
    have H15 := H14.isub 19 dPt_18
    have H16 := H15.istoreN 20 dPt_19 (L' := #[.val (.ref u), .val (.int (0 : Int32)), .val (.int c), .val (.int (c - (65536 : Int32)))]) rfl
    have H17 := H16.aloadN 21 dPt_20 rfl
    have H18 := H17.iloadN 22 dPt_21 rfl
    have H19 := H18.ldcI 24 (w 6 rfl) dPt_22
    have H20 := H19.iloadN 25 dPt_24 rfl
    have H21 := H20.bipush 27 (10 : Int32) dPt_25
    have H22 := H21.ishr 28 dPt_27
    have H23 := H22.iadd 29 dPt_28
    have H24 := H23.i2c 30 dPt_29
    obtain ⟨h1, K1, V1, H25⟩ := H24.stC 31 V0 0 ⟨by decide, by decide⟩ rfl (by simp) (c16m _).nar dPt_30 (by simp)
    have H26 := H25.aloadN 32 dPt_31 rfl
    have H27 := H26.iloadN 33 dPt_32 rfl
    have H28 := H27.iconst 34 (1 : Int32) dPt_33
    have H29 := H28.iadd 35 dPt_34
    have H30 := H29.ldcI 37 (w 109 rfl) dPt_35
    have H31 := H30.iloadN 38 dPt_37 rfl
    have H32 := H31.sipush 41 (1023 : Int32) dPt_38
    have H33 := H32.iand 42 dPt_41
    have H34 := H33.iadd 43 dPt_42
    have H35 := H34.i2c 44 dPt_43
    obtain ⟨h2, K2, V2, H36⟩ := H35.stC 45 V1 1 ⟨by decide, by decide⟩ rfl (by simp) (c16m _).nar dPt_44 (by simp)
    have H37 := H36.iloadN 46 dPt_45 rfl
    have H38 := H37.iconst 47 (2 : Int32) dPt_46
    have H39 := H38.iadd 48 dPt_47
    exact H39.retI rfl rfl (by simp) dPt_48 (by decide) (by decide) (Or.inr ⟨e, rfl, V2.pad (fun i => by rcases i with _ | _ | _ | _ | i <;> rfl)⟩)
set_option maxRecDepth 65536 in
set_option maxHeartbeats 4000000 in
theorem metPt1 {Z : State} {a0 : Array Value} {n0 : Nat} {h : Heap} (hw : ∀ d ∈ tables_1, d.before a0 Z = true) (hO : Old Z n0 h) {u : Addr} {ku : ClassId} {y0 : Int32} {c : Int32} (hc : CPt c) (hu : n0 ≤ u) (V : Arv Z h u ku .char 4 (([y0] : List Int32).map Value.int) (.int 0)) :
    Met Z EL1 n0 ⟨"com/example/load_then_swap/loadthenswap/input/KeyOrderComparePinLaw", "put", "([CII)I"⟩ method_3_code 4 (some .int) rm0 #[.ref u, .int (1 : Int32), .int c] h [u] (fun v h' => (c < 65536 ∧ v = some (.int 2) ∧ Arv Z h' u ku .char 4 (([y0, c] : List Int32).map Value.int) (.int 0)) ∨ (¬ c < 65536 ∧ v = some (.int 3) ∧ Arv Z h' u ku .char 4 (([y0, hsU c, lsU c] : List Int32).map Value.int) (.int 0))) := by
  have w : ∀ (i : Nat) {d : Jvm.Cond}, tables_1[i]? = some d → d.before a0 Z = true := fun i d q => hw d (List.mem_of_getElem? q)
  have hEL : EW Z a0 EL1 := EW.cons (w 27 rfl) (by simp) EW.nil
  have V0 : Arv Z h u ku .char 4 (([y0, 0, 0, 0] : List Int32).map Value.int) (.int 0) := V.pad (fun i => by rcases i with _ | _ | _ | _ | i <;> rfl)
  refine Met.of_walk (a0 := a0) pnL hEL hO (allS ⟨V.lt, hu⟩ all0) (L0 := #[.val (.ref u), .val (.int (1 : Int32)), .val (.int c), .unset]) (fun m => by first | (simp [entryFrame, mkF, argsToLocals, Value.category, maxLocals]; done) | rfl) rfl ?_
  intro k H0
  have H1 := H0.iloadN 1 dPt_0 rfl
  have H2 := H1.ldcI 3 (w 70 rfl) dPt_1
  by_cases e : c < 65536
  · have H3 := H2.icmpNo 6 dPt_3 (XT.ii_ge_f e)
    have H4 := H3.aloadN 7 dPt_6 rfl
    have H5 := H4.iloadN 8 dPt_7 rfl
    have H6 := H5.iloadN 9 dPt_8 rfl
    have H7 := H6.i2c 10 dPt_9
    have cc : C16 c := ⟨by rw [Int32.lt_iff_toInt_lt]; have := hc.1; have e0 : (0 : Int32).toInt = 0 := rfl; omega, by rw [Int32.lt_iff_toInt_lt] at e ⊢; have e1 : (65536 : Int32).toInt = 65536 := rfl; have e2 : (65535 : Int32).toInt = 65535 := rfl; omega⟩
    rw [i2c_id cc] at H7
    obtain ⟨h1, K1, V1, H8⟩ := H7.stC 11 V0 1 ⟨by decide, by decide⟩ rfl (by simp) cc.nar dPt_10 (by simp)
    have H9 := H8.iloadN 12 dPt_11 rfl
    have H10 := H9.iconst 13 (1 : Int32) dPt_12
    have H11 := H10.iadd 14 dPt_13
    exact H11.retI rfl rfl (by simp) dPt_14 (by decide) (by decide) (Or.inl ⟨e, rfl, V1.pad (fun i => by rcases i with _ | _ | _ | _ | i <;> rfl)⟩)
  · have H12 := H2.icmpYes 15 dPt_3 (XT.ii_ge_t e)
    have H13 := H12.iloadN 16 dPt_15 rfl
    have H14 := H13.ldcI 18 (w 70 rfl) dPt_16
    have H15 := H14.isub 19 dPt_18
    have H16 := H15.istoreN 20 dPt_19 (L' := #[.val (.ref u), .val (.int (1 : Int32)), .val (.int c), .val (.int (c - (65536 : Int32)))]) rfl
    have H17 := H16.aloadN 21 dPt_20 rfl
    have H18 := H17.iloadN 22 dPt_21 rfl
    have H19 := H18.ldcI 24 (w 6 rfl) dPt_22
    have H20 := H19.iloadN 25 dPt_24 rfl
    have H21 := H20.bipush 27 (10 : Int32) dPt_25
    have H22 := H21.ishr 28 dPt_27
    have H23 := H22.iadd 29 dPt_28
    have H24 := H23.i2c 30 dPt_29
    obtain ⟨h1, K1, V1, H25⟩ := H24.stC 31 V0 1 ⟨by decide, by decide⟩ rfl (by simp) (c16m _).nar dPt_30 (by simp)
    have H26 := H25.aloadN 32 dPt_31 rfl
    have H27 := H26.iloadN 33 dPt_32 rfl
    have H28 := H27.iconst 34 (1 : Int32) dPt_33
    have H29 := H28.iadd 35 dPt_34
    have H30 := H29.ldcI 37 (w 109 rfl) dPt_35
    have H31 := H30.iloadN 38 dPt_37 rfl
    have H32 := H31.sipush 41 (1023 : Int32) dPt_38
    have H33 := H32.iand 42 dPt_41
    have H34 := H33.iadd 43 dPt_42
    have H35 := H34.i2c 44 dPt_43
    obtain ⟨h2, K2, V2, H36⟩ := H35.stC 45 V1 2 ⟨by decide, by decide⟩ rfl (by simp) (c16m _).nar dPt_44 (by simp)
    have H37 := H36.iloadN 46 dPt_45 rfl
    have H38 := H37.iconst 47 (2 : Int32) dPt_46
    have H39 := H38.iadd 48 dPt_47
    exact H39.retI rfl rfl (by simp) dPt_48 (by decide) (by decide) (Or.inr ⟨e, rfl, V2.pad (fun i => by rcases i with _ | _ | _ | _ | i <;> rfl)⟩)
set_option maxRecDepth 65536 in
set_option maxHeartbeats 4000000 in
theorem metPt2 {Z : State} {a0 : Array Value} {n0 : Nat} {h : Heap} (hw : ∀ d ∈ tables_1, d.before a0 Z = true) (hO : Old Z n0 h) {u : Addr} {ku : ClassId} {y0 y1 : Int32} {c : Int32} (hc : CPt c) (hu : n0 ≤ u) (V : Arv Z h u ku .char 4 (([y0, y1] : List Int32).map Value.int) (.int 0)) :
    Met Z EL1 n0 ⟨"com/example/load_then_swap/loadthenswap/input/KeyOrderComparePinLaw", "put", "([CII)I"⟩ method_3_code 4 (some .int) rm0 #[.ref u, .int (2 : Int32), .int c] h [u] (fun v h' => (c < 65536 ∧ v = some (.int 3) ∧ Arv Z h' u ku .char 4 (([y0, y1, c] : List Int32).map Value.int) (.int 0)) ∨ (¬ c < 65536 ∧ v = some (.int 4) ∧ Arv Z h' u ku .char 4 (([y0, y1, hsU c, lsU c] : List Int32).map Value.int) (.int 0))) := by
  have w : ∀ (i : Nat) {d : Jvm.Cond}, tables_1[i]? = some d → d.before a0 Z = true := fun i d q => hw d (List.mem_of_getElem? q)
  have hEL : EW Z a0 EL1 := EW.cons (w 27 rfl) (by simp) EW.nil
  have V0 : Arv Z h u ku .char 4 (([y0, y1, 0, 0] : List Int32).map Value.int) (.int 0) := V.pad (fun i => by rcases i with _ | _ | _ | _ | i <;> rfl)
  refine Met.of_walk (a0 := a0) pnL hEL hO (allS ⟨V.lt, hu⟩ all0) (L0 := #[.val (.ref u), .val (.int (2 : Int32)), .val (.int c), .unset]) (fun m => by first | (simp [entryFrame, mkF, argsToLocals, Value.category, maxLocals]; done) | rfl) rfl ?_
  intro k H0
  have H1 := H0.iloadN 1 dPt_0 rfl
  have H2 := H1.ldcI 3 (w 70 rfl) dPt_1
  by_cases e : c < 65536
  · have H3 := H2.icmpNo 6 dPt_3 (XT.ii_ge_f e)
    have H4 := H3.aloadN 7 dPt_6 rfl
    have H5 := H4.iloadN 8 dPt_7 rfl
    have H6 := H5.iloadN 9 dPt_8 rfl
    have H7 := H6.i2c 10 dPt_9
    have cc : C16 c := ⟨by rw [Int32.lt_iff_toInt_lt]; have := hc.1; have e0 : (0 : Int32).toInt = 0 := rfl; omega, by rw [Int32.lt_iff_toInt_lt] at e ⊢; have e1 : (65536 : Int32).toInt = 65536 := rfl; have e2 : (65535 : Int32).toInt = 65535 := rfl; omega⟩
    rw [i2c_id cc] at H7
    obtain ⟨h1, K1, V1, H8⟩ := H7.stC 11 V0 2 ⟨by decide, by decide⟩ rfl (by simp) cc.nar dPt_10 (by simp)
    have H9 := H8.iloadN 12 dPt_11 rfl
    have H10 := H9.iconst 13 (1 : Int32) dPt_12
    have H11 := H10.iadd 14 dPt_13
    exact H11.retI rfl rfl (by simp) dPt_14 (by decide) (by decide) (Or.inl ⟨e, rfl, V1.pad (fun i => by rcases i with _ | _ | _ | _ | i <;> rfl)⟩)
  · have H12 := H2.icmpYes 15 dPt_3 (XT.ii_ge_t e)
    have H13 := H12.iloadN 16 dPt_15 rfl
    have H14 := H13.ldcI 18 (w 70 rfl) dPt_16
    have H15 := H14.isub 19 dPt_18
    have H16 := H15.istoreN 20 dPt_19 (L' := #[.val (.ref u), .val (.int (2 : Int32)), .val (.int c), .val (.int (c - (65536 : Int32)))]) rfl
    have H17 := H16.aloadN 21 dPt_20 rfl
    have H18 := H17.iloadN 22 dPt_21 rfl
    have H19 := H18.ldcI 24 (w 6 rfl) dPt_22
    have H20 := H19.iloadN 25 dPt_24 rfl
    have H21 := H20.bipush 27 (10 : Int32) dPt_25
    have H22 := H21.ishr 28 dPt_27
    have H23 := H22.iadd 29 dPt_28
    have H24 := H23.i2c 30 dPt_29
    obtain ⟨h1, K1, V1, H25⟩ := H24.stC 31 V0 2 ⟨by decide, by decide⟩ rfl (by simp) (c16m _).nar dPt_30 (by simp)
    have H26 := H25.aloadN 32 dPt_31 rfl
    have H27 := H26.iloadN 33 dPt_32 rfl
    have H28 := H27.iconst 34 (1 : Int32) dPt_33
    have H29 := H28.iadd 35 dPt_34
    have H30 := H29.ldcI 37 (w 109 rfl) dPt_35
    have H31 := H30.iloadN 38 dPt_37 rfl
    have H32 := H31.sipush 41 (1023 : Int32) dPt_38
    have H33 := H32.iand 42 dPt_41
    have H34 := H33.iadd 43 dPt_42
    have H35 := H34.i2c 44 dPt_43
    obtain ⟨h2, K2, V2, H36⟩ := H35.stC 45 V1 3 ⟨by decide, by decide⟩ rfl (by simp) (c16m _).nar dPt_44 (by simp)
    have H37 := H36.iloadN 46 dPt_45 rfl
    have H38 := H37.iconst 47 (2 : Int32) dPt_46
    have H39 := H38.iadd 48 dPt_47
    exact H39.retI rfl rfl (by simp) dPt_48 (by decide) (by decide) (Or.inr ⟨e, rfl, V2.pad (fun i => by rcases i with _ | _ | _ | _ | i <;> rfl)⟩)
abbrev rmX : Room := { frames := 6, cells := 6, slots := 24, locals := 90 }
set_option maxRecDepth 65536 in
set_option maxHeartbeats 4000000 in
theorem metXa0 {Z : State} {a0 : Array Value} {n0 : Nat} {h : Heap} (hw : ∀ d ∈ tables_1, d.before a0 Z = true) (hO : Old Z n0 h) {zc : Int32} (Sc : Sta Z Z.heap ST "COMPACT_STRINGS" "Z" (.int zc)) (hzc : ¬ zc = 0) (S_AD : Sta Z Z.heap "java/lang/StringUTF16" "$assertionsDisabled" "Z" (.int 1)) (S_HI : Sta Z Z.heap "java/lang/StringUTF16" "HI_BYTE_SHIFT" "I" (.int 0)) (S_LO : Sta Z Z.heap "java/lang/StringUTF16" "LO_BYTE_SHIFT" "I" (.int 8)) {u : Addr} {ku : ClassId}  (V : Arv Z h u ku .char 4 (([] : List Int32).map Value.int) (.int 0)) :
    Met Z EL1 n0 ⟨"com/example/load_then_swap/loadthenswap/input/KeyOrderComparePinLaw", "exact", "([CI)Ljava/lang/String;"⟩ method_4_code 2 (some (.object "java/lang/String")) rmX #[.ref u, .int (0 : Int32)] h [] (fun v h' => ∃ s, v = some (.ref s) ∧ Str Z h' s ([] : List Int32)) := by
  have w : ∀ (i : Nat) {d : Jvm.Cond}, tables_1[i]? = some d → d.before a0 Z = true := fun i d q => hw d (List.mem_of_getElem? q)
  have hEL : EW Z a0 EL1 := EW.cons (w 27 rfl) (by simp) EW.nil
  have hws : ∀ d ∈ StrChars.Road.words, d.before a0 Z = true := fun d hd => hw d ((by decide +kernel : ∀ d ∈ StrChars.Road.words, d ∈ tables_1) d hd)
  have hwe : ∀ d ∈ wordsE, d.before a0 Z = true := fun d hd => hw d ((by decide +kernel : ∀ d ∈ wordsE, d ∈ tables_1) d hd)
  have hmem : (OwnS.ST, 7) ∈ EL1 := List.mem_cons_self ..
  refine Met.of_walk (a0 := a0) pnL hEL hO all0 (L0 := #[.val (.ref u), .val (.int (0 : Int32))]) (fun m => by first | (simp [entryFrame, mkF, argsToLocals, Value.category, maxLocals]; done) | rfl) rfl ?_
  intro k H0
  have H1 := H0.iloadN 1 dXa_0 rfl
  have H2 := H1.ifNo 4 dXa_1 (XT.i0_ne_f (by decide))
  obtain ⟨b1, h1, g1, E1, A1, D1, H3⟩ := H2.newO 7 (w 14 rfl) (w 15 rfl) (w 16 rfl) dXa_4 (by decide) (by decide)
  have H4 := H3.dup 8 dXa_7
  have H5 := H4.iconst 9 (0 : Int32) dXa_8
  obtain ⟨b2, h2, k2, g2, E2, V2, H6⟩ := H5.newP 11 (ty := .char) rfl (w 10 rfl) dXa_9 (by decide) (cap := 0) (by decide) (by decide) (by decide) (by decide)
  have X0 := Ext.trans' E1 E2
  have ne : b1 ∉ [b2] := ninS (Nat.ne_of_lt (g2 ▸ A1.lt)) nin0
  have F1 : Fld Z h1 b1 ST "value" "[B" .null := D1 (Or.inr (w 29 rfl)) (ty := .array .byte) (by decide)
  have G1 : Fld Z h1 b1 ST "coder" "B" (.int 0) := D1 (Or.inr (w 30 rfl)) (ty := .byte) (by decide)
  obtain ⟨_, h9, ⟨rfl, S9⟩, K9, H7⟩ := H6.callI 14 (z := ⟨"java/lang/String", "<init>", "([C)V"⟩) rfl (w 17 rfl) (w 18 rfl) (w 19 rfl) (by decide) (a := b1) (argsL := [.ref b2]) (rest := [.ref b1])
    (payStr (W := 1) (cs := ([] : List Int32)) (n := 0) (cap := 0) hEL hmem hws hwe H6.oldO (H6.sf_lt (by simp)).2 (A1.ext E2) (F1.ext E2) (G1.ext E2) V2 Sc hzc rfl (by decide) rfl (by decide) (by simp) (by decide) (by decide)) (lenOf pd_19 rfl) rfl (Nat.le_of_eq rfl) dXa_11 (by decide) (by decide) (by simp)
  exact H7.retA rfl rfl rfl dXa_14 (by decide) (by decide) ⟨b1, rfl, S9⟩
set_option maxRecDepth 65536 in
set_option maxHeartbeats 4000000 in
theorem metXa1 {Z : State} {a0 : Array Value} {n0 : Nat} {h : Heap} (hw : ∀ d ∈ tables_1, d.before a0 Z = true) (hO : Old Z n0 h) {zc : Int32} (Sc : Sta Z Z.heap ST "COMPACT_STRINGS" "Z" (.int zc)) (hzc : ¬ zc = 0) (S_AD : Sta Z Z.heap "java/lang/StringUTF16" "$assertionsDisabled" "Z" (.int 1)) (S_HI : Sta Z Z.heap "java/lang/StringUTF16" "HI_BYTE_SHIFT" "I" (.int 0)) (S_LO : Sta Z Z.heap "java/lang/StringUTF16" "LO_BYTE_SHIFT" "I" (.int 8)) {u : Addr} {ku : ClassId} {x0 : Int32} (c0 : C16 x0) (V : Arv Z h u ku .char 4 (([x0] : List Int32).map Value.int) (.int 0)) :
    Met Z EL1 n0 ⟨"com/example/load_then_swap/loadthenswap/input/KeyOrderComparePinLaw", "exact", "([CI)Ljava/lang/String;"⟩ method_4_code 2 (some (.object "java/lang/String")) rmX #[.ref u, .int (1 : Int32)] h [] (fun v h' => ∃ s, v = some (.ref s) ∧ Str Z h' s ([x0] : List Int32)) := by
  have w : ∀ (i : Nat) {d : Jvm.Cond}, tables_1[i]? = some d → d.before a0 Z = true := fun i d q => hw d (List.mem_of_getElem? q)
  have hEL : EW Z a0 EL1 := EW.cons (w 27 rfl) (by simp) EW.nil
  have hws : ∀ d ∈ StrChars.Road.words, d.before a0 Z = true := fun d hd => hw d ((by decide +kernel : ∀ d ∈ StrChars.Road.words, d ∈ tables_1) d hd)
  have hwe : ∀ d ∈ wordsE, d.before a0 Z = true := fun d hd => hw d ((by decide +kernel : ∀ d ∈ wordsE, d ∈ tables_1) d hd)
  have hmem : (OwnS.ST, 7) ∈ EL1 := List.mem_cons_self ..
  refine Met.of_walk (a0 := a0) pnL hEL hO all0 (L0 := #[.val (.ref u), .val (.int (1 : Int32))]) (fun m => by first | (simp [entryFrame, mkF, argsToLocals, Value.category, maxLocals]; done) | rfl) rfl ?_
  intro k H0
  have H1 := H0.iloadN 1 dXa_0 rfl
  have H2 := H1.ifYes 15 dXa_1 (XT.i0_ne_t (by decide))
  have H3 := H2.iloadN 16 dXa_15 rfl
  have H4 := H3.iconst 17 (1 : Int32) dXa_16
  have H5 := H4.icmpNo 20 dXa_17 (XT.ii_ne_f (by decide))
  obtain ⟨b1, h1, g1, E1, A1, D1, H6⟩ := H5.newO 23 (w 14 rfl) (w 15 rfl) (w 16 rfl) dXa_20 (by decide) (by decide)
  have H7 := H6.dup 24 dXa_23
  have H8 := H7.iconst 25 (1 : Int32) dXa_24
  obtain ⟨b2, h2, k2, g2, E2, V2, H9⟩ := H8.newP 27 (ty := .char) rfl (w 10 rfl) dXa_25 (by decide) (cap := 1) (by decide) (by decide) (by decide) (by decide)
  have X0 := Ext.trans' E1 E2
  have H10 := H9.dup 28 dXa_27
  have H11 := H10.iconst 29 (0 : Int32) dXa_28
  have H12 := H11.aloadN 30 dXa_29 rfl
  have H13 := H12.iconst 31 (0 : Int32) dXa_30
  have H14 := H13.caload 32 (V.ext X0) ⟨by decide, by decide⟩ (v := .int x0) rfl dXa_31
  obtain ⟨h30, K30, V30, H15⟩ := H14.stC 33 V2 0 ⟨by decide, by decide⟩ rfl (by simp) c0.nar dXa_32 (by simp)
  have Y0 := Ext.keep' X0 K30 (allS (Nat.le_trans E1.1 (Nat.le_of_eq g2.symm)) all0)
  have ne : b1 ∉ [b2] := ninS (Nat.ne_of_lt (g2 ▸ A1.lt)) nin0
  have F1 : Fld Z h1 b1 ST "value" "[B" .null := D1 (Or.inr (w 29 rfl)) (ty := .array .byte) (by decide)
  have G1 : Fld Z h1 b1 ST "coder" "B" (.int 0) := D1 (Or.inr (w 30 rfl)) (ty := .byte) (by decide)
  obtain ⟨_, h9, ⟨rfl, S9⟩, K9, H16⟩ := H15.callI 36 (z := ⟨"java/lang/String", "<init>", "([C)V"⟩) rfl (w 17 rfl) (w 18 rfl) (w 19 rfl) (by decide) (a := b1) (argsL := [.ref b2]) (rest := [.ref b1])
    (payW1 (W := 1) hw H15.oldO Sc hzc S_AD S_HI S_LO (H15.sf_lt (by simp)).2 ((A1.ext E2).keep K30) ((F1.ext E2).keep K30 ne) ((G1.ext E2).keep K30 ne) V30 c0 (by decide) (by decide)) (lenOf pd_19 rfl) rfl (Nat.le_of_eq rfl) dXa_33 (by decide) (by decide) (by simp)
  exact H16.retA rfl rfl rfl dXa_36 (by decide) (by decide) ⟨b1, rfl, S9⟩
set_option maxRecDepth 65536 in
set_option maxHeartbeats 4000000 in
theorem metXa2 {Z : State} {a0 : Array Value} {n0 : Nat} {h : Heap} (hw : ∀ d ∈ tables_1, d.before a0 Z = true) (hO : Old Z n0 h) {zc : Int32} (Sc : Sta Z Z.heap ST "COMPACT_STRINGS" "Z" (.int zc)) (hzc : ¬ zc = 0) (S_AD : Sta Z Z.heap "java/lang/StringUTF16" "$assertionsDisabled" "Z" (.int 1)) (S_HI : Sta Z Z.heap "java/lang/StringUTF16" "HI_BYTE_SHIFT" "I" (.int 0)) (S_LO : Sta Z Z.heap "java/lang/StringUTF16" "LO_BYTE_SHIFT" "I" (.int 8)) {u : Addr} {ku : ClassId} {x0 x1 : Int32} (c0 : C16 x0) (c1 : C16 x1) (V : Arv Z h u ku .char 4 (([x0, x1] : List Int32).map Value.int) (.int 0)) :
    Met Z EL1 n0 ⟨"com/example/load_then_swap/loadthenswap/input/KeyOrderComparePinLaw", "exact", "([CI)Ljava/lang/String;"⟩ method_4_code 2 (some (.object "java/lang/String")) rmX #[.ref u, .int (2 : Int32)] h [] (fun v h' => ∃ s, v = some (.ref s) ∧ Str Z h' s ([x0, x1] : List Int32)) := by
  have w : ∀ (i : Nat) {d : Jvm.Cond}, tables_1[i]? = some d → d.before a0 Z = true := fun i d q => hw d (List.mem_of_getElem? q)
  have hEL : EW Z a0 EL1 := EW.cons (w 27 rfl) (by simp) EW.nil
  have hws : ∀ d ∈ StrChars.Road.words, d.before a0 Z = true := fun d hd => hw d ((by decide +kernel : ∀ d ∈ StrChars.Road.words, d ∈ tables_1) d hd)
  have hwe : ∀ d ∈ wordsE, d.before a0 Z = true := fun d hd => hw d ((by decide +kernel : ∀ d ∈ wordsE, d ∈ tables_1) d hd)
  have hmem : (OwnS.ST, 7) ∈ EL1 := List.mem_cons_self ..
  refine Met.of_walk (a0 := a0) pnL hEL hO all0 (L0 := #[.val (.ref u), .val (.int (2 : Int32))]) (fun m => by first | (simp [entryFrame, mkF, argsToLocals, Value.category, maxLocals]; done) | rfl) rfl ?_
  intro k H0
  have H1 := H0.iloadN 1 dXa_0 rfl
  have H2 := H1.ifYes 15 dXa_1 (XT.i0_ne_t (by decide))
  have H3 := H2.iloadN 16 dXa_15 rfl
  have H4 := H3.iconst 17 (1 : Int32) dXa_16
  have H5 := H4.icmpYes 37 dXa_17 (XT.ii_ne_t (by decide))
  have H6 := H5.iloadN 38 dXa_37 rfl
  have H7 := H6.iconst 39 (2 : Int32) dXa_38
  have H8 := H7.icmpNo 42 dXa_39 (XT.ii_ne_f (by decide))
  obtain ⟨b1, h1, g1, E1, A1, D1, H9⟩ := H8.newO 45 (w 14 rfl) (w 15 rfl) (w 16 rfl) dXa_42 (by decide) (by decide)
  have H10 := H9.dup 46 dXa_45
  have H11 := H10.iconst 47 (2 : Int32) dXa_46
  obtain ⟨b2, h2, k2, g2, E2, V2, H12⟩ := H11.newP 49 (ty := .char) rfl (w 10 rfl) dXa_47 (by decide) (cap := 2) (by decide) (by decide) (by decide) (by decide)
  have X0 := Ext.trans' E1 E2
  have H13 := H12.dup 50 dXa_49
  have H14 := H13.iconst 51 (0 : Int32) dXa_50
  have H15 := H14.aloadN 52 dXa_51 rfl
  have H16 := H15.iconst 53 (0 : Int32) dXa_52
  have H17 := H16.caload 54 (V.ext X0) ⟨by decide, by decide⟩ (v := .int x0) rfl dXa_53
  obtain ⟨h30, K30, V30, H18⟩ := H17.stC 55 V2 0 ⟨by decide, by decide⟩ rfl (by simp) c0.nar dXa_54 (by simp)
  have Y0 := Ext.keep' X0 K30 (allS (Nat.le_trans E1.1 (Nat.le_of_eq g2.symm)) all0)
  have H19 := H18.dup 56 dXa_55
  have H20 := H19.iconst 57 (1 : Int32) dXa_56
  have H21 := H20.aloadN 58 dXa_57 rfl
  have H22 := H21.iconst 59 (1 : Int32) dXa_58
  have H23 := H22.caload 60 (V.ext Y0) ⟨by decide, by decide⟩ (v := .int x1) rfl dXa_59
  obtain ⟨h31, K31, V31, H24⟩ := H23.stC 61 V30 1 ⟨by decide, by decide⟩ rfl (by simp) c1.nar dXa_60 (by simp)
  have Y1 := Ext.keep' Y0 K31 (allS (Nat.le_trans E1.1 (Nat.le_of_eq g2.symm)) all0)
  have ne : b1 ∉ [b2] := ninS (Nat.ne_of_lt (g2 ▸ A1.lt)) nin0
  have F1 : Fld Z h1 b1 ST "value" "[B" .null := D1 (Or.inr (w 29 rfl)) (ty := .array .byte) (by decide)
  have G1 : Fld Z h1 b1 ST "coder" "B" (.int 0) := D1 (Or.inr (w 30 rfl)) (ty := .byte) (by decide)
  obtain ⟨_, h9, ⟨rfl, S9⟩, K9, H25⟩ := H24.callI 64 (z := ⟨"java/lang/String", "<init>", "([C)V"⟩) rfl (w 17 rfl) (w 18 rfl) (w 19 rfl) (by decide) (a := b1) (argsL := [.ref b2]) (rest := [.ref b1])
    (payW2 (W := 1) hw H24.oldO Sc hzc S_AD S_HI S_LO (H24.sf_lt (by simp)).2 (((A1.ext E2).keep K30).keep K31) (((F1.ext E2).keep K30 ne).keep K31 ne) (((G1.ext E2).keep K30 ne).keep K31 ne) V31 c0 c1 (by decide) (by decide)) (lenOf pd_19 rfl) rfl (Nat.le_of_eq rfl) dXa_61 (by decide) (by decide) (by simp)
  exact H25.retA rfl rfl rfl dXa_64 (by decide) (by decide) ⟨b1, rfl, S9⟩
set_option maxRecDepth 65536 in
set_option maxHeartbeats 4000000 in
theorem metXa3 {Z : State} {a0 : Array Value} {n0 : Nat} {h : Heap} (hw : ∀ d ∈ tables_1, d.before a0 Z = true) (hO : Old Z n0 h) {zc : Int32} (Sc : Sta Z Z.heap ST "COMPACT_STRINGS" "Z" (.int zc)) (hzc : ¬ zc = 0) (S_AD : Sta Z Z.heap "java/lang/StringUTF16" "$assertionsDisabled" "Z" (.int 1)) (S_HI : Sta Z Z.heap "java/lang/StringUTF16" "HI_BYTE_SHIFT" "I" (.int 0)) (S_LO : Sta Z Z.heap "java/lang/StringUTF16" "LO_BYTE_SHIFT" "I" (.int 8)) {u : Addr} {ku : ClassId} {x0 x1 x2 : Int32} (c0 : C16 x0) (c1 : C16 x1) (c2 : C16 x2) (V : Arv Z h u ku .char 4 (([x0, x1, x2] : List Int32).map Value.int) (.int 0)) :
    Met Z EL1 n0 ⟨"com/example/load_then_swap/loadthenswap/input/KeyOrderComparePinLaw", "exact", "([CI)Ljava/lang/String;"⟩ method_4_code 2 (some (.object "java/lang/String")) rmX #[.ref u, .int (3 : Int32)] h [] (fun v h' => ∃ s, v = some (.ref s) ∧ Str Z h' s ([x0, x1, x2] : List Int32)) := by
  have w : ∀ (i : Nat) {d : Jvm.Cond}, tables_1[i]? = some d → d.before a0 Z = true := fun i d q => hw d (List.mem_of_getElem? q)
  have hEL : EW Z a0 EL1 := EW.cons (w 27 rfl) (by simp) EW.nil
  have hws : ∀ d ∈ StrChars.Road.words, d.before a0 Z = true := fun d hd => hw d ((by decide +kernel : ∀ d ∈ StrChars.Road.words, d ∈ tables_1) d hd)
  have hwe : ∀ d ∈ wordsE, d.before a0 Z = true := fun d hd => hw d ((by decide +kernel : ∀ d ∈ wordsE, d ∈ tables_1) d hd)
  have hmem : (OwnS.ST, 7) ∈ EL1 := List.mem_cons_self ..
  refine Met.of_walk (a0 := a0) pnL hEL hO all0 (L0 := #[.val (.ref u), .val (.int (3 : Int32))]) (fun m => by first | (simp [entryFrame, mkF, argsToLocals, Value.category, maxLocals]; done) | rfl) rfl ?_
  intro k H0
  have H1 := H0.iloadN 1 dXa_0 rfl
  have H2 := H1.ifYes 15 dXa_1 (XT.i0_ne_t (by decide))
  have H3 := H2.iloadN 16 dXa_15 rfl
  have H4 := H3.iconst 17 (1 : Int32) dXa_16
  have H5 := H4.icmpYes 37 dXa_17 (XT.ii_ne_t (by decide))
  have H6 := H5.iloadN 38 dXa_37 rfl
  have H7 := H6.iconst 39 (2 : Int32) dXa_38
  have H8 := H7.icmpYes 65 dXa_39 (XT.ii_ne_t (by decide))
  have H9 := H8.iloadN 66 dXa_65 rfl
  have H10 := H9.iconst 67 (3 : Int32) dXa_66
  have H11 := H10.icmpNo 70 dXa_67 (XT.ii_ne_f (by decide))
  obtain ⟨b1, h1, g1, E1, A1, D1, H12⟩ := H11.newO 73 (w 14 rfl) (w 15 rfl) (w 16 rfl) dXa_70 (by decide) (by decide)
  have H13 := H12.dup 74 dXa_73
  have H14 := H13.iconst 75 (3 : Int32) dXa_74
  obtain ⟨b2, h2, k2, g2, E2, V2, H15⟩ := H14.newP 77 (ty := .char) rfl (w 10 rfl) dXa_75 (by decide) (cap := 3) (by decide) (by decide) (by decide) (by decide)
  have X0 := Ext.trans' E1 E2
  have H16 := H15.dup 78 dXa_77
  have H17 := H16.iconst 79 (0 : Int32) dXa_78
  have H18 := H17.aloadN 80 dXa_79 rfl
  have H19 := H18.iconst 81 (0 : Int32) dXa_80
  have H20 := H19.caload 82 (V.ext X0) ⟨by decide, by decide⟩ (v := .int x0) rfl dXa_81
  obtain ⟨h30, K30, V30, H21⟩ := H20.stC 83 V2 0 ⟨by decide, by decide⟩ rfl (by simp) c0.nar dXa_82 (by simp)
  have Y0 := Ext.keep' X0 K30 (allS (Nat.le_trans E1.1 (Nat.le_of_eq g2.symm)) all0)
  have H22 := H21.dup 84 dXa_83
  have H23 := H22.iconst 85 (1 : Int32) dXa_84
  have H24 := H23.aloadN 86 dXa_85 rfl
  have H25 := H24.iconst 87 (1 : Int32) dXa_86
  have H26 := H25.caload 88 (V.ext Y0) ⟨by decide, by decide⟩ (v := .int x1) rfl dXa_87
  obtain ⟨h31, K31, V31, H27⟩ := H26.stC 89 V30 1 ⟨by decide, by decide⟩ rfl (by simp) c1.nar dXa_88 (by simp)
  have Y1 := Ext.keep' Y0 K31 (allS (Nat.le_trans E1.1 (Nat.le_of_eq g2.symm)) all0)
  have H28 := H27.dup 90 dXa_89
  have H29 := H28.iconst 91 (2 : Int32) dXa_90
  have H30 := H29.aloadN 92 dXa_91 rfl
  have H31 := H30.iconst 93 (2 : Int32) dXa_92
  have H32 := H31.caload 94 (V.ext Y1) ⟨by decide, by decide⟩ (v := .int x2) rfl dXa_93
  obtain ⟨h32, K32, V32, H33⟩ := H32.stC 95 V31 2 ⟨by decide, by decide⟩ rfl (by simp) c2.nar dXa_94 (by simp)
  have Y2 := Ext.keep' Y1 K32 (allS (Nat.le_trans E1.1 (Nat.le_of_eq g2.symm)) all0)
  have ne : b1 ∉ [b2] := ninS (Nat.ne_of_lt (g2 ▸ A1.lt)) nin0
  have F1 : Fld Z h1 b1 ST "value" "[B" .null := D1 (Or.inr (w 29 rfl)) (ty := .array .byte) (by decide)
  have G1 : Fld Z h1 b1 ST "coder" "B" (.int 0) := D1 (Or.inr (w 30 rfl)) (ty := .byte) (by decide)
  obtain ⟨_, h9, ⟨rfl, S9⟩, K9, H34⟩ := H33.callI 98 (z := ⟨"java/lang/String", "<init>", "([C)V"⟩) rfl (w 17 rfl) (w 18 rfl) (w 19 rfl) (by decide) (a := b1) (argsL := [.ref b2]) (rest := [.ref b1])
    (payW3 (W := 1) hw H33.oldO Sc hzc S_AD S_HI S_LO (H33.sf_lt (by simp)).2 ((((A1.ext E2).keep K30).keep K31).keep K32) ((((F1.ext E2).keep K30 ne).keep K31 ne).keep K32 ne) ((((G1.ext E2).keep K30 ne).keep K31 ne).keep K32 ne) V32 c0 c1 c2 (by decide) (by decide)) (lenOf pd_19 rfl) rfl (Nat.le_of_eq rfl) dXa_95 (by decide) (by decide) (by simp)
  exact H34.retA rfl rfl rfl dXa_98 (by decide) (by decide) ⟨b1, rfl, S9⟩
set_option maxRecDepth 65536 in
set_option maxHeartbeats 4000000 in
theorem metXa4 {Z : State} {a0 : Array Value} {n0 : Nat} {h : Heap} (hw : ∀ d ∈ tables_1, d.before a0 Z = true) (hO : Old Z n0 h) {zc : Int32} (Sc : Sta Z Z.heap ST "COMPACT_STRINGS" "Z" (.int zc)) (hzc : ¬ zc = 0) (S_AD : Sta Z Z.heap "java/lang/StringUTF16" "$assertionsDisabled" "Z" (.int 1)) (S_HI : Sta Z Z.heap "java/lang/StringUTF16" "HI_BYTE_SHIFT" "I" (.int 0)) (S_LO : Sta Z Z.heap "java/lang/StringUTF16" "LO_BYTE_SHIFT" "I" (.int 8)) {u : Addr} {ku : ClassId} {x0 x1 x2 x3 : Int32} (c0 : C16 x0) (c1 : C16 x1) (c2 : C16 x2) (c3 : C16 x3) (V : Arv Z h u ku .char 4 (([x0, x1, x2, x3] : List Int32).map Value.int) (.int 0)) :
    Met Z EL1 n0 ⟨"com/example/load_then_swap/loadthenswap/input/KeyOrderComparePinLaw", "exact", "([CI)Ljava/lang/String;"⟩ method_4_code 2 (some (.object "java/lang/String")) rmX #[.ref u, .int (4 : Int32)] h [] (fun v h' => ∃ s, v = some (.ref s) ∧ Str Z h' s ([x0, x1, x2, x3] : List Int32)) := by
  have w : ∀ (i : Nat) {d : Jvm.Cond}, tables_1[i]? = some d → d.before a0 Z = true := fun i d q => hw d (List.mem_of_getElem? q)
  have hEL : EW Z a0 EL1 := EW.cons (w 27 rfl) (by simp) EW.nil
  have hws : ∀ d ∈ StrChars.Road.words, d.before a0 Z = true := fun d hd => hw d ((by decide +kernel : ∀ d ∈ StrChars.Road.words, d ∈ tables_1) d hd)
  have hwe : ∀ d ∈ wordsE, d.before a0 Z = true := fun d hd => hw d ((by decide +kernel : ∀ d ∈ wordsE, d ∈ tables_1) d hd)
  have hmem : (OwnS.ST, 7) ∈ EL1 := List.mem_cons_self ..
  refine Met.of_walk (a0 := a0) pnL hEL hO all0 (L0 := #[.val (.ref u), .val (.int (4 : Int32))]) (fun m => by first | (simp [entryFrame, mkF, argsToLocals, Value.category, maxLocals]; done) | rfl) rfl ?_
  intro k H0
  have H1 := H0.iloadN 1 dXa_0 rfl
  have H2 := H1.ifYes 15 dXa_1 (XT.i0_ne_t (by decide))
  have H3 := H2.iloadN 16 dXa_15 rfl
  have H4 := H3.iconst 17 (1 : Int32) dXa_16
  have H5 := H4.icmpYes 37 dXa_17 (XT.ii_ne_t (by decide))
  have H6 := H5.iloadN 38 dXa_37 rfl
  have H7 := H6.iconst 39 (2 : Int32) dXa_38
  have H8 := H7.icmpYes 65 dXa_39 (XT.ii_ne_t (by decide))
  have H9 := H8.iloadN 66 dXa_65 rfl
  have H10 := H9.iconst 67 (3 : Int32) dXa_66
  have H11 := H10.icmpYes 99 dXa_67 (XT.ii_ne_t (by decide))
  obtain ⟨b1, h1, g1, E1, A1, D1, H12⟩ := H11.newO 102 (w 14 rfl) (w 15 rfl) (w 16 rfl) dXa_99 (by decide) (by decide)
  have H13 := H12.dup 103 dXa_102
  have H14 := H13.iconst 104 (4 : Int32) dXa_103
  obtain ⟨b2, h2, k2, g2, E2, V2, H15⟩ := H14.newP 106 (ty := .char) rfl (w 10 rfl) dXa_104 (by decide) (cap := 4) (by decide) (by decide) (by decide) (by decide)
  have X0 := Ext.trans' E1 E2
  have H16 := H15.dup 107 dXa_106
  have H17 := H16.iconst 108 (0 : Int32) dXa_107
  have H18 := H17.aloadN 109 dXa_108 rfl
  have H19 := H18.iconst 110 (0 : Int32) dXa_109
  have H20 := H19.caload 111 (V.ext X0) ⟨by decide, by decide⟩ (v := .int x0) rfl dXa_110
  obtain ⟨h30, K30, V30, H21⟩ := H20.stC 112 V2 0 ⟨by decide, by decide⟩ rfl (by simp) c0.nar dXa_111 (by simp)
  have Y0 := Ext.keep' X0 K30 (allS (Nat.le_trans E1.1 (Nat.le_of_eq g2.symm)) all0)
  have H22 := H21.dup 113 dXa_112
  have H23 := H22.iconst 114 (1 : Int32) dXa_113
  have H24 := H23.aloadN 115 dXa_114 rfl
  have H25 := H24.iconst 116 (1 : Int32) dXa_115
  have H26 := H25.caload 117 (V.ext Y0) ⟨by decide, by decide⟩ (v := .int x1) rfl dXa_116
  obtain ⟨h31, K31, V31, H27⟩ := H26.stC 118 V30 1 ⟨by decide, by decide⟩ rfl (by simp) c1.nar dXa_117 (by simp)
  have Y1 := Ext.keep' Y0 K31 (allS (Nat.le_trans E1.1 (Nat.le_of_eq g2.symm)) all0)
  have H28 := H27.dup 119 dXa_118
  have H29 := H28.iconst 120 (2 : Int32) dXa_119
  have H30 := H29.aloadN 121 dXa_120 rfl
  have H31 := H30.iconst 122 (2 : Int32) dXa_121
  have H32 := H31.caload 123 (V.ext Y1) ⟨by decide, by decide⟩ (v := .int x2) rfl dXa_122
  obtain ⟨h32, K32, V32, H33⟩ := H32.stC 124 V31 2 ⟨by decide, by decide⟩ rfl (by simp) c2.nar dXa_123 (by simp)
  have Y2 := Ext.keep' Y1 K32 (allS (Nat.le_trans E1.1 (Nat.le_of_eq g2.symm)) all0)
  have H34 := H33.dup 125 dXa_124
  have H35 := H34.iconst 126 (3 : Int32) dXa_125
  have H36 := H35.aloadN 127 dXa_126 rfl
  have H37 := H36.iconst 128 (3 : Int32) dXa_127
  have H38 := H37.caload 129 (V.ext Y2) ⟨by decide, by decide⟩ (v := .int x3) rfl dXa_128
  obtain ⟨h33, K33, V33, H39⟩ := H38.stC 130 V32 3 ⟨by decide, by decide⟩ rfl (by simp) c3.nar dXa_129 (by simp)
  have Y3 := Ext.keep' Y2 K33 (allS (Nat.le_trans E1.1 (Nat.le_of_eq g2.symm)) all0)
  have ne : b1 ∉ [b2] := ninS (Nat.ne_of_lt (g2 ▸ A1.lt)) nin0
  have F1 : Fld Z h1 b1 ST "value" "[B" .null := D1 (Or.inr (w 29 rfl)) (ty := .array .byte) (by decide)
  have G1 : Fld Z h1 b1 ST "coder" "B" (.int 0) := D1 (Or.inr (w 30 rfl)) (ty := .byte) (by decide)
  obtain ⟨_, h9, ⟨rfl, S9⟩, K9, H40⟩ := H39.callI 133 (z := ⟨"java/lang/String", "<init>", "([C)V"⟩) rfl (w 17 rfl) (w 18 rfl) (w 19 rfl) (by decide) (a := b1) (argsL := [.ref b2]) (rest := [.ref b1])
    (payW4 (W := 1) hw H39.oldO Sc hzc S_AD S_HI S_LO (H39.sf_lt (by simp)).2 (((((A1.ext E2).keep K30).keep K31).keep K32).keep K33) (((((F1.ext E2).keep K30 ne).keep K31 ne).keep K32 ne).keep K33 ne) (((((G1.ext E2).keep K30 ne).keep K31 ne).keep K32 ne).keep K33 ne) V33 c0 c1 c2 c3 (by decide) (by decide)) (lenOf pd_19 rfl) rfl (Nat.le_of_eq rfl) dXa_130 (by decide) (by decide) (by simp)
  exact H40.retA rfl rfl rfl dXa_133 (by decide) (by decide) ⟨b1, rfl, S9⟩
abbrev rmSt : Room := { frames := 7, cells := 7, slots := 28, locals := 104 }
theorem CPt.c16 {c : Int32} (h : CPt c) (e : c < 65536) : C16 c := ⟨by rw [Int32.lt_iff_toInt_lt]; have := h.1; have e0 : (0 : Int32).toInt = 0 := rfl; omega, by rw [Int32.lt_iff_toInt_lt] at e ⊢; have e1 : (65536 : Int32).toInt = 65536 := rfl; have e2 : (65535 : Int32).toInt = 65535 := rfl; omega⟩
theorem hs16 (c : Int32) : C16 (hsU c) := c16m _
theorem ls16 (c : Int32) : C16 (lsU c) := c16m _
theorem enc_b {c : Int32} (e : c < 65536) : enc c = [c] := if_pos e
theorem enc_s {c : Int32} (e : ¬ c < 65536) : enc c = [hsU c, lsU c] := if_neg e
theorem encs_0 (a b : Int32) : encs 0 a b = [] := rfl
theorem encs_1 (a b : Int32) : encs 1 a b = enc a := rfl
theorem encs_2 (a b : Int32) : encs 2 a b = enc a ++ enc b := rfl
abbrev In3 (t : Int32) : Prop := t = 0 ∨ t = 1 ∨ t = 2
set_option maxRecDepth 65536 in
set_option maxHeartbeats 4000000 in
theorem metSt {Z : State} {a0 : Array Value} {n0 : Nat} {h : Heap} (hw : ∀ d ∈ tables_1, d.before a0 Z = true) (hO : Old Z n0 h) {zc : Int32} (Sc : Sta Z Z.heap ST "COMPACT_STRINGS" "Z" (.int zc)) (hzc : ¬ zc = 0) (S_AD : Sta Z Z.heap "java/lang/StringUTF16" "$assertionsDisabled" "Z" (.int 1)) (S_HI : Sta Z Z.heap "java/lang/StringUTF16" "HI_BYTE_SHIFT" "I" (.int 0)) (S_LO : Sta Z Z.heap "java/lang/StringUTF16" "LO_BYTE_SHIFT" "I" (.int 8)) {n a b : Int32} (hn : In3 n) (ca : CPt a) (cb : CPt b) :
    Met Z EL1 n0 ⟨"com/example/load_then_swap/loadthenswap/input/KeyOrderComparePinLaw", "str", "(III)Ljava/lang/String;"⟩ method_5_code 5 (some (.object "java/lang/String")) rmSt #[.int n, .int a, .int b] h [] (fun v h' => ∃ s, v = some (.ref s) ∧ Str Z h' s (encs n a b)) := by
  have w : ∀ (i : Nat) {d : Jvm.Cond}, tables_1[i]? = some d → d.before a0 Z = true := fun i d q => hw d (List.mem_of_getElem? q)
  have hEL : EW Z a0 EL1 := EW.cons (w 27 rfl) (by simp) EW.nil
  refine Met.of_walk (a0 := a0) pnL hEL hO all0 (L0 := #[.val (.int n), .val (.int a), .val (.int b), .unset, .unset]) (fun m => by first | (simp [entryFrame, mkF, argsToLocals, Value.category, maxLocals]; done) | rfl) rfl ?_
  intro k H0
  rcases hn with rfl | rfl | rfl
  · have H1 := H0.iconst 1 (4 : Int32) dSt_0
    obtain ⟨b1, h1, k1, g1, E1, V1, H2⟩ := H1.newP 3 (ty := .char) rfl (w 10 rfl) dSt_1 (by decide) (cap := 4) (by decide) (by decide) (by decide) (by decide)
    have V1' : Arv Z h1 b1 k1 .char 4 (([] : List Int32).map Value.int) (.int 0) := V1.pad (fun i => by rcases i with _ | _ | _ | _ | i <;> rfl)
    have H3 := H2.astoreN 4 dSt_3 (L' := #[.val (.int (0 : Int32)), .val (.int a), .val (.int b), .val (.ref b1), .unset]) rfl
    have H4 := H3.iconst 5 (0 : Int32) dSt_4
    have H5 := H4.istore 7 dSt_5 (L' := #[.val (.int (0 : Int32)), .val (.int a), .val (.int b), .val (.ref b1), .val (.int (0 : Int32))]) rfl
    have H6 := H5.iloadN 8 dSt_7 rfl
    have H7 := H6.iconst 9 (1 : Int32) dSt_8
    have H8 := H7.icmpYes 21 dSt_9 (XT.ii_lt_t (by decide))
    have H9 := H8.iloadN 22 dSt_21 rfl
    have H10 := H9.iconst 23 (2 : Int32) dSt_22
    have H11 := H10.icmpYes 35 dSt_23 (XT.ii_lt_t (by decide))
    have H12 := H11.aloadN 36 dSt_35 rfl
    have H13 := H12.iload 38 dSt_36 rfl
    obtain ⟨_, hx, ⟨sx, rfl, Sx⟩, Kx, H14⟩ := H13.callS 41 (z := ⟨"com/example/load_then_swap/loadthenswap/input/KeyOrderComparePinLaw", "exact", "([CI)Ljava/lang/String;"⟩) (w 11 rfl) (w 12 rfl) (w 2 rfl) (w 13 rfl) (by decide) (argsL := [(.ref b1), (.int (0 : Int32))]) (rest := []) (Paid.of_met (W := 0) (metXa0 hw H13.oldO Sc hzc S_AD S_HI S_LO  V1') (w 13 rfl) (w 2 rfl) hEL (by decide) (by decide)) (lenOf pd_2 rfl) rfl (Nat.le_of_eq rfl) dSt_38 (by decide) (by decide) all0
    exact H14.retA rfl rfl rfl dSt_41 (by decide) (by decide) ⟨sx, rfl, by rw [encs_0]; exact Sx⟩
  · have H1 := H0.iconst 1 (4 : Int32) dSt_0
    obtain ⟨b1, h1, k1, g1, E1, V1, H2⟩ := H1.newP 3 (ty := .char) rfl (w 10 rfl) dSt_1 (by decide) (cap := 4) (by decide) (by decide) (by decide) (by decide)
    have V1' : Arv Z h1 b1 k1 .char 4 (([] : List Int32).map Value.int) (.int 0) := V1.pad (fun i => by rcases i with _ | _ | _ | _ | i <;> rfl)
    have H3 := H2.astoreN 4 dSt_3 (L' := #[.val (.int (1 : Int32)), .val (.int a), .val (.int b), .val (.ref b1), .unset]) rfl
    have H4 := H3.iconst 5 (0 : Int32) dSt_4
    have H5 := H4.istore 7 dSt_5 (L' := #[.val (.int (1 : Int32)), .val (.int a), .val (.int b), .val (.ref b1), .val (.int (0 : Int32))]) rfl
    have H6 := H5.iloadN 8 dSt_7 rfl
    have H7 := H6.iconst 9 (1 : Int32) dSt_8
    have H8 := H7.icmpNo 12 dSt_9 (XT.ii_lt_f (by decide))
    have H9 := H8.aloadN 13 dSt_12 rfl
    have H10 := H9.iload 15 dSt_13 rfl
    have H11 := H10.iloadN 16 dSt_15 rfl
    obtain ⟨r2, h2, Q2, K2, H12⟩ := H11.callS 19 (z := ⟨"com/example/load_then_swap/loadthenswap/input/KeyOrderComparePinLaw", "put", "([CII)I"⟩) (w 67 rfl) (w 68 rfl) (w 2 rfl) (w 69 rfl) (by decide) (argsL := [(.ref b1), (.int (0 : Int32)), (.int a)]) (rest := []) (Paid.of_met (W := 0) (metPt0 hw H11.oldO ca (H11.sf_lt (by simp)).2 V1') (w 69 rfl) (w 2 rfl) hEL (by decide) (by decide)) (lenOf pd_1 rfl) rfl (Nat.le_of_eq rfl) dSt_16 (by decide) (by decide) (by simp)
    rcases Q2 with ⟨e2, rfl, V2⟩ | ⟨e2, rfl, V2⟩
    · have H13 := H12.istore 21 dSt_19 (L' := #[.val (.int (1 : Int32)), .val (.int a), .val (.int b), .val (.ref b1), .val (.int (1 : Int32))]) rfl
      have H14 := H13.iloadN 22 dSt_21 rfl
      have H15 := H14.iconst 23 (2 : Int32) dSt_22
      have H16 := H15.icmpYes 35 dSt_23 (XT.ii_lt_t (by decide))
      have H17 := H16.aloadN 36 dSt_35 rfl
      have H18 := H17.iload 38 dSt_36 rfl
      obtain ⟨_, hx, ⟨sx, rfl, Sx⟩, Kx, H19⟩ := H18.callS 41 (z := ⟨"com/example/load_then_swap/loadthenswap/input/KeyOrderComparePinLaw", "exact", "([CI)Ljava/lang/String;"⟩) (w 11 rfl) (w 12 rfl) (w 2 rfl) (w 13 rfl) (by decide) (argsL := [(.ref b1), (.int (1 : Int32))]) (rest := []) (Paid.of_met (W := 0) (metXa1 hw H18.oldO Sc hzc S_AD S_HI S_LO (ca.c16 e2) V2) (w 13 rfl) (w 2 rfl) hEL (by decide) (by decide)) (lenOf pd_2 rfl) rfl (Nat.le_of_eq rfl) dSt_38 (by decide) (by decide) all0
      exact H19.retA rfl rfl rfl dSt_41 (by decide) (by decide) ⟨sx, rfl, by rw [encs_1, enc_b e2]; exact Sx⟩
    · have H20 := H12.istore 21 dSt_19 (L' := #[.val (.int (1 : Int32)), .val (.int a), .val (.int b), .val (.ref b1), .val (.int (2 : Int32))]) rfl
      have H21 := H20.iloadN 22 dSt_21 rfl
      have H22 := H21.iconst 23 (2 : Int32) dSt_22
      have H23 := H22.icmpYes 35 dSt_23 (XT.ii_lt_t (by decide))
      have H24 := H23.aloadN 36 dSt_35 rfl
      have H25 := H24.iload 38 dSt_36 rfl
      obtain ⟨_, hx, ⟨sx, rfl, Sx⟩, Kx, H26⟩ := H25.callS 41 (z := ⟨"com/example/load_then_swap/loadthenswap/input/KeyOrderComparePinLaw", "exact", "([CI)Ljava/lang/String;"⟩) (w 11 rfl) (w 12 rfl) (w 2 rfl) (w 13 rfl) (by decide) (argsL := [(.ref b1), (.int (2 : Int32))]) (rest := []) (Paid.of_met (W := 0) (metXa2 hw H25.oldO Sc hzc S_AD S_HI S_LO (hs16 a) (ls16 a) V2) (w 13 rfl) (w 2 rfl) hEL (by decide) (by decide)) (lenOf pd_2 rfl) rfl (Nat.le_of_eq rfl) dSt_38 (by decide) (by decide) all0
      exact H26.retA rfl rfl rfl dSt_41 (by decide) (by decide) ⟨sx, rfl, by rw [encs_1, enc_s e2]; exact Sx⟩
  · have H1 := H0.iconst 1 (4 : Int32) dSt_0
    obtain ⟨b1, h1, k1, g1, E1, V1, H2⟩ := H1.newP 3 (ty := .char) rfl (w 10 rfl) dSt_1 (by decide) (cap := 4) (by decide) (by decide) (by decide) (by decide)
    have V1' : Arv Z h1 b1 k1 .char 4 (([] : List Int32).map Value.int) (.int 0) := V1.pad (fun i => by rcases i with _ | _ | _ | _ | i <;> rfl)
    have H3 := H2.astoreN 4 dSt_3 (L' := #[.val (.int (2 : Int32)), .val (.int a), .val (.int b), .val (.ref b1), .unset]) rfl
    have H4 := H3.iconst 5 (0 : Int32) dSt_4
    have H5 := H4.istore 7 dSt_5 (L' := #[.val (.int (2 : Int32)), .val (.int a), .val (.int b), .val (.ref b1), .val (.int (0 : Int32))]) rfl
    have H6 := H5.iloadN 8 dSt_7 rfl
    have H7 := H6.iconst 9 (1 : Int32) dSt_8
    have H8 := H7.icmpNo 12 dSt_9 (XT.ii_lt_f (by decide))
    have H9 := H8.aloadN 13 dSt_12 rfl
    have H10 := H9.iload 15 dSt_13 rfl
    have H11 := H10.iloadN 16 dSt_15 rfl
    obtain ⟨r2, h2, Q2, K2, H12⟩ := H11.callS 19 (z := ⟨"com/example/load_then_swap/loadthenswap/input/KeyOrderComparePinLaw", "put", "([CII)I"⟩) (w 67 rfl) (w 68 rfl) (w 2 rfl) (w 69 rfl) (by decide) (argsL := [(.ref b1), (.int (0 : Int32)), (.int a)]) (rest := []) (Paid.of_met (W := 0) (metPt0 hw H11.oldO ca (H11.sf_lt (by simp)).2 V1') (w 69 rfl) (w 2 rfl) hEL (by decide) (by decide)) (lenOf pd_1 rfl) rfl (Nat.le_of_eq rfl) dSt_16 (by decide) (by decide) (by simp)
    rcases Q2 with ⟨e2, rfl, V2⟩ | ⟨e2, rfl, V2⟩
    · have H13 := H12.istore 21 dSt_19 (L' := #[.val (.int (2 : Int32)), .val (.int a), .val (.int b), .val (.ref b1), .val (.int (1 : Int32))]) rfl
      have H14 := H13.iloadN 22 dSt_21 rfl
      have H15 := H14.iconst 23 (2 : Int32) dSt_22
      have H16 := H15.icmpNo 26 dSt_23 (XT.ii_lt_f (by decide))
      have H17 := H16.aloadN 27 dSt_26 rfl
      have H18 := H17.iload 29 dSt_27 rfl
      have H19 := H18.iloadN 30 dSt_29 rfl
      obtain ⟨r3, h3, Q3, K3, H20⟩ := H19.callS 33 (z := ⟨"com/example/load_then_swap/loadthenswap/input/KeyOrderComparePinLaw", "put", "([CII)I"⟩) (w 67 rfl) (w 68 rfl) (w 2 rfl) (w 69 rfl) (by decide) (argsL := [(.ref b1), (.int (1 : Int32)), (.int b)]) (rest := []) (Paid.of_met (W := 0) (metPt1 hw H19.oldO cb (H19.sf_lt (by simp)).2 V2) (w 69 rfl) (w 2 rfl) hEL (by decide) (by decide)) (lenOf pd_1 rfl) rfl (Nat.le_of_eq rfl) dSt_30 (by decide) (by decide) (by simp)
      rcases Q3 with ⟨e3, rfl, V3⟩ | ⟨e3, rfl, V3⟩
      · have H21 := H20.istore 35 dSt_33 (L' := #[.val (.int (2 : Int32)), .val (.int a), .val (.int b), .val (.ref b1), .val (.int (2 : Int32))]) rfl
        have H22 := H21.aloadN 36 dSt_35 rfl
        have H23 := H22.iload 38 dSt_36 rfl
        obtain ⟨_, hx, ⟨sx, rfl, Sx⟩, Kx, H24⟩ := H23.callS 41 (z := ⟨"com/example/load_then_swap/loadthenswap/input/KeyOrderComparePinLaw", "exact", "([CI)Ljava/lang/String;"⟩) (w 11 rfl) (w 12 rfl) (w 2 rfl) (w 13 rfl) (by decide) (argsL := [(.ref b1), (.int (2 : Int32))]) (rest := []) (Paid.of_met (W := 0) (metXa2 hw H23.oldO Sc hzc S_AD S_HI S_LO (ca.c16 e2) (cb.c16 e3) V3) (w 13 rfl) (w 2 rfl) hEL (by decide) (by decide)) (lenOf pd_2 rfl) rfl (Nat.le_of_eq rfl) dSt_38 (by decide) (by decide) all0
        exact H24.retA rfl rfl rfl dSt_41 (by decide) (by decide) ⟨sx, rfl, by rw [encs_2, enc_b e2, enc_b e3]; exact Sx⟩
      · have H25 := H20.istore 35 dSt_33 (L' := #[.val (.int (2 : Int32)), .val (.int a), .val (.int b), .val (.ref b1), .val (.int (3 : Int32))]) rfl
        have H26 := H25.aloadN 36 dSt_35 rfl
        have H27 := H26.iload 38 dSt_36 rfl
        obtain ⟨_, hx, ⟨sx, rfl, Sx⟩, Kx, H28⟩ := H27.callS 41 (z := ⟨"com/example/load_then_swap/loadthenswap/input/KeyOrderComparePinLaw", "exact", "([CI)Ljava/lang/String;"⟩) (w 11 rfl) (w 12 rfl) (w 2 rfl) (w 13 rfl) (by decide) (argsL := [(.ref b1), (.int (3 : Int32))]) (rest := []) (Paid.of_met (W := 0) (metXa3 hw H27.oldO Sc hzc S_AD S_HI S_LO (ca.c16 e2) (hs16 b) (ls16 b) V3) (w 13 rfl) (w 2 rfl) hEL (by decide) (by decide)) (lenOf pd_2 rfl) rfl (Nat.le_of_eq rfl) dSt_38 (by decide) (by decide) all0
        exact H28.retA rfl rfl rfl dSt_41 (by decide) (by decide) ⟨sx, rfl, by rw [encs_2, enc_b e2, enc_s e3]; exact Sx⟩
    · have H29 := H12.istore 21 dSt_19 (L' := #[.val (.int (2 : Int32)), .val (.int a), .val (.int b), .val (.ref b1), .val (.int (2 : Int32))]) rfl
      have H30 := H29.iloadN 22 dSt_21 rfl
      have H31 := H30.iconst 23 (2 : Int32) dSt_22
      have H32 := H31.icmpNo 26 dSt_23 (XT.ii_lt_f (by decide))
      have H33 := H32.aloadN 27 dSt_26 rfl
      have H34 := H33.iload 29 dSt_27 rfl
      have H35 := H34.iloadN 30 dSt_29 rfl
      obtain ⟨r3, h3, Q3, K3, H36⟩ := H35.callS 33 (z := ⟨"com/example/load_then_swap/loadthenswap/input/KeyOrderComparePinLaw", "put", "([CII)I"⟩) (w 67 rfl) (w 68 rfl) (w 2 rfl) (w 69 rfl) (by decide) (argsL := [(.ref b1), (.int (2 : Int32)), (.int b)]) (rest := []) (Paid.of_met (W := 0) (metPt2 hw H35.oldO cb (H35.sf_lt (by simp)).2 V2) (w 69 rfl) (w 2 rfl) hEL (by decide) (by decide)) (lenOf pd_1 rfl) rfl (Nat.le_of_eq rfl) dSt_30 (by decide) (by decide) (by simp)
      rcases Q3 with ⟨e3, rfl, V3⟩ | ⟨e3, rfl, V3⟩
      · have H37 := H36.istore 35 dSt_33 (L' := #[.val (.int (2 : Int32)), .val (.int a), .val (.int b), .val (.ref b1), .val (.int (3 : Int32))]) rfl
        have H38 := H37.aloadN 36 dSt_35 rfl
        have H39 := H38.iload 38 dSt_36 rfl
        obtain ⟨_, hx, ⟨sx, rfl, Sx⟩, Kx, H40⟩ := H39.callS 41 (z := ⟨"com/example/load_then_swap/loadthenswap/input/KeyOrderComparePinLaw", "exact", "([CI)Ljava/lang/String;"⟩) (w 11 rfl) (w 12 rfl) (w 2 rfl) (w 13 rfl) (by decide) (argsL := [(.ref b1), (.int (3 : Int32))]) (rest := []) (Paid.of_met (W := 0) (metXa3 hw H39.oldO Sc hzc S_AD S_HI S_LO (hs16 a) (ls16 a) (cb.c16 e3) V3) (w 13 rfl) (w 2 rfl) hEL (by decide) (by decide)) (lenOf pd_2 rfl) rfl (Nat.le_of_eq rfl) dSt_38 (by decide) (by decide) all0
        exact H40.retA rfl rfl rfl dSt_41 (by decide) (by decide) ⟨sx, rfl, by rw [encs_2, enc_s e2, enc_b e3]; exact Sx⟩
      · have H41 := H36.istore 35 dSt_33 (L' := #[.val (.int (2 : Int32)), .val (.int a), .val (.int b), .val (.ref b1), .val (.int (4 : Int32))]) rfl
        have H42 := H41.aloadN 36 dSt_35 rfl
        have H43 := H42.iload 38 dSt_36 rfl
        obtain ⟨_, hx, ⟨sx, rfl, Sx⟩, Kx, H44⟩ := H43.callS 41 (z := ⟨"com/example/load_then_swap/loadthenswap/input/KeyOrderComparePinLaw", "exact", "([CI)Ljava/lang/String;"⟩) (w 11 rfl) (w 12 rfl) (w 2 rfl) (w 13 rfl) (by decide) (argsL := [(.ref b1), (.int (4 : Int32))]) (rest := []) (Paid.of_met (W := 0) (metXa4 hw H43.oldO Sc hzc S_AD S_HI S_LO (hs16 a) (ls16 a) (hs16 b) (ls16 b) V3) (w 13 rfl) (w 2 rfl) hEL (by decide) (by decide)) (lenOf pd_2 rfl) rfl (Nat.le_of_eq rfl) dSt_38 (by decide) (by decide) all0
        exact H44.retA rfl rfl rfl dSt_41 (by decide) (by decide) ⟨sx, rfl, by rw [encs_2, enc_s e2, enc_s e3]; exact Sx⟩
set_option maxRecDepth 65536 in
set_option maxHeartbeats 4000000 in
theorem metPX {Z : State} {a0 : Array Value} {n0 : Nat} {h : Heap} (hw : ∀ d ∈ tables_1, d.before a0 Z = true) (hO : Old Z n0 h) {fm : Value} (rf : fm.isRef = true) {i n : Int32} (h0 : ¬ i < 0) (h1 : i < n) :
    Met Z EL1 n0 ⟨"jdk/internal/util/Preconditions", "checkIndex", "(IILjava/util/function/BiFunction;)I"⟩ jdk_41_method_11_code 3 (some .int) rm0 #[.int i, .int n, fm] h [] (fun v h' => v = some (.int i) ∧ h' = h) := by
  have w : ∀ (i : Nat) {d : Jvm.Cond}, tables_1[i]? = some d → d.before a0 Z = true := fun i d q => hw d (List.mem_of_getElem? q)
  have hEL : EW Z a0 EL1 := EW.cons (w 27 rfl) (by simp) EW.nil
  refine Met.of_walk (a0 := a0) pnPr hEL hO all0 (L0 := #[.val (.int i), .val (.int n), .val (fm)]) (fun m => by cases fm <;> first | (simp [entryFrame, mkF, argsToLocals, Value.category]; done) | rfl | (simp [Value.isRef] at rf)) rfl ?_
  intro k H0
  have H1 := H0.iloadN 1 dPX_0 rfl
  have H2 := H1.ifNo 4 dPX_1 (XT.i0_lt_f h0)
  have H3 := H2.iloadN 5 dPX_4 rfl
  have H4 := H3.iloadN 6 dPX_5 rfl
  have H5 := H4.icmpYes 16 dPX_6 (XT.ii_lt_t h1)
  have H6 := H5.iloadN 17 dPX_16 rfl
  exact H6.retI rfl rfl (by simp) dPX_17 (by decide) (by decide) ⟨rfl, rfl⟩
abbrev rmSX : Room := { frames := 1, cells := 0, slots := 0, locals := 15 }
set_option maxRecDepth 65536 in
set_option maxHeartbeats 4000000 in
theorem metSX {Z : State} {a0 : Array Value} {n0 : Nat} {h : Heap} (hw : ∀ d ∈ tables_1, d.before a0 Z = true) (hO : Old Z n0 h) {fm : Value} (Sf : Sta Z Z.heap "jdk/internal/util/Preconditions" "SIOOBE_FORMATTER" "Ljava/util/function/BiFunction;" fm) (rf : fm.isRef = true) {i n : Int32} (h0 : ¬ i < 0) (h1 : i < n) :
    Met Z EL1 n0 ⟨"java/lang/String", "checkIndex", "(II)V"⟩ jdk_42_method_155_code 2 none rmSX #[.int i, .int n] h [] (fun v h' => v = none ∧ h' = h) := by
  have w : ∀ (i : Nat) {d : Jvm.Cond}, tables_1[i]? = some d → d.before a0 Z = true := fun i d q => hw d (List.mem_of_getElem? q)
  have hEL : EW Z a0 EL1 := EW.cons (w 27 rfl) (by simp) EW.nil
  refine Met.of_walk (a0 := a0) pnST hEL hO all0 (L0 := #[.val (.int i), .val (.int n)]) (fun m => by first | (simp [entryFrame, mkF, argsToLocals, Value.category, maxLocals]; done) | rfl) rfl ?_
  intro k H0
  have H1 := H0.iloadN 1 dSX_0 rfl
  have H2 := H1.iloadN 2 dSX_1 rfl
  have H3 := H2.getS 5 (w 98 rfl) (staOld Sf H2.oldO) dSX_2
  obtain ⟨_, hu1, ⟨rfl, e1⟩, Ku1, H4⟩ := H3.callS 8 (z := ⟨"jdk/internal/util/Preconditions", "checkIndex", "(IILjava/util/function/BiFunction;)I"⟩) (w 100 rfl) (w 101 rfl) (w 99 rfl) (w 102 rfl) (by decide) (argsL := [(.int i), (.int n), (fm)]) (rest := []) (Paid.of_met (W := 0) (metPX hw H3.oldO rf h0 h1) (w 102 rfl) (w 99 rfl) hEL (by decide) (by decide)) (lenOf pd_17 rfl) rfl (Nat.le_of_eq rfl) dSX_5 (by decide) (by decide) all0
  obtain rfl := e1.symm
  have H5 := H4.pop 9 dSX_8
  exact H5.retV rfl dSX_9 (by decide) (by decide) ⟨rfl, rfl⟩
set_option maxRecDepth 65536 in
set_option maxHeartbeats 4000000 in
theorem metUL {Z : State} {a0 : Array Value} {n0 : Nat} {h : Heap} (hw : ∀ d ∈ tables_1, d.before a0 Z = true) (hO : Old Z n0 h) {b : Addr} {kb : ClassId} {vs : List Value} {N n : Int32} (V : Arv Z h b kb .byte N vs (.int 0)) (hN : N >>> ((1 : Int32) &&& 31) = n) :
    Met Z EL1 n0 ⟨"java/lang/StringUTF16", "length", "([B)I"⟩ jdk_52_method_6_code 1 (some .int) rm0 #[.ref b] h [] (fun v h' => v = some (.int n) ∧ h' = h) := by
  have w : ∀ (i : Nat) {d : Jvm.Cond}, tables_1[i]? = some d → d.before a0 Z = true := fun i d q => hw d (List.mem_of_getElem? q)
  have hEL : EW Z a0 EL1 := EW.cons (w 27 rfl) (by simp) EW.nil
  refine Met.of_walk (a0 := a0) pnU hEL hO all0 (L0 := #[.val (.ref b)]) (fun m => by first | (simp [entryFrame, mkF, argsToLocals, Value.category, maxLocals]; done) | rfl) rfl ?_
  intro k H0
  have H1 := H0.aloadN 1 dUL_0 rfl
  have H2 := H1.alen 2 V dUL_1
  have H3 := H2.iconst 3 (1 : Int32) dUL_2
  have H4 := H3.ishr 4 dUL_3
  rw [hN] at H4
  exact H4.retI rfl rfl (by simp) dUL_4 (by decide) (by decide) ⟨rfl, rfl⟩
abbrev rmUX : Room := { frames := 2, cells := 0, slots := 0, locals := 30 }
set_option maxRecDepth 65536 in
set_option maxHeartbeats 4000000 in
theorem metUX {Z : State} {a0 : Array Value} {n0 : Nat} {h : Heap} (hw : ∀ d ∈ tables_1, d.before a0 Z = true) (hO : Old Z n0 h) {fm : Value} (Sf : Sta Z Z.heap "jdk/internal/util/Preconditions" "SIOOBE_FORMATTER" "Ljava/util/function/BiFunction;" fm) (rf : fm.isRef = true) {b : Addr} {kb : ClassId} {vs : List Value} {N n i : Int32} (V : Arv Z h b kb .byte N vs (.int 0)) (hN : N >>> ((1 : Int32) &&& 31) = n) (h0 : ¬ i < 0) (h1 : i < n) :
    Met Z EL1 n0 ⟨"java/lang/StringUTF16", "checkIndex", "(I[B)V"⟩ jdk_52_method_91_code 2 none rmUX #[.int i, .ref b] h [] (fun v h' => v = none ∧ h' = h) := by
  have w : ∀ (i : Nat) {d : Jvm.Cond}, tables_1[i]? = some d → d.before a0 Z = true := fun i d q => hw d (List.mem_of_getElem? q)
  have hEL : EW Z a0 EL1 := EW.cons (w 27 rfl) (by simp) EW.nil
  refine Met.of_walk (a0 := a0) pnU hEL hO all0 (L0 := #[.val (.int i), .val (.ref b)]) (fun m => by first | (simp [entryFrame, mkF, argsToLocals, Value.category, maxLocals]; done) | rfl) rfl ?_
  intro k H0
  have H1 := H0.iloadN 1 dUX_0 rfl
  have H2 := H1.aloadN 2 dUX_1 rfl
  obtain ⟨_, hu1, ⟨rfl, e1⟩, Ku1, H3⟩ := H2.callS 5 (z := ⟨"java/lang/StringUTF16", "length", "([B)I"⟩) (w 135 rfl) (w 136 rfl) (w 73 rfl) (w 137 rfl) (by decide) (argsL := [(.ref b)]) (rest := [(.int i)]) (Paid.of_met (W := 1) (metUL hw H2.oldO V hN) (w 137 rfl) (w 73 rfl) hEL (by decide) (by decide)) (lenOf pd_15 rfl) rfl (Nat.le_of_eq rfl) dUX_2 (by decide) (by decide) all0
  obtain rfl := e1.symm
  obtain ⟨_, hu2, ⟨rfl, e2⟩, Ku2, H4⟩ := H3.callS 8 (z := ⟨"java/lang/String", "checkIndex", "(II)V"⟩) (w 138 rfl) (w 96 rfl) (w 16 rfl) (w 97 rfl) (by decide) (argsL := [(.int i), (.int n)]) (rest := []) (Paid.of_met (W := 0) (metSX hw H3.oldO Sf rf h0 h1) (w 97 rfl) (w 16 rfl) hEL (by decide) (by decide)) (lenOf pd_16 rfl) rfl (Nat.le_of_eq rfl) dUX_5 (by decide) (by decide) all0
  obtain rfl := e2.symm
  exact H4.retV rfl dUX_8 (by decide) (by decide) ⟨rfl, rfl⟩
abbrev rmUC : Room := { frames := 3, cells := 0, slots := 0, locals := 45 }
set_option maxRecDepth 65536 in
set_option maxHeartbeats 4000000 in
theorem metUC {Z : State} {a0 : Array Value} {n0 : Nat} {h : Heap} (hw : ∀ d ∈ tables_1, d.before a0 Z = true) (hO : Old Z n0 h) {fm : Value} (Sf : Sta Z Z.heap "jdk/internal/util/Preconditions" "SIOOBE_FORMATTER" "Ljava/util/function/BiFunction;" fm) (rf : fm.isRef = true) (S_AD : Sta Z Z.heap "java/lang/StringUTF16" "$assertionsDisabled" "Z" (.int 1)) (S_HI : Sta Z Z.heap "java/lang/StringUTF16" "HI_BYTE_SHIFT" "I" (.int 0)) (S_LO : Sta Z Z.heap "java/lang/StringUTF16" "LO_BYTE_SHIFT" "I" (.int 8)) {b : Addr} {kb : ClassId} {cs : List Int32} {N n i : Int32} (j : Nat) (V : Arv Z h b kb .byte N (StrChars.Road.wideBytes cs) (.int 0)) (hj : j < cs.length) (c16 : C16 (cs.getD j 0)) (hN : N >>> ((1 : Int32) &&& 31) = n) (g0 : ¬ i < 0) (g1 : i < n) (h1 : ¬ (i <<< ((1 : Int32) &&& 31)) < 0 ∧ (i <<< ((1 : Int32) &&& 31)) < N) (h2 : (i <<< ((1 : Int32) &&& 31)).toNatClampNeg = 2 * j) (h3 : ¬ ((i <<< ((1 : Int32) &&& 31)) + (1 : Int32)) < 0 ∧ ((i <<< ((1 : Int32) &&& 31)) + (1 : Int32)) < N) (h4 : ((i <<< ((1 : Int32) &&& 31)) + (1 : Int32)).toNatClampNeg = 2 * j + 1) :
    Met Z EL1 n0 ⟨"java/lang/StringUTF16", "charAt", "([BI)C"⟩ jdk_52_method_83_code 2 (some .char) rmUC #[.ref b, .int i] h [] (fun v h' => v = some (.int (cs.getD j 0)) ∧ h' = h) := by
  have w : ∀ (i : Nat) {d : Jvm.Cond}, tables_1[i]? = some d → d.before a0 Z = true := fun i d q => hw d (List.mem_of_getElem? q)
  have hEL : EW Z a0 EL1 := EW.cons (w 27 rfl) (by simp) EW.nil
  refine Met.of_walk (a0 := a0) pnU hEL hO all0 (L0 := #[.val (.ref b), .val (.int i)]) (fun m => by first | (simp [entryFrame, mkF, argsToLocals, Value.category, maxLocals]; done) | rfl) rfl ?_
  intro k H0
  have H1 := H0.iloadN 1 dUC_0 rfl
  have H2 := H1.aloadN 2 dUC_1 rfl
  obtain ⟨_, hu1, ⟨rfl, e1⟩, Ku1, H3⟩ := H2.callS 5 (z := ⟨"java/lang/StringUTF16", "checkIndex", "(I[B)V"⟩) (w 132 rfl) (w 133 rfl) (w 73 rfl) (w 134 rfl) (by decide) (argsL := [(.int i), (.ref b)]) (rest := []) (Paid.of_met (W := 0) (metUX hw H2.oldO Sf rf V hN g0 g1) (w 134 rfl) (w 73 rfl) hEL (by decide) (by decide)) (lenOf pd_14 rfl) rfl (Nat.le_of_eq rfl) dUC_2 (by decide) (by decide) all0
  obtain rfl := e1.symm
  have H4 := H3.aloadN 6 dUC_5 rfl
  have H5 := H4.iloadN 7 dUC_6 rfl
  obtain ⟨_, hu2, ⟨rfl, e2⟩, Ku2, H6⟩ := H5.callS 10 (z := ⟨"java/lang/StringUTF16", "getChar", "([BI)C"⟩) (w 126 rfl) (w 127 rfl) (w 73 rfl) (w 128 rfl) (by decide) (argsL := [(.ref b), (.int i)]) (rest := []) (Paid.of_met (W := 0) (metGET hw H5.oldO S_AD S_HI S_LO j V h1 h2 h3 h4 (StrChars.Road.wide_lo _ cs j hj) (StrChars.Road.wide_hi _ cs j hj)) (w 128 rfl) (w 73 rfl) hEL (by decide) (by decide)) (lenOf pdw_1 rfl) rfl (Nat.le_of_eq rfl) dUC_7 (by decide) (by decide) all0
  obtain rfl := e2.symm
  rw [StrChars.pair_says c16.1 c16.2] at H6
  exact H6.retI rfl (c16_narrow c16) (by simp) dUC_10 (by decide) (by decide) ⟨rfl, rfl⟩
set_option maxRecDepth 65536 in
set_option maxHeartbeats 4000000 in
theorem metIL {Z : State} {a0 : Array Value} {n0 : Nat} {h : Heap} (hw : ∀ d ∈ tables_1, d.before a0 Z = true) (hO : Old Z n0 h) {zc : Int32} (Sc : Sta Z Z.heap ST "COMPACT_STRINGS" "Z" (.int zc)) (hzc : ¬ zc = 0) {x : Addr} (C : Fld Z h x ST "coder" "B" (.int 1)) :
    Met Z EL1 n0 ⟨"java/lang/String", "isLatin1", "()Z"⟩ jdk_42_method_154_code 1 (some .boolean) rm0 #[.ref x] h [] (fun v h' => v = some (.int 0) ∧ h' = h) := by
  have w : ∀ (i : Nat) {d : Jvm.Cond}, tables_1[i]? = some d → d.before a0 Z = true := fun i d q => hw d (List.mem_of_getElem? q)
  have hEL : EW Z a0 EL1 := EW.cons (w 27 rfl) (by simp) EW.nil
  refine Met.of_walk (a0 := a0) pnST hEL hO all0 (L0 := #[.val (.ref x)]) (fun m => by first | (simp [entryFrame, mkF, argsToLocals, Value.category, maxLocals]; done) | rfl) rfl ?_
  intro k H0
  have H1 := H0.getS 3 (w 49 rfl) (staOld Sc H0.oldO) dIL_0
  have H2 := H1.ifNo 6 dIL_3 (XT.i0_eq_f hzc)
  have H3 := H2.aloadN 7 dIL_6 rfl
  have H4 := H3.getF 10 (w 34 rfl) C dIL_7
  have H5 := H4.ifYes 17 dIL_10 (XT.i0_ne_t (by decide))
  have H6 := H5.iconst 18 (0 : Int32) dIL_17
  exact H6.retI rfl rfl (by simp) dIL_18 (by decide) (by decide) ⟨rfl, rfl⟩
abbrev rmCA : Room := { frames := 4, cells := 0, slots := 0, locals := 60 }
set_option maxRecDepth 65536 in
set_option maxHeartbeats 4000000 in
theorem metCA {Z : State} {a0 : Array Value} {n0 : Nat} {h : Heap} (hw : ∀ d ∈ tables_1, d.before a0 Z = true) (hO : Old Z n0 h) {zc : Int32} (Sc : Sta Z Z.heap ST "COMPACT_STRINGS" "Z" (.int zc)) (hzc : ¬ zc = 0) {fm : Value} (Sf : Sta Z Z.heap "jdk/internal/util/Preconditions" "SIOOBE_FORMATTER" "Ljava/util/function/BiFunction;" fm) (rf : fm.isRef = true) (S_AD : Sta Z Z.heap "java/lang/StringUTF16" "$assertionsDisabled" "Z" (.int 1)) (S_HI : Sta Z Z.heap "java/lang/StringUTF16" "HI_BYTE_SHIFT" "I" (.int 0)) (S_LO : Sta Z Z.heap "java/lang/StringUTF16" "LO_BYTE_SHIFT" "I" (.int 8)) {b : Addr} {kb : ClassId} {cs : List Int32} {N n i : Int32} (j : Nat) (V : Arv Z h b kb .byte N (StrChars.Road.wideBytes cs) (.int 0)) (hj : j < cs.length) (c16 : C16 (cs.getD j 0)) (hN : N >>> ((1 : Int32) &&& 31) = n) (g0 : ¬ i < 0) (g1 : i < n) (h1 : ¬ (i <<< ((1 : Int32) &&& 31)) < 0 ∧ (i <<< ((1 : Int32) &&& 31)) < N) (h2 : (i <<< ((1 : Int32) &&& 31)).toNatClampNeg = 2 * j) (h3 : ¬ ((i <<< ((1 : Int32) &&& 31)) + (1 : Int32)) < 0 ∧ ((i <<< ((1 : Int32) &&& 31)) + (1 : Int32)) < N) (h4 : ((i <<< ((1 : Int32) &&& 31)) + (1 : Int32)).toNatClampNeg = 2 * j + 1) {x : Addr} (E : Exa Z h x ST) (C : Fld Z h x ST "coder" "B" (.int 1)) (F : Fld Z h x ST "value" "[B" (.ref b)) :
    Met Z EL1 n0 ⟨"java/lang/String", "charAt", "(I)C"⟩ jdk_42_method_56_code 2 (some .char) rmCA #[.ref x, .int i] h [] (fun v h' => v = some (.int (cs.getD j 0)) ∧ h' = h) := by
  have w : ∀ (i : Nat) {d : Jvm.Cond}, tables_1[i]? = some d → d.before a0 Z = true := fun i d q => hw d (List.mem_of_getElem? q)
  have hEL : EW Z a0 EL1 := EW.cons (w 27 rfl) (by simp) EW.nil
  refine Met.of_walk (a0 := a0) pnST hEL hO all0 (L0 := #[.val (.ref x), .val (.int i)]) (fun m => by first | (simp [entryFrame, mkF, argsToLocals, Value.category, maxLocals]; done) | rfl) rfl ?_
  intro k H0
  have H1 := H0.aloadN 1 dCA_0 rfl
  obtain ⟨_, hu1, ⟨rfl, e1⟩, Ku1, H2⟩ := H1.callV 4 (z := ⟨"java/lang/String", "isLatin1", "()Z"⟩) (z1 := ⟨"java/lang/String", "isLatin1", "()Z"⟩) (C := "java/lang/String") (w 86 rfl) (w 87 rfl) (w 89 rfl) (w 88 rfl) (by decide) (a := x) E (argsL := []) (rest := []) (Paid.of_met (W := 0) (metIL hw H1.oldO Sc hzc C) (w 90 rfl) (w 16 rfl) hEL (by decide) (by decide)) (lenOf pd_12 rfl) rfl (Nat.le_of_eq rfl) dCA_1 (by decide) (by decide) all0
  obtain rfl := e1.symm
  have H3 := H2.ifYes 16 dCA_4 (XT.i0_eq_t (by decide))
  have H4 := H3.aloadN 17 dCA_16 rfl
  have H5 := H4.getF 20 (w 33 rfl) F dCA_17
  have H6 := H5.iloadN 21 dCA_20 rfl
  obtain ⟨_, hu2, ⟨rfl, e2⟩, Ku2, H7⟩ := H6.callS 24 (z := ⟨"java/lang/StringUTF16", "charAt", "([BI)C"⟩) (w 129 rfl) (w 130 rfl) (w 73 rfl) (w 131 rfl) (by decide) (argsL := [(.ref b), (.int i)]) (rest := []) (Paid.of_met (W := 0) (metUC hw H6.oldO Sf rf S_AD S_HI S_LO j V hj c16 hN g0 g1 h1 h2 h3 h4) (w 131 rfl) (w 73 rfl) hEL (by decide) (by decide)) (lenOf pd_13 rfl) rfl (Nat.le_of_eq rfl) dCA_21 (by decide) (by decide) all0
  obtain rfl := e2.symm
  exact H7.retI rfl (c16_narrow c16) (by simp) dCA_24 (by decide) (by decide) ⟨rfl, rfl⟩
set_option maxRecDepth 65536 in
set_option maxHeartbeats 4000000 in
theorem payAny {k : Ctx} {R : Room} {Z : State} {a0 : Array Value} {n0 : Nat} {h : Heap} (hw : ∀ d ∈ tables_1, d.before a0 Z = true) (hO : Old Z n0 h) {zc : Int32} (Sc : Sta Z Z.heap ST "COMPACT_STRINGS" "Z" (.int zc)) (hzc : ¬ zc = 0) {fm : Value} (Sf : Sta Z Z.heap "jdk/internal/util/Preconditions" "SIOOBE_FORMATTER" "Ljava/util/function/BiFunction;" fm) (rf : fm.isRef = true) (S_AD : Sta Z Z.heap "java/lang/StringUTF16" "$assertionsDisabled" "Z" (.int 1)) (S_HI : Sta Z Z.heap "java/lang/StringUTF16" "HI_BYTE_SHIFT" "I" (.int 0)) (S_LO : Sta Z Z.heap "java/lang/StringUTF16" "LO_BYTE_SHIFT" "I" (.int 8)) {W : Nat} {x : Addr} {cs : List Int32} (S : Str Z h x cs) (l4 : cs.length ≤ 4) {j : Nat} {i : Int32} (hj : j < cs.length) (hi : i = Int32.ofNat j) (hfr : 5 ≤ R.frames) (hlo : W + 73 ≤ R.locals) :
    Paid k R Z EL1 n0 (⟨"java/lang/String", "charAt", "(I)C"⟩ : MethodName) W #[.ref x, .int i] h [] 0 0 (fun v h' => h' = h ∧ v = some (.int (cs.getD j 0))) := by
  have w : ∀ (i : Nat) {d : Jvm.Cond}, tables_1[i]? = some d → d.before a0 Z = true := fun i d q => hw d (List.mem_of_getElem? q)
  have hEL : EW Z a0 EL1 := EW.cons (w 27 rfl) (by simp) EW.nil
  have hch : ∀ d ∈ StrChars.Road.wordsChN, d.before a0 Z = true := fun d hd => hw d ((by decide +kernel : ∀ d ∈ StrChars.Road.wordsChN, d ∈ tables_1) d hd)
  have S' := S
  obtain ⟨e1, t, kb, cd, N2, vs, f1, f2, f3, f4, f5, f6⟩ := S
  rcases f4 with ⟨rfl, -, -, h8⟩ | ⟨rfl, q1, q2, -⟩
  · exact payCh hEL hch (w 15 rfl) hO S' h8 Sc hzc Sf rf hj hi (by omega) (by omega)
  · subst q2
    have c16 : C16 (cs.getD j 0) := by
      have q : cs.getD j 0 = cs[j] := by simp [List.getD_eq_getElem?_getD, hj]
      rw [q]; exact f5 _ (List.getElem_mem hj)
    have hM : Met Z EL1 n0 ⟨"java/lang/String", "charAt", "(I)C"⟩ jdk_42_method_56_code 2 (some .char) rmCA #[.ref x, .int i] h [] (fun v h' => v = some (.int (cs.getD j 0)) ∧ h' = h) := by
      have hc : (cs.length = 1 ∨ cs.length = 2 ∨ cs.length = 3 ∨ cs.length = 4) ∧ (j = 0 ∨ j = 1 ∨ j = 2 ∨ j = 3) := by omega
      have key : ∀ L : Nat, cs.length = L → (L = 1 ∨ L = 2 ∨ L = 3 ∨ L = 4) → j < L → Met Z EL1 n0 ⟨"java/lang/String", "charAt", "(I)C"⟩ jdk_42_method_56_code 2 (some .char) rmCA #[.ref x, .int i] h [] (fun v h' => v = some (.int (cs.getD j 0)) ∧ h' = h) := by
        intro L hL hc1 hjl
        rw [hL] at q1
        rcases hc.2 with rfl | rfl | rfl | rfl <;> rcases hc1 with rfl | rfl | rfl | rfl <;> first
          | (exfalso; omega)
          | (subst hi q1; exact metCA hw hO Sc hzc Sf rf S_AD S_HI S_LO _ f3 hj c16 (n := Int32.ofNat _) (by rw [StrChars.shr1 (by omega)]) (by decide) (by decide) ⟨by decide, by decide⟩ (by decide) ⟨by decide, by decide⟩ (by decide) e1 f2 f1)
      exact key _ rfl hc.1 hj
    exact ((Paid.of_met hM (w 85 rfl) (w 16 rfl) hEL (by show 4 + 1 ≤ _; omega) (by show W + (2 + 11) + 60 ≤ _; omega)).mono fun v h' q => ⟨q.2, q.1⟩)
theorem icmp_lt {a b : Int32} (h : a.toInt < b.toInt) : icmp a b = -1 := by unfold icmp; rw [if_pos (Int32.lt_iff_toInt_lt.mpr h)]
theorem icmp_gt {a b : Int32} (h : b.toInt < a.toInt) : icmp a b = 1 := by
  unfold icmp
  rw [if_neg (by rw [Int32.lt_iff_toInt_lt]; omega), if_neg (fun q => by subst q; omega)]
theorem icmp_eq (a : Int32) : icmp a a = 0 := by
  unfold icmp
  rw [if_neg (by rw [Int32.lt_iff_toInt_lt]; omega), if_pos rfl]
theorem rnk_b {a : Int32} (h : CPt a) (e : a < 65536) : (a.toInt < 55296 → (rnk a).toInt = a.toInt) ∧ (57344 ≤ a.toInt → (rnk a).toInt = a.toInt - 2048) := by
  have k1 : (57344 : Int32).toInt = 57344 := rfl
  have k2 : (55296 : Int32).toInt = 55296 := rfl
  have k3 : (2048 : Int32).toInt = 2048 := rfl
  have k4 : (65536 : Int32).toInt = 65536 := rfl
  rw [Int32.lt_iff_toInt_lt] at e
  obtain ⟨h1, h2, h3⟩ := h
  refine ⟨fun q => ?_, fun q => ?_⟩
  · unfold rnk
    rw [if_pos (by rw [Int32.lt_iff_toInt_lt]; omega), if_pos (by rw [Int32.lt_iff_toInt_lt]; omega)]
  · unfold rnk
    rw [if_neg (by rw [Int32.lt_iff_toInt_lt]; omega)]
    have r := c_isub a 2048
    have := (a - 2048).toInt_lt
    have := (a - 2048).le_toInt
    omega
theorem sup_v {c : Int32} (h : CPt c) (e : ¬ c < 65536) : 65536 ≤ c.toInt ∧ (c - 65536).toInt = c.toInt - 65536 := by
  have k4 : (65536 : Int32).toInt = 65536 := rfl
  rw [Int32.lt_iff_toInt_lt] at e
  obtain ⟨h1, h2, h3⟩ := h
  have r := c_isub c 65536
  have := (c - 65536).toInt_lt
  have := (c - 65536).le_toInt
  omega
theorem hs_v {c : Int32} (h : CPt c) (e : ¬ c < 65536) : (hsU c).toInt = 55296 + (c.toInt - 65536) / 1024 := by
  obtain ⟨g1, g2⟩ := sup_v h e
  have k2 : (55296 : Int32).toInt = 55296 := rfl
  have k5 : (65535 : Int32).toInt = 65535 := rfl
  have k0 : (0 : Int32).toInt = 0 := rfl
  have r := c_ishr (c - 65536) 10 10 (by decide)
  have h2 := h.2.1
  have r2 := c_iadd 55296 ((c - 65536) >>> ((10 : Int32) &&& 31))
  have := ((55296 : Int32) + ((c - 65536) >>> ((10 : Int32) &&& 31))).toInt_lt
  have := ((55296 : Int32) + ((c - 65536) >>> ((10 : Int32) &&& 31))).le_toInt
  have h4 : ((55296 : Int32) + ((c - 65536) >>> ((10 : Int32) &&& 31))).toInt = 55296 + (c.toInt - 65536) / 1024 := by rw [g2] at r; omega
  unfold hsU
  rw [i2c_id ⟨by rw [Int32.lt_iff_toInt_lt]; omega, by rw [Int32.lt_iff_toInt_lt]; omega⟩]
  exact h4
theorem ls_v {c : Int32} (h : CPt c) (e : ¬ c < 65536) : (lsU c).toInt = 56320 + (c.toInt - 65536) % 1024 := by
  obtain ⟨g1, g2⟩ := sup_v h e
  have k2 : (56320 : Int32).toInt = 56320 := rfl
  have k5 : (65535 : Int32).toInt = 65535 := rfl
  have k0 : (0 : Int32).toInt = 0 := rfl
  have r := c_mask (c - 65536) 1023 10 (by decide) (by decide)
  have r2 := c_iadd 56320 ((c - 65536) &&& 1023)
  have := ((56320 : Int32) + ((c - 65536) &&& 1023)).toInt_lt
  have := ((56320 : Int32) + ((c - 65536) &&& 1023)).le_toInt
  have h4 : ((56320 : Int32) + ((c - 65536) &&& 1023)).toInt = 56320 + (c.toInt - 65536) % 1024 := by rw [g2] at r; omega
  unfold lsU
  rw [i2c_id ⟨by rw [Int32.lt_iff_toInt_lt]; omega, by rw [Int32.lt_iff_toInt_lt]; omega⟩]
  exact h4
theorem rnk_s {c : Int32} (h1 : 55296 ≤ c.toInt) (h2 : c.toInt < 57344) : (rnk c).toInt = c.toInt + 8192 := by
  have k1 : (57344 : Int32).toInt = 57344 := rfl
  have k2 : (55296 : Int32).toInt = 55296 := rfl
  have k3 : (8192 : Int32).toInt = 8192 := rfl
  unfold rnk
  rw [if_pos (by rw [Int32.lt_iff_toInt_lt]; omega), if_neg (by rw [Int32.lt_iff_toInt_lt]; omega)]
  have r := c_iadd c 8192
  have := (c + 8192).toInt_lt
  have := (c + 8192).le_toInt
  omega
theorem ne_i {a b : Int32} (h : a.toInt ≠ b.toInt) : a ≠ b := fun q => h (by rw [q])
theorem cmpL_ne {a b : Int32} (ha : CPt a) (hb : CPt b) (ne : a.toInt ≠ b.toInt) (s t : List Int32) : cmpL (enc a ++ s) (enc b ++ t) = if a.toInt < b.toInt then -1 else 1 := by
  have k4 : (65536 : Int32).toInt = 65536 := rfl
  have fin : ∀ {x y : Int32} {s t : List Int32}, x.toInt ≠ y.toInt → ((rnk x).toInt < (rnk y).toInt ↔ a.toInt < b.toInt) → (rnk x).toInt ≠ (rnk y).toInt → cmpL (x :: s) (y :: t) = if a.toInt < b.toInt then -1 else 1 := by
    intro x y s t h1 h2 h3
    show (if x = y then cmpL s t else icmp (rnk x) (rnk y)) = _
    rw [if_neg (ne_i h1)]
    by_cases q : a.toInt < b.toInt
    · rw [if_pos q, icmp_lt (h2.mpr q)]
    · rw [if_neg q, icmp_gt (by have := mt h2.mp q; omega)]
  obtain ⟨a1, a2, a3⟩ := ha
  obtain ⟨b1, b2, b3⟩ := hb
  by_cases ea : a < 65536 <;> by_cases eb : b < 65536
  · have ra := rnk_b ⟨a1, a2, a3⟩ ea
    have rb := rnk_b ⟨b1, b2, b3⟩ eb
    rw [enc_b ea, enc_b eb]
    refine fin ne ?_ ?_ <;> rcases a3 with q | q <;> rcases b3 with q' | q' <;> first | (have u1 := ra.1 q; have u2 := rb.1 q'; omega) | (have u1 := ra.1 q; have u2 := rb.2 q'; omega) | (have u1 := ra.2 q; have u2 := rb.1 q'; omega) | (have u1 := ra.2 q; have u2 := rb.2 q'; omega)
  · have ra := rnk_b ⟨a1, a2, a3⟩ ea
    have hv := hs_v ⟨b1, b2, b3⟩ eb
    have sv := sup_v ⟨b1, b2, b3⟩ eb
    have rs := rnk_s (c := hsU b) (by omega) (by omega)
    rw [Int32.lt_iff_toInt_lt] at ea
    rw [enc_b (Int32.lt_iff_toInt_lt.mpr ea), enc_s eb]
    refine fin (by omega) ?_ ?_ <;> rcases a3 with q | q <;> first | (have u1 := ra.1 q; omega) | (have u1 := ra.2 q; omega)
  · have rb := rnk_b ⟨b1, b2, b3⟩ eb
    have hv := hs_v ⟨a1, a2, a3⟩ ea
    have sv := sup_v ⟨a1, a2, a3⟩ ea
    have rs := rnk_s (c := hsU a) (by omega) (by omega)
    rw [Int32.lt_iff_toInt_lt] at eb
    rw [enc_s ea, enc_b (Int32.lt_iff_toInt_lt.mpr eb)]
    refine fin (by omega) ?_ ?_ <;> rcases b3 with q | q <;> first | (have u1 := rb.1 q; omega) | (have u1 := rb.2 q; omega)
  · have hva := hs_v ⟨a1, a2, a3⟩ ea
    have sva := sup_v ⟨a1, a2, a3⟩ ea
    have lva := ls_v ⟨a1, a2, a3⟩ ea
    have rsa := rnk_s (c := hsU a) (by omega) (by omega)
    have rla := rnk_s (c := lsU a) (by omega) (by omega)
    have hvb := hs_v ⟨b1, b2, b3⟩ eb
    have svb := sup_v ⟨b1, b2, b3⟩ eb
    have lvb := ls_v ⟨b1, b2, b3⟩ eb
    have rsb := rnk_s (c := hsU b) (by omega) (by omega)
    have rlb := rnk_s (c := lsU b) (by omega) (by omega)
    rw [enc_s ea, enc_s eb]
    by_cases q : (hsU a).toInt = (hsU b).toInt
    · show (if hsU a = hsU b then cmpL (lsU a :: s) (lsU b :: t) else _) = _
      rw [if_pos (Int32.toInt_inj.mp q)]
      exact fin (by omega) (by omega) (by omega)
    · exact fin q (by omega) (by omega)
theorem cmpL_eq (a : Int32) (s t : List Int32) : cmpL (enc a ++ s) (enc a ++ t) = cmpL s t := by
  by_cases e : a < 65536
  · rw [enc_b e]; show (if a = a then cmpL s t else _) = _; rw [if_pos rfl]
  · rw [enc_s e]; show (if hsU a = hsU a then (if lsU a = lsU a then cmpL s t else _) else _) = _; rw [if_pos rfl, if_pos rfl]
theorem enc_cons (a : Int32) (s : List Int32) : ∃ x t, enc a ++ s = x :: t := by
  by_cases e : a < 65536
  · rw [enc_b e]; exact ⟨_, _, rfl⟩
  · rw [enc_s e]; exact ⟨_, _, rfl⟩
theorem cmpL_nl (a : Int32) (s : List Int32) : cmpL [] (enc a ++ s) = -1 := by obtain ⟨x, t, q⟩ := enc_cons a s; rw [q]; rfl
theorem cmpL_nr (a : Int32) (s : List Int32) : cmpL (enc a ++ s) [] = 1 := by obtain ⟨x, t, q⟩ := enc_cons a s; rw [q]; rfl
theorem ccmp_ne {a b : Int32} (ne : a.toInt ≠ b.toInt) : ccmp a b = if a.toInt < b.toInt then -1 else 1 := by
  unfold ccmp
  by_cases q : a.toInt < b.toInt
  · rw [if_pos q, if_pos (Int32.lt_iff_toInt_lt.mpr q)]
  · rw [if_neg q, if_neg (by rw [Int32.lt_iff_toInt_lt]; exact q), if_pos (by rw [Int32.lt_iff_toInt_lt]; omega)]
theorem ne_t {a b : Int32} (h : ¬ a = b) : a.toInt ≠ b.toInt := fun q => h (Int32.toInt_inj.mp q)
theorem r0 (a0 a1 nb b0 b1 : Int32) : rfd 0 a0 a1 nb b0 b1 = ccmp 0 nb := by unfold rfd; rw [if_pos (by decide)]
theorem rn0 {na : Int32} (h : ¬ na < 1) (a0 a1 b0 b1 : Int32) : rfd na a0 a1 0 b0 b1 = ccmp na 0 := by unfold rfd; rw [if_neg h, if_pos (by decide)]
theorem rne {na nb : Int32} (h1 : ¬ na < 1) (h2 : ¬ nb < 1) (a0 a1 b0 b1 : Int32) (q : ¬ a0 = b0) : rfd na a0 a1 nb b0 b1 = ccmp a0 b0 := by unfold rfd; rw [if_neg h1, if_neg h2, if_neg q]
theorem r1 {nb : Int32} (h2 : ¬ nb < 1) (a0 a1 b1 : Int32) : rfd 1 a0 a1 nb a0 b1 = ccmp 1 nb := by unfold rfd; rw [if_neg (by decide), if_neg h2, if_pos rfl, if_pos (by decide)]
theorem r21 (a0 a1 b1 : Int32) : rfd 2 a0 a1 1 a0 b1 = ccmp 2 1 := by unfold rfd; rw [if_neg (by decide), if_neg (by decide), if_pos rfl, if_neg (by decide), if_pos (by decide)]
theorem r22 (a0 a1 b1 : Int32) : rfd 2 a0 a1 2 a0 b1 = if a1 = b1 then ccmp 2 2 else ccmp a1 b1 := by unfold rfd; rw [if_neg (by decide), if_neg (by decide), if_pos rfl, if_neg (by decide), if_neg (by decide)]
theorem law_sg {na nb a0 a1 b0 b1 : Int32} (h1 : In3 na) (h2 : In3 nb) (A0 : CPt a0) (A1 : CPt a1) (B0 : CPt b0) (B1 : CPt b1) : sg (cmpL (encs na a0 a1) (encs nb b0 b1)) = sg (rfd na a0 a1 nb b0 b1) := by
  have one : ∀ c d : Int32, encs 1 c d = enc c ++ [] := fun c d => by rw [encs_1, List.append_nil]
  have z2 : ¬ (2 : Int32) < 1 := by decide
  have z1 : ¬ (1 : Int32) < 1 := by decide
  have ne0 : ∀ s t, ¬ a0 = b0 → cmpL (enc a0 ++ s) (enc b0 ++ t) = ccmp a0 b0 := fun s t q => by rw [cmpL_ne A0 B0 (ne_t q), ccmp_ne (ne_t q)]
  rcases h1 with rfl | rfl | rfl <;> rcases h2 with rfl | rfl | rfl
  · rw [encs_0, encs_0, r0]; decide
  · rw [encs_0, one, cmpL_nl, r0]; decide
  · rw [encs_0, encs_2, cmpL_nl, r0]; decide
  · rw [encs_0, one, cmpL_nr, rn0 z1]; decide
  · rw [one, one]
    by_cases q : a0 = b0
    · subst q; rw [cmpL_eq, r1 z1]; decide
    · rw [ne0 _ _ q, rne z1 z1 _ _ _ _ q]
  · rw [one, encs_2]
    by_cases q : a0 = b0
    · subst q; rw [cmpL_eq, ← List.append_nil (enc b1), cmpL_nl, r1 z2]; decide
    · rw [ne0 _ _ q, rne z1 z2 _ _ _ _ q]
  · rw [encs_0, encs_2, cmpL_nr, rn0 z2]; decide
  · rw [one, encs_2]
    by_cases q : a0 = b0
    · subst q; rw [cmpL_eq, ← List.append_nil (enc a1), cmpL_nr, r21]; decide
    · rw [ne0 _ _ q, rne z2 z1 _ _ _ _ q]
  · rw [encs_2, encs_2]
    by_cases q : a0 = b0
    · subst q
      rw [cmpL_eq, ← List.append_nil (enc a1), ← List.append_nil (enc b1), r22]
      by_cases q' : a1 = b1
      · subst q'; rw [cmpL_eq, if_pos rfl]; decide
      · rw [cmpL_ne A1 B1 (ne_t q'), ← ccmp_ne (ne_t q'), if_neg q']
    · rw [ne0 _ _ q, rne z2 z2 _ _ _ _ q]
theorem drop_c {xs : List Int32} {i : Nat} (h : i < xs.length) : xs.drop i = xs.getD i 0 :: xs.drop (i + 1) := by
  rw [List.drop_eq_getElem_cons h]
  simp [List.getD_eq_getElem?_getD, h]
theorem cmpL_step {xs ys : List Int32} {i : Nat} (h1 : i < xs.length) (h2 : i < ys.length) : cmpL (xs.drop i) (ys.drop i) = if xs.getD i 0 = ys.getD i 0 then cmpL (xs.drop (i + 1)) (ys.drop (i + 1)) else icmp (rnk (xs.getD i 0)) (rnk (ys.getD i 0)) := by
  rw [drop_c h1, drop_c h2]; rfl
theorem ofn {n : Nat} (h : n ≤ 4) : (Int32.ofNat n).toInt = n := Int32.toInt_ofNat_small (by omega)
theorem cmpL_end {xs ys : List Int32} (hx : xs.length ≤ 4) (hy : ys.length ≤ 4) {i : Nat} (hi : i = min xs.length ys.length) : cmpL (xs.drop i) (ys.drop i) = icmp (Int32.ofNat xs.length) (Int32.ofNat ys.length) := by
  rcases Nat.lt_trichotomy xs.length ys.length with q | q | q
  · rw [icmp_lt (by rw [ofn hx, ofn hy]; omega), List.drop_eq_nil_of_le (as := xs) (by omega), drop_c (xs := ys) (by omega)]; rfl
  · rw [← q, icmp_eq, List.drop_eq_nil_of_le (as := xs) (by omega), List.drop_eq_nil_of_le (as := ys) (by omega)]; rfl
  · rw [icmp_gt (by rw [ofn hx, ofn hy]; omega), List.drop_eq_nil_of_le (as := ys) (by omega), drop_c (xs := xs) (by omega)]; rfl
theorem min_of {a b : Nat} (ha : a ≤ 4) (hb : b ≤ 4) : (if Int32.ofNat b < Int32.ofNat a then Int32.ofNat b else Int32.ofNat a) = Int32.ofNat (min a b) := by
  by_cases q : b < a
  · rw [if_pos (by rw [Int32.lt_iff_toInt_lt, ofn ha, ofn hb]; omega), Nat.min_eq_right (by omega)]
  · rw [if_neg (by rw [Int32.lt_iff_toInt_lt, ofn ha, ofn hb]; omega), Nat.min_eq_left (by omega)]
theorem of_lt {a b : Nat} (ha : a ≤ 4) (hb : b ≤ 4) : Int32.ofNat a < Int32.ofNat b ↔ a < b := by rw [Int32.lt_iff_toInt_lt, ofn ha, ofn hb]; omega
theorem of_suc {i : Nat} (h : i < 4) : Int32.ofNat i + 1 = Int32.ofNat (i + 1) := by
  have : i = 0 ∨ i = 1 ∨ i = 2 ∨ i = 3 := by omega
  rcases this with rfl | rfl | rfl | rfl <;> rfl
abbrev rmCo : Room := { frames := 5, cells := 0, slots := 0, locals := 76 }
set_option maxRecDepth 65536 in
set_option maxHeartbeats 4000000 in
theorem metCo {Z : State} {a0 : Array Value} {n0 : Nat} {h : Heap} (hw : ∀ d ∈ tables_1, d.before a0 Z = true) (hO : Old Z n0 h) {zc : Int32} (Sc : Sta Z Z.heap ST "COMPACT_STRINGS" "Z" (.int zc)) (hzc : ¬ zc = 0) {fm : Value} (Sf : Sta Z Z.heap "jdk/internal/util/Preconditions" "SIOOBE_FORMATTER" "Ljava/util/function/BiFunction;" fm) (rf : fm.isRef = true) (S_AD : Sta Z Z.heap "java/lang/StringUTF16" "$assertionsDisabled" "Z" (.int 1)) (S_HI : Sta Z Z.heap "java/lang/StringUTF16" "HI_BYTE_SHIFT" "I" (.int 0)) (S_LO : Sta Z Z.heap "java/lang/StringUTF16" "LO_BYTE_SHIFT" "I" (.int 8)) {x y : Addr} {xs ys : List Int32} (Sx : Str Z h x xs) (Sy : Str Z h y ys) (lx : xs.length ≤ 4) (ly : ys.length ≤ 4) :
    Met Z EL1 n0 ⟨"com/example/load_then_swap/loadthenswap/input/KeyOrder", "compare", "(Ljava/lang/String;Ljava/lang/String;)I"⟩ prog_11_method_2_code 6 (some .int) rmCo #[.ref x, .ref y] h [] (fun v h' => v = some (.int (cmpL xs ys)) ∧ h' = h) := by
  have w : ∀ (i : Nat) {d : Jvm.Cond}, tables_1[i]? = some d → d.before a0 Z = true := fun i d q => hw d (List.mem_of_getElem? q)
  have hEL : EW Z a0 EL1 := EW.cons (w 27 rfl) (by simp) EW.nil
  have hln : ∀ d ∈ StrChars.Road.wordsLen, d.before a0 Z = true := fun d hd => hw d ((by decide +kernel : ∀ d ∈ StrChars.Road.wordsLen, d ∈ tables_1) d hd)
  refine Met.of_walk (a0 := a0) pnK hEL hO all0 (L0 := #[.val (.ref x), .val (.ref y), .unset, .unset, .unset, .unset]) (fun m => by first | (simp [entryFrame, mkF, argsToLocals, Value.category, maxLocals]; done) | rfl) rfl ?_
  intro kx H0
  have H1 := H0.aloadN 1 dCo_0 rfl
  obtain ⟨_, h1, ⟨e1, rfl⟩, K1, H2⟩ := H1.callV 4 (z := ⟨"java/lang/String", "length", "()I"⟩) (z1 := ⟨"java/lang/String", "length", "()I"⟩) (C := "java/lang/String") (w 39 rfl) (w 40 rfl) (w 42 rfl) (w 41 rfl) (by decide) (a := x) Sx.1 (argsL := []) (rest := []) (payLen (W := 0) hEL hln (w 15 rfl) H1.oldO Sx Sc hzc (by decide) (by decide)) (lenOf pd_18 rfl) rfl (Nat.le_of_eq rfl) dCo_1 (by decide) (by decide) all0
  obtain rfl := e1.symm
  have H3 := H2.aloadN 5 dCo_4 rfl
  obtain ⟨_, h2, ⟨e2, rfl⟩, K2, H4⟩ := H3.callV 8 (z := ⟨"java/lang/String", "length", "()I"⟩) (z1 := ⟨"java/lang/String", "length", "()I"⟩) (C := "java/lang/String") (w 39 rfl) (w 40 rfl) (w 42 rfl) (w 41 rfl) (by decide) (a := y) Sy.1 (argsL := []) (rest := [(.int (Int32.ofNat xs.length))]) (payLen (W := 1) hEL hln (w 15 rfl) H3.oldO Sy Sc hzc (by decide) (by decide)) (lenOf pd_18 rfl) rfl (Nat.le_of_eq rfl) dCo_5 (by decide) (by decide) all0
  obtain rfl := e2.symm
  obtain ⟨_, h3, ⟨rfl, e3⟩, K3, H5⟩ := H4.callS 11 (z := ⟨"java/lang/Math", "min", "(II)I"⟩) (w 50 rfl) (w 51 rfl) (w 52 rfl) (w 53 rfl) (by decide) (argsL := [(.int (Int32.ofNat xs.length)), (.int (Int32.ofNat ys.length))]) (rest := []) (Paid.of_met (W := 0) (metMin hw H4.oldO (Int32.ofNat xs.length) (Int32.ofNat ys.length)) (w 53 rfl) (w 52 rfl) hEL (by decide) (by decide)) (lenOf pd_9 rfl) rfl (Nat.le_of_eq rfl) dCo_8 (by decide) (by decide) all0
  obtain rfl := e3.symm
  rw [min_of lx ly] at H5
  have H6 := H5.istoreN 12 dCo_11 (L' := #[.val (.ref x), .val (.ref y), .val (.int (Int32.ofNat (min xs.length ys.length))), .unset, .unset, .unset]) rfl
  have H7 := H6.iconst 13 (0 : Int32) dCo_12
  have H8 := H7.istoreN 14 dCo_13 (L' := #[.val (.ref x), .val (.ref y), .val (.int (Int32.ofNat (min xs.length ys.length))), .val (.int (0 : Int32)), .unset, .unset]) rfl
  have loop : ∀ (r i : Nat), i + r = min xs.length ys.length → ∀ s4 s5 : Slot, ((s4 = .unset ∧ s5 = .unset) ∨ ∃ u v : Int32, s4 = .val (.int u) ∧ s5 = .val (.int v)) → cmpL (xs.drop i) (ys.drop i) = cmpL xs ys →
      Here kx rmCo Z EL1 n0 ⟨"com/example/load_then_swap/loadthenswap/input/KeyOrder", "compare", "(Ljava/lang/String;Ljava/lang/String;)I"⟩ prog_11_method_2_code (some .int) h [] h 14 #[.val (.ref x), .val (.ref y), .val (.int (Int32.ofNat (min xs.length ys.length))), .val (.int (Int32.ofNat i)), s4, s5] [] 0 0 [] →
      Done kx rmCo Z EL1 n0 h [] (fun v h' => v = some (.int (cmpL xs ys)) ∧ h' = h) := by
    intro r
    induction r with
    | zero =>
      intro i hi s4 s5 hs hq G0
      have H101 := G0.iloadN 15 dCo_14 rfl
      have H102 := H101.iloadN 16 dCo_15 rfl
      have H103 := H102.icmpYes 60 dCo_16 (XT.ii_ge_t (by rw [of_lt (by omega) (by omega)]; omega))
      have H104 := H103.aloadN 61 dCo_60 rfl
      obtain ⟨_, h4, ⟨e4, rfl⟩, K4, H105⟩ := H104.callV 64 (z := ⟨"java/lang/String", "length", "()I"⟩) (z1 := ⟨"java/lang/String", "length", "()I"⟩) (C := "java/lang/String") (w 39 rfl) (w 40 rfl) (w 42 rfl) (w 41 rfl) (by decide) (a := x) Sx.1 (argsL := []) (rest := []) (payLen (W := 0) hEL hln (w 15 rfl) H104.oldO Sx Sc hzc (by decide) (by decide)) (lenOf pd_18 rfl) rfl (Nat.le_of_eq rfl) dCo_61 (by decide) (by decide) all0
      obtain rfl := e4.symm
      have H106 := H105.aloadN 65 dCo_64 rfl
      obtain ⟨_, h5, ⟨e5, rfl⟩, K5, H107⟩ := H106.callV 68 (z := ⟨"java/lang/String", "length", "()I"⟩) (z1 := ⟨"java/lang/String", "length", "()I"⟩) (C := "java/lang/String") (w 39 rfl) (w 40 rfl) (w 42 rfl) (w 41 rfl) (by decide) (a := y) Sy.1 (argsL := []) (rest := [(.int (Int32.ofNat xs.length))]) (payLen (W := 1) hEL hln (w 15 rfl) H106.oldO Sy Sc hzc (by decide) (by decide)) (lenOf pd_18 rfl) rfl (Nat.le_of_eq rfl) dCo_65 (by decide) (by decide) all0
      obtain rfl := e5.symm
      obtain ⟨_, h6, ⟨rfl, e6⟩, K6, H108⟩ := H107.callS 71 (z := ⟨"java/lang/Integer", "compare", "(II)I"⟩) (w 54 rfl) (w 55 rfl) (w 56 rfl) (w 57 rfl) (by decide) (argsL := [(.int (Int32.ofNat xs.length)), (.int (Int32.ofNat ys.length))]) (rest := []) (Paid.of_met (W := 0) (metIC hw H107.oldO (Int32.ofNat xs.length) (Int32.ofNat ys.length)) (w 57 rfl) (w 56 rfl) hEL (by decide) (by decide)) (lenOf pd_10 rfl) rfl (Nat.le_of_eq rfl) dCo_68 (by decide) (by decide) all0
      obtain rfl := e6.symm
      exact H108.retI rfl rfl (by simp) dCo_71 (by decide) (by decide) ⟨by rw [← hq, cmpL_end lx ly (by omega)], rfl⟩
    | succ r ih =>
      intro i hi s4 s5 hs hq G0
      have ix : i < xs.length := by omega
      have iy : i < ys.length := by omega
      rw [cmpL_step ix iy] at hq
      rcases hs with ⟨rfl, rfl⟩ | ⟨u, v, rfl, rfl⟩
      · have H201 := G0.iloadN 15 dCo_14 rfl
        have H202 := H201.iloadN 16 dCo_15 rfl
        have H203 := H202.icmpNo 19 dCo_16 (XT.ii_ge_f (by rw [of_lt (by omega) (by omega)]; omega))
        have H204 := H203.aloadN 20 dCo_19 rfl
        have H205 := H204.iloadN 21 dCo_20 rfl
        obtain ⟨_, h4, ⟨e4, rfl⟩, K4, H206⟩ := H205.callV 24 (z := ⟨"java/lang/String", "charAt", "(I)C"⟩) (z1 := ⟨"java/lang/String", "charAt", "(I)C"⟩) (C := "java/lang/String") (w 81 rfl) (w 82 rfl) (w 84 rfl) (w 83 rfl) (by decide) (a := x) Sx.1 (argsL := [(.int (Int32.ofNat i))]) (rest := []) (payAny (W := 0) hw H205.oldO Sc hzc Sf rf S_AD S_HI S_LO Sx lx ix rfl (by decide) (by decide)) (lenOf pd_11 rfl) rfl (Nat.le_of_eq rfl) dCo_21 (by decide) (by decide) all0
        obtain rfl := e4.symm
        have H207 := H206.istore 26 dCo_24 (L' := #[.val (.ref x), .val (.ref y), .val (.int (Int32.ofNat (min xs.length ys.length))), .val (.int (Int32.ofNat i)), .val (.int (xs.getD i 0)), .unset]) rfl
        have H208 := H207.aloadN 27 dCo_26 rfl
        have H209 := H208.iloadN 28 dCo_27 rfl
        obtain ⟨_, h5, ⟨e5, rfl⟩, K5, H210⟩ := H209.callV 31 (z := ⟨"java/lang/String", "charAt", "(I)C"⟩) (z1 := ⟨"java/lang/String", "charAt", "(I)C"⟩) (C := "java/lang/String") (w 81 rfl) (w 82 rfl) (w 84 rfl) (w 83 rfl) (by decide) (a := y) Sy.1 (argsL := [(.int (Int32.ofNat i))]) (rest := []) (payAny (W := 0) hw H209.oldO Sc hzc Sf rf S_AD S_HI S_LO Sy ly iy rfl (by decide) (by decide)) (lenOf pd_11 rfl) rfl (Nat.le_of_eq rfl) dCo_28 (by decide) (by decide) all0
        obtain rfl := e5.symm
        have H211 := H210.istore 33 dCo_31 (L' := #[.val (.ref x), .val (.ref y), .val (.int (Int32.ofNat (min xs.length ys.length))), .val (.int (Int32.ofNat i)), .val (.int (xs.getD i 0)), .val (.int (ys.getD i 0))]) rfl
        have H212 := H211.iload 35 dCo_33 rfl
        have H213 := H212.iload 37 dCo_35 rfl
        by_cases qe : xs.getD i 0 = ys.getD i 0
        · have H214 := H213.icmpYes 54 dCo_37 (XT.ii_eq_t qe)
          have H215 := H214.iinc 57 (1 : Int32) dCo_54 rfl (L' := #[.val (.ref x), .val (.ref y), .val (.int (Int32.ofNat (min xs.length ys.length))), .val (.int ((Int32.ofNat i) + (1 : Int32))), .val (.int (xs.getD i 0)), .val (.int (ys.getD i 0))]) rfl
          have H216 := H215.goto 14 dCo_57
          rw [of_suc (show i < 4 by omega)] at H216
          rw [if_pos qe] at hq
          exact ih (i + 1) (by omega) _ _ (Or.inr ⟨_, _, rfl, rfl⟩) hq H216
        · have H217 := H213.icmpNo 40 dCo_37 (XT.ii_eq_f qe)
          have H218 := H217.iload 42 dCo_40 rfl
          obtain ⟨_, h7, ⟨rfl, e7⟩, K7, H219⟩ := H218.callS 45 (z := ⟨"com/example/load_then_swap/loadthenswap/input/KeyOrder", "rank", "(C)I"⟩) (w 103 rfl) (w 104 rfl) (w 37 rfl) (w 105 rfl) (by decide) (argsL := [(.int (xs.getD i 0))]) (rest := []) (Paid.of_met (W := 0) (metRk hw H218.oldO (xs.getD i 0)) (w 105 rfl) (w 37 rfl) hEL (by decide) (by decide)) (lenOf pd_8 rfl) rfl (Nat.le_of_eq rfl) dCo_42 (by decide) (by decide) all0
          obtain rfl := e7.symm
          have H220 := H219.iload 47 dCo_45 rfl
          obtain ⟨_, h8, ⟨rfl, e8⟩, K8, H221⟩ := H220.callS 50 (z := ⟨"com/example/load_then_swap/loadthenswap/input/KeyOrder", "rank", "(C)I"⟩) (w 103 rfl) (w 104 rfl) (w 37 rfl) (w 105 rfl) (by decide) (argsL := [(.int (ys.getD i 0))]) (rest := [(.int (rnk (xs.getD i 0)))]) (Paid.of_met (W := 1) (metRk hw H220.oldO (ys.getD i 0)) (w 105 rfl) (w 37 rfl) hEL (by decide) (by decide)) (lenOf pd_8 rfl) rfl (Nat.le_of_eq rfl) dCo_47 (by decide) (by decide) all0
          obtain rfl := e8.symm
          obtain ⟨_, h9, ⟨rfl, e9⟩, K9, H222⟩ := H221.callS 53 (z := ⟨"java/lang/Integer", "compare", "(II)I"⟩) (w 54 rfl) (w 55 rfl) (w 56 rfl) (w 57 rfl) (by decide) (argsL := [(.int (rnk (xs.getD i 0))), (.int (rnk (ys.getD i 0)))]) (rest := []) (Paid.of_met (W := 0) (metIC hw H221.oldO (rnk (xs.getD i 0)) (rnk (ys.getD i 0))) (w 57 rfl) (w 56 rfl) hEL (by decide) (by decide)) (lenOf pd_10 rfl) rfl (Nat.le_of_eq rfl) dCo_50 (by decide) (by decide) all0
          obtain rfl := e9.symm
          rw [if_neg qe] at hq
          exact H222.retI rfl rfl (by simp) dCo_53 (by decide) (by decide) ⟨by rw [hq], rfl⟩
      · have H201 := G0.iloadN 15 dCo_14 rfl
        have H202 := H201.iloadN 16 dCo_15 rfl
        have H203 := H202.icmpNo 19 dCo_16 (XT.ii_ge_f (by rw [of_lt (by omega) (by omega)]; omega))
        have H204 := H203.aloadN 20 dCo_19 rfl
        have H205 := H204.iloadN 21 dCo_20 rfl
        obtain ⟨_, h4, ⟨e4, rfl⟩, K4, H206⟩ := H205.callV 24 (z := ⟨"java/lang/String", "charAt", "(I)C"⟩) (z1 := ⟨"java/lang/String", "charAt", "(I)C"⟩) (C := "java/lang/String") (w 81 rfl) (w 82 rfl) (w 84 rfl) (w 83 rfl) (by decide) (a := x) Sx.1 (argsL := [(.int (Int32.ofNat i))]) (rest := []) (payAny (W := 0) hw H205.oldO Sc hzc Sf rf S_AD S_HI S_LO Sx lx ix rfl (by decide) (by decide)) (lenOf pd_11 rfl) rfl (Nat.le_of_eq rfl) dCo_21 (by decide) (by decide) all0
        obtain rfl := e4.symm
        have H207 := H206.istore 26 dCo_24 (L' := #[.val (.ref x), .val (.ref y), .val (.int (Int32.ofNat (min xs.length ys.length))), .val (.int (Int32.ofNat i)), .val (.int (xs.getD i 0)), .val (.int v)]) rfl
        have H208 := H207.aloadN 27 dCo_26 rfl
        have H209 := H208.iloadN 28 dCo_27 rfl
        obtain ⟨_, h5, ⟨e5, rfl⟩, K5, H210⟩ := H209.callV 31 (z := ⟨"java/lang/String", "charAt", "(I)C"⟩) (z1 := ⟨"java/lang/String", "charAt", "(I)C"⟩) (C := "java/lang/String") (w 81 rfl) (w 82 rfl) (w 84 rfl) (w 83 rfl) (by decide) (a := y) Sy.1 (argsL := [(.int (Int32.ofNat i))]) (rest := []) (payAny (W := 0) hw H209.oldO Sc hzc Sf rf S_AD S_HI S_LO Sy ly iy rfl (by decide) (by decide)) (lenOf pd_11 rfl) rfl (Nat.le_of_eq rfl) dCo_28 (by decide) (by decide) all0
        obtain rfl := e5.symm
        have H211 := H210.istore 33 dCo_31 (L' := #[.val (.ref x), .val (.ref y), .val (.int (Int32.ofNat (min xs.length ys.length))), .val (.int (Int32.ofNat i)), .val (.int (xs.getD i 0)), .val (.int (ys.getD i 0))]) rfl
        have H212 := H211.iload 35 dCo_33 rfl
        have H213 := H212.iload 37 dCo_35 rfl
        by_cases qe : xs.getD i 0 = ys.getD i 0
        · have H214 := H213.icmpYes 54 dCo_37 (XT.ii_eq_t qe)
          have H215 := H214.iinc 57 (1 : Int32) dCo_54 rfl (L' := #[.val (.ref x), .val (.ref y), .val (.int (Int32.ofNat (min xs.length ys.length))), .val (.int ((Int32.ofNat i) + (1 : Int32))), .val (.int (xs.getD i 0)), .val (.int (ys.getD i 0))]) rfl
          have H216 := H215.goto 14 dCo_57
          rw [of_suc (show i < 4 by omega)] at H216
          rw [if_pos qe] at hq
          exact ih (i + 1) (by omega) _ _ (Or.inr ⟨_, _, rfl, rfl⟩) hq H216
        · have H217 := H213.icmpNo 40 dCo_37 (XT.ii_eq_f qe)
          have H218 := H217.iload 42 dCo_40 rfl
          obtain ⟨_, h7, ⟨rfl, e7⟩, K7, H219⟩ := H218.callS 45 (z := ⟨"com/example/load_then_swap/loadthenswap/input/KeyOrder", "rank", "(C)I"⟩) (w 103 rfl) (w 104 rfl) (w 37 rfl) (w 105 rfl) (by decide) (argsL := [(.int (xs.getD i 0))]) (rest := []) (Paid.of_met (W := 0) (metRk hw H218.oldO (xs.getD i 0)) (w 105 rfl) (w 37 rfl) hEL (by decide) (by decide)) (lenOf pd_8 rfl) rfl (Nat.le_of_eq rfl) dCo_42 (by decide) (by decide) all0
          obtain rfl := e7.symm
          have H220 := H219.iload 47 dCo_45 rfl
          obtain ⟨_, h8, ⟨rfl, e8⟩, K8, H221⟩ := H220.callS 50 (z := ⟨"com/example/load_then_swap/loadthenswap/input/KeyOrder", "rank", "(C)I"⟩) (w 103 rfl) (w 104 rfl) (w 37 rfl) (w 105 rfl) (by decide) (argsL := [(.int (ys.getD i 0))]) (rest := [(.int (rnk (xs.getD i 0)))]) (Paid.of_met (W := 1) (metRk hw H220.oldO (ys.getD i 0)) (w 105 rfl) (w 37 rfl) hEL (by decide) (by decide)) (lenOf pd_8 rfl) rfl (Nat.le_of_eq rfl) dCo_47 (by decide) (by decide) all0
          obtain rfl := e8.symm
          obtain ⟨_, h9, ⟨rfl, e9⟩, K9, H222⟩ := H221.callS 53 (z := ⟨"java/lang/Integer", "compare", "(II)I"⟩) (w 54 rfl) (w 55 rfl) (w 56 rfl) (w 57 rfl) (by decide) (argsL := [(.int (rnk (xs.getD i 0))), (.int (rnk (ys.getD i 0)))]) (rest := []) (Paid.of_met (W := 0) (metIC hw H221.oldO (rnk (xs.getD i 0)) (rnk (ys.getD i 0))) (w 57 rfl) (w 56 rfl) hEL (by decide) (by decide)) (lenOf pd_10 rfl) rfl (Nat.le_of_eq rfl) dCo_50 (by decide) (by decide) all0
          obtain rfl := e9.symm
          rw [if_neg qe] at hq
          exact H222.retI rfl rfl (by simp) dCo_53 (by decide) (by decide) ⟨by rw [hq], rfl⟩
  exact loop (min xs.length ys.length) 0 (by omega) _ _ (Or.inl ⟨rfl, rfl⟩) rfl H8
theorem encs_le {n a b : Int32} (h : In3 n) : (encs n a b).length ≤ 4 := by
  have e : ∀ c, (enc c).length ≤ 2 := fun c => by unfold enc; split <;> simp
  rcases h with rfl | rfl | rfl
  · rw [encs_0]; simp
  · rw [encs_1]; have := e a; omega
  · rw [encs_2, List.length_append]; have := e a; have := e b; omega
theorem rem3 {x : Int32} (h0 : 0 ≤ x.toInt) : In3 (x % (3 : Int32)) := by
  have r := (c_irem x 3 3 rfl).1 h0
  have e0 : (0 : Int32).toInt = 0 := rfl
  have e1 : (1 : Int32).toInt = 1 := rfl
  have e2 : (2 : Int32).toInt = 2 := rfl
  have : (x % 3).toInt = 0 ∨ (x % 3).toInt = 1 ∨ (x % 3).toInt = 2 := by omega
  rcases this with q | q | q
  · exact Or.inl (Int32.toInt_inj.mp (q.trans e0.symm))
  · exact Or.inr (Or.inl (Int32.toInt_inj.mp (q.trans e1.symm)))
  · exact Or.inr (Or.inr (Int32.toInt_inj.mp (q.trans e2.symm)))
set_option maxRecDepth 65536 in
set_option maxHeartbeats 4000000 in
theorem metL {Z : State} {a0 : Array Value} {n0 : Nat} {h : Heap} (hw : ∀ d ∈ tables_1, d.before a0 Z = true) (hO : Old Z n0 h) {zc : Int32} (Sc : Sta Z Z.heap ST "COMPACT_STRINGS" "Z" (.int zc)) (hzc : ¬ zc = 0) {fm : Value} (Sf : Sta Z Z.heap "jdk/internal/util/Preconditions" "SIOOBE_FORMATTER" "Ljava/util/function/BiFunction;" fm) (rf : fm.isRef = true) (S_AD : Sta Z Z.heap "java/lang/StringUTF16" "$assertionsDisabled" "Z" (.int 1)) (S_HI : Sta Z Z.heap "java/lang/StringUTF16" "HI_BYTE_SHIFT" "I" (.int 0)) (S_LO : Sta Z Z.heap "java/lang/StringUTF16" "LO_BYTE_SHIFT" "I" (.int 8)) (p0 p1 p2 p3 p4 : Int32) :
    Met Z EL1 n0 x code maxLocals ret room_1 #[.int p0, .int p1, .int p2, .int p3, .int p4] h [] (fun v _ => v = some (.int 1)) := by
  have w : ∀ (i : Nat) {d : Jvm.Cond}, tables_1[i]? = some d → d.before a0 Z = true := fun i d q => hw d (List.mem_of_getElem? q)
  have hEL : EW Z a0 EL1 := EW.cons (w 27 rfl) (by simp) EW.nil
  refine Met.of_walk (a0 := a0) pnL hEL hO all0 (L0 := #[.val (.int p0), .val (.int p1), .val (.int p2), .val (.int p3), .val (.int p4), .unset, .unset, .unset, .unset, .unset, .unset, .unset, .unset, .unset]) (fun m => by first | (simp [entryFrame, mkF, argsToLocals, Value.category, maxLocals]; done) | rfl) rfl ?_
  intro kx H0
  have H1 := H0.iload 2 at_0 rfl
  have H2 := H1.iconst 3 (3 : Int32) at_2
  have H3 := H2.iand 4 at_3
  have H4 := H3.iconst 5 (3 : Int32) at_4
  have H5 := H4.irem 6 at_5 (by decide)
  generalize hna : ((p4 &&& (3 : Int32)) % (3 : Int32)) = na at H5
  have c_na : In3 na := hna ▸ rem3 (c_and p4 3 (by decide)).1
  have H6 := H5.istore 8 at_6 (L' := #[.val (.int p0), .val (.int p1), .val (.int p2), .val (.int p3), .val (.int p4), .val (.int na), .unset, .unset, .unset, .unset, .unset, .unset, .unset, .unset]) rfl
  have H7 := H6.iload 10 at_8 rfl
  have H8 := H7.iconst 11 (2 : Int32) at_10
  have H9 := H8.iushr 12 at_11
  have H10 := H9.iconst 13 (3 : Int32) at_12
  have H11 := H10.iand 14 at_13
  have H12 := H11.iconst 15 (3 : Int32) at_14
  have H13 := H12.irem 16 at_15 (by decide)
  generalize hnb : (((p4.toUInt32 >>> ((2 : Int32) &&& 31).toUInt32).toInt32 &&& (3 : Int32)) % (3 : Int32)) = nb at H13
  have c_nb : In3 nb := hnb ▸ rem3 (c_and _ 3 (by decide)).1
  have H14 := H13.istore 18 at_16 (L' := #[.val (.int p0), .val (.int p1), .val (.int p2), .val (.int p3), .val (.int p4), .val (.int na), .val (.int nb), .unset, .unset, .unset, .unset, .unset, .unset, .unset]) rfl
  have H15 := H14.iloadN 19 at_18 rfl
  obtain ⟨_, hq0, ⟨a0', rfl, c_a0', ea0'⟩, Kq0, H16⟩ := H15.callS 22 (z := ⟨"com/example/load_then_swap/loadthenswap/input/KeyOrderComparePinLaw", "cp", "(I)I"⟩) (w 0 rfl) (w 1 rfl) (w 2 rfl) (w 3 rfl) (by decide) (argsL := [(.int p0)]) (rest := []) (Paid.of_met (W := 0) (metCp hw H15.oldO p0) (w 3 rfl) (w 2 rfl) hEL (by decide) (by decide)) (lenOf pd_0 rfl) rfl (Nat.le_of_eq rfl) at_19 (by decide) (by decide) all0
  obtain rfl := ea0'.symm
  have H17 := H16.istore 24 at_22 (L' := #[.val (.int p0), .val (.int p1), .val (.int p2), .val (.int p3), .val (.int p4), .val (.int na), .val (.int nb), .val (.int a0'), .unset, .unset, .unset, .unset, .unset, .unset]) rfl
  have H18 := H17.iloadN 25 at_24 rfl
  obtain ⟨_, hq1, ⟨a1', rfl, c_a1', ea1'⟩, Kq1, H19⟩ := H18.callS 28 (z := ⟨"com/example/load_then_swap/loadthenswap/input/KeyOrderComparePinLaw", "cp", "(I)I"⟩) (w 0 rfl) (w 1 rfl) (w 2 rfl) (w 3 rfl) (by decide) (argsL := [(.int p1)]) (rest := []) (Paid.of_met (W := 0) (metCp hw H18.oldO p1) (w 3 rfl) (w 2 rfl) hEL (by decide) (by decide)) (lenOf pd_0 rfl) rfl (Nat.le_of_eq rfl) at_25 (by decide) (by decide) all0
  obtain rfl := ea1'.symm
  have H20 := H19.istore 30 at_28 (L' := #[.val (.int p0), .val (.int p1), .val (.int p2), .val (.int p3), .val (.int p4), .val (.int na), .val (.int nb), .val (.int a0'), .val (.int a1'), .unset, .unset, .unset, .unset, .unset]) rfl
  have H21 := H20.iload 32 at_30 rfl
  have H22 := H21.iconst 33 (4 : Int32) at_32
  have H23 := H22.iushr 34 at_33
  have H24 := H23.iconst 35 (1 : Int32) at_34
  have H25 := H24.iand 36 at_35
  obtain ⟨b0', c_b0', HJ⟩ : ∃ b0' : Int32, CPt b0' ∧ Here kx room_1 Z EL1 n0 x code ret h [] h 48 #[.val (.int p0), .val (.int p1), .val (.int p2), .val (.int p3), .val (.int p4), .val (.int na), .val (.int nb), .val (.int a0'), .val (.int a1'), .unset, .unset, .unset, .unset, .unset] [(.int b0')] 0 0 [] := by
    by_cases hfb0' : ((p4.toUInt32 >>> ((4 : Int32) &&& 31).toUInt32).toInt32 &&& (1 : Int32)) = 0
    · have H26 := H25.ifYes 44 at_36 (XT.i0_eq_t hfb0')
      have H27 := H26.iloadN 45 at_44 rfl
      obtain ⟨_, hr0, ⟨c, rfl, c_c, e_c⟩, Kr0, H28⟩ := H27.callS 48 (z := ⟨"com/example/load_then_swap/loadthenswap/input/KeyOrderComparePinLaw", "cp", "(I)I"⟩) (w 0 rfl) (w 1 rfl) (w 2 rfl) (w 3 rfl) (by decide) (argsL := [(.int p2)]) (rest := []) (Paid.of_met (W := 0) (metCp hw H27.oldO p2) (w 3 rfl) (w 2 rfl) hEL (by decide) (by decide)) (lenOf pd_0 rfl) rfl (Nat.le_of_eq rfl) at_45 (by decide) (by decide) all0
      obtain rfl := e_c.symm
      exact ⟨c, c_c, H28⟩
    · have H29 := H25.ifNo 39 at_36 (XT.i0_eq_f hfb0')
      have H30 := H29.iload 41 at_39 rfl
      have H31 := H30.goto 48 at_41
      exact ⟨a0', c_a0', H31⟩
  have H32 := HJ
  clear HJ
  have H33 := H32.istore 50 at_48 (L' := #[.val (.int p0), .val (.int p1), .val (.int p2), .val (.int p3), .val (.int p4), .val (.int na), .val (.int nb), .val (.int a0'), .val (.int a1'), .val (.int b0'), .unset, .unset, .unset, .unset]) rfl
  have H34 := H33.iload 52 at_50 rfl
  have H35 := H34.iconst 53 (5 : Int32) at_52
  have H36 := H35.iushr 54 at_53
  have H37 := H36.iconst 55 (1 : Int32) at_54
  have H38 := H37.iand 56 at_55
  obtain ⟨b1', c_b1', HJ⟩ : ∃ b1' : Int32, CPt b1' ∧ Here kx room_1 Z EL1 n0 x code ret h [] h 68 #[.val (.int p0), .val (.int p1), .val (.int p2), .val (.int p3), .val (.int p4), .val (.int na), .val (.int nb), .val (.int a0'), .val (.int a1'), .val (.int b0'), .unset, .unset, .unset, .unset] [(.int b1')] 0 0 [] := by
    by_cases hfb1' : ((p4.toUInt32 >>> ((5 : Int32) &&& 31).toUInt32).toInt32 &&& (1 : Int32)) = 0
    · have H39 := H38.ifYes 64 at_56 (XT.i0_eq_t hfb1')
      have H40 := H39.iloadN 65 at_64 rfl
      obtain ⟨_, hr1, ⟨c, rfl, c_c, e_c⟩, Kr1, H41⟩ := H40.callS 68 (z := ⟨"com/example/load_then_swap/loadthenswap/input/KeyOrderComparePinLaw", "cp", "(I)I"⟩) (w 0 rfl) (w 1 rfl) (w 2 rfl) (w 3 rfl) (by decide) (argsL := [(.int p3)]) (rest := []) (Paid.of_met (W := 0) (metCp hw H40.oldO p3) (w 3 rfl) (w 2 rfl) hEL (by decide) (by decide)) (lenOf pd_0 rfl) rfl (Nat.le_of_eq rfl) at_65 (by decide) (by decide) all0
      obtain rfl := e_c.symm
      exact ⟨c, c_c, H41⟩
    · have H42 := H38.ifNo 59 at_56 (XT.i0_eq_f hfb1')
      have H43 := H42.iload 61 at_59 rfl
      have H44 := H43.goto 68 at_61
      exact ⟨a1', c_a1', H44⟩
  have H45 := HJ
  clear HJ
  have H46 := H45.istore 70 at_68 (L' := #[.val (.int p0), .val (.int p1), .val (.int p2), .val (.int p3), .val (.int p4), .val (.int na), .val (.int nb), .val (.int a0'), .val (.int a1'), .val (.int b0'), .val (.int b1'), .unset, .unset, .unset]) rfl
  have H47 := H46.iload 72 at_70 rfl
  have H48 := H47.iload 74 at_72 rfl
  have H49 := H48.iload 76 at_74 rfl
  obtain ⟨_, hs, ⟨ss, rfl, Ss⟩, Ks, H50⟩ := H49.callS 79 (z := ⟨"com/example/load_then_swap/loadthenswap/input/KeyOrderComparePinLaw", "str", "(III)Ljava/lang/String;"⟩) (w 7 rfl) (w 8 rfl) (w 2 rfl) (w 9 rfl) (by decide) (argsL := [(.int na), (.int a0'), (.int a1')]) (rest := []) (Paid.of_met (W := 0) (metSt hw H49.oldO Sc hzc S_AD S_HI S_LO c_na c_a0' c_a1') (w 9 rfl) (w 2 rfl) hEL (by decide) (by decide)) (lenOf pd_3 rfl) rfl (Nat.le_of_eq rfl) at_76 (by decide) (by decide) all0
  have H51 := H50.astore 81 at_79 (L' := #[.val (.int p0), .val (.int p1), .val (.int p2), .val (.int p3), .val (.int p4), .val (.int na), .val (.int nb), .val (.int a0'), .val (.int a1'), .val (.int b0'), .val (.int b1'), .val (.ref ss), .unset, .unset]) rfl
  have H52 := H51.iload 83 at_81 rfl
  have H53 := H52.iload 85 at_83 rfl
  have H54 := H53.iload 87 at_85 rfl
  obtain ⟨_, ht, ⟨tt, rfl, St⟩, Kt, H55⟩ := H54.callS 90 (z := ⟨"com/example/load_then_swap/loadthenswap/input/KeyOrderComparePinLaw", "str", "(III)Ljava/lang/String;"⟩) (w 7 rfl) (w 8 rfl) (w 2 rfl) (w 9 rfl) (by decide) (argsL := [(.int nb), (.int b0'), (.int b1')]) (rest := []) (Paid.of_met (W := 0) (metSt hw H54.oldO Sc hzc S_AD S_HI S_LO c_nb c_b0' c_b1') (w 9 rfl) (w 2 rfl) hEL (by decide) (by decide)) (lenOf pd_3 rfl) rfl (Nat.le_of_eq rfl) at_87 (by decide) (by decide) all0
  have Ss' := Ss.ext (keepExt Kt)
  have H56 := H55.astore 92 at_90 (L' := #[.val (.int p0), .val (.int p1), .val (.int p2), .val (.int p3), .val (.int p4), .val (.int na), .val (.int nb), .val (.int a0'), .val (.int a1'), .val (.int b0'), .val (.int b1'), .val (.ref ss), .val (.ref tt), .unset]) rfl
  have H57 := H56.aload 94 at_92 rfl
  have H58 := H57.aload 96 at_94 rfl
  obtain ⟨_, hc, ⟨rfl, ec⟩, Kc, H59⟩ := H58.callS 99 (z := ⟨"com/example/load_then_swap/loadthenswap/input/KeyOrder", "compare", "(Ljava/lang/String;Ljava/lang/String;)I"⟩) (w 35 rfl) (w 36 rfl) (w 37 rfl) (w 38 rfl) (by decide) (argsL := [(.ref ss), (.ref tt)]) (rest := []) (Paid.of_met (W := 0) (metCo hw H58.oldO Sc hzc Sf rf S_AD S_HI S_LO Ss' St (encs_le c_na) (encs_le c_nb)) (w 38 rfl) (w 37 rfl) hEL (by decide) (by decide)) (lenOf pd_7 rfl) rfl (Nat.le_of_eq rfl) at_96 (by decide) (by decide) all0
  obtain rfl := ec.symm
  have H60 := H59.istore 101 at_99 (L' := #[.val (.int p0), .val (.int p1), .val (.int p2), .val (.int p3), .val (.int p4), .val (.int na), .val (.int nb), .val (.int a0'), .val (.int a1'), .val (.int b0'), .val (.int b1'), .val (.ref ss), .val (.ref tt), .val (.int (cmpL (encs na a0' a1') (encs nb b0' b1')))]) rfl
  have H61 := H60.iload 103 at_101 rfl
  obtain ⟨_, hg, ⟨rfl, eg⟩, Kg, H62⟩ := H61.callS 106 (z := ⟨"com/example/load_then_swap/loadthenswap/input/KeyOrderComparePinLaw", "sgn", "(I)I"⟩) (w 58 rfl) (w 59 rfl) (w 2 rfl) (w 60 rfl) (by decide) (argsL := [(.int (cmpL (encs na a0' a1') (encs nb b0' b1')))]) (rest := []) (Paid.of_met (W := 0) (metSg hw H61.oldO (cmpL (encs na a0' a1') (encs nb b0' b1'))) (w 60 rfl) (w 2 rfl) hEL (by decide) (by decide)) (lenOf pd_5 rfl) rfl (Nat.le_of_eq rfl) at_103 (by decide) (by decide) all0
  obtain rfl := eg.symm
  have H63 := H62.iload 108 at_106 rfl
  have H64 := H63.iload 110 at_108 rfl
  have H65 := H64.iload 112 at_110 rfl
  have H66 := H65.iload 114 at_112 rfl
  have H67 := H66.iload 116 at_114 rfl
  have H68 := H67.iload 118 at_116 rfl
  obtain ⟨_, hf, ⟨rfl, ef⟩, Kf, H69⟩ := H68.callS 121 (z := ⟨"com/example/load_then_swap/loadthenswap/input/KeyOrderComparePinLaw", "ref", "(IIIIII)I"⟩) (w 61 rfl) (w 62 rfl) (w 2 rfl) (w 63 rfl) (by decide) (argsL := [(.int na), (.int a0'), (.int a1'), (.int nb), (.int b0'), (.int b1')]) (rest := [(.int (sg (cmpL (encs na a0' a1') (encs nb b0' b1'))))]) (Paid.of_met (W := 1) (metRf hw H68.oldO na a0' a1' nb b0' b1') (w 63 rfl) (w 2 rfl) hEL (by decide) (by decide)) (lenOf pd_6 rfl) rfl (Nat.le_of_eq rfl) at_118 (by decide) (by decide) all0
  obtain rfl := ef.symm
  obtain ⟨_, hi, ⟨rfl, ei⟩, Ki, H70⟩ := H69.callS 124 (z := ⟨"com/example/load_then_swap/loadthenswap/input/KeyOrderComparePinLaw", "sgn", "(I)I"⟩) (w 58 rfl) (w 59 rfl) (w 2 rfl) (w 60 rfl) (by decide) (argsL := [(.int (rfd na a0' a1' nb b0' b1'))]) (rest := [(.int (sg (cmpL (encs na a0' a1') (encs nb b0' b1'))))]) (Paid.of_met (W := 1) (metSg hw H69.oldO (rfd na a0' a1' nb b0' b1')) (w 60 rfl) (w 2 rfl) hEL (by decide) (by decide)) (lenOf pd_5 rfl) rfl (Nat.le_of_eq rfl) at_121 (by decide) (by decide) all0
  obtain rfl := ei.symm
  have H71 := H70.icmpNo 127 at_124 (XT.ii_ne_f (law_sg c_na c_nb c_a0' c_a1' c_b0' c_b1'))
  have H72 := H71.iconst 128 (1 : Int32) at_127
  have H73 := H72.goto 132 at_128
  exact H73.retI rfl rfl (by simp) at_132 (by decide) (by decide) rfl
theorem staInt {args : Array Value} {s : State} {C n d : String} {i : Int32} (h : (Jvm.Cond.eq (Jvm.Term.static C n d) (Jvm.Term.int i)).value args s none s [] = some true) : (Jvm.Term.static C n d).eval args s none [] s = some (.int i) := by
  obtain ⟨x, y, h1, h2, h3, -⟩ := cmp_v (Or.inl h)
  cases (Term.int_eval i).symm.trans h2
  have hx : ∃ z, x = .int z := by cases x <;> simp [Kin, Value.isRef] at h3 ⊢
  obtain ⟨z, rfl⟩ := hx
  have e1 := gotT (Cond.eq_ints (args := args) (first := s) (o := none) (s := s) (idx := []) h1 (Term.int_eval i)) h
  subst e1
  exact h1

set_option maxRecDepth 65536 in
set_option maxHeartbeats 4000000 in
theorem comes_1 {Post : Tables → Env → Array Value → State → Outcome → State → Prop} (hpost : ∀ tb e args s v u, (limb_1_1.after args s (.returned v) u = true ∧ limb_1_2.after args s (.returned v) u = true ∧ True) → FramedW s (.returned v) u (Jvm.fieldLocs frame_1_writes args s ++ Jvm.arrayLocs frame_1_arrays args s ++ Jvm.staticLocs frame_1_statics s) 32 1216 → Post tb e args s (.returned v) u) :
    ArmFor flags0 classFile x code maxLocals ret World_1 tables_1 room_1 Calls_1 rest_1 Pre_1 Post := by
  intro l hfl _ _ p e ha hc hk s m args below hf hA hF happ hP
  obtain ⟨hcalls, hrest, hpre⟩ := hP
  obtain ⟨-, -, -, hnamed, -, -, -, hat⟩ := (Spec.applies_iff hf).mp happ
  obtain ⟨hg, hn⟩ := and_e (Cond.before_iff.mp (show (Jvm.Cond.and given_1 narrow_1).before args s = true from hpre))
  obtain ⟨a0, b0⟩ := and_e hg
  obtain ⟨a1, b1⟩ := and_e b0
  obtain ⟨a2, b2⟩ := and_e b1
  obtain ⟨a3, b3⟩ := and_e b2
  obtain ⟨a4, b4⟩ := and_e b3
  obtain ⟨w0, w1, w2, w3, w4, rfl⟩ : ∃ w0 w1 w2 w3 w4 : Value, args = #[w0, w1, w2, w3, w4] := by
    have hs : args.size = 5 := by simpa [Cond.value, given_1] using a0
    obtain ⟨L⟩ := args
    match L, hs with
    | [w0, w1, w2, w3, w4], _ => exact ⟨w0, w1, w2, w3, w4, rfl⟩
  obtain ⟨i0, f0⟩ := is_v a1
  obtain rfl : w0 = (.int i0) := Option.some.inj f0
  obtain ⟨i1, f1⟩ := is_v a2
  obtain rfl : w1 = (.int i1) := Option.some.inj f1
  obtain ⟨i2, f2⟩ := is_v a3
  obtain rfl : w2 = (.int i2) := Option.some.inj f2
  obtain ⟨i3, f3⟩ := is_v a4
  obtain rfl : w3 = (.int i3) := Option.some.inj f3
  obtain ⟨i4, f4⟩ := is_v b4
  obtain rfl : w4 = (.int i4) := Option.some.inj f4
  have hw := fun d (hd : d ∈ tables_1) => atoms_spec (ws := Jvm.Cond.code x code maxLocals ret :: tables_1) hat d (List.mem_cons_of_mem _ hd)
  have w : ∀ (i : Nat) {d : Jvm.Cond}, tables_1[i]? = some d → d.before _ s = true := fun i d q => hw d (List.mem_of_getElem? q)
  obtain ⟨hsets, hown0⟩ := atoms_of _ (rest_1_c_eq ▸ (show rest_1_c.before _ s = true from hrest))
  have n5 := not_v (Cond.before_iff.mp (hsets _ (List.mem_of_getElem? (i := 2) rfl)))
  obtain ⟨zc, e10⟩ := is_v (Cond.before_iff.mp (hsets _ (List.mem_of_getElem? (i := 1) rfl)))
  have Sc : Sta s s.heap "java/lang/String" "COMPACT_STRINGS" "Z" (.int zc) := Sta.start e10 (Or.inl (hsets _ (List.mem_of_getElem? (i := 0) rfl)))
  have hzc : ¬ (zc = (0 : Int32)) := gotF (Cond.eq_ints e10 (Term.int_eval (0))) n5
  have S_AD : Sta s s.heap "java/lang/StringUTF16" "$assertionsDisabled" "Z" (.int 1) := Sta.start (staInt (Cond.before_iff.mp (hsets _ (List.mem_of_getElem? (i := 12) rfl)))) (Or.inl (hsets _ (List.mem_of_getElem? (i := 11) rfl)))
  have S_HI : Sta s s.heap "java/lang/StringUTF16" "HI_BYTE_SHIFT" "I" (.int 0) := Sta.start (staInt (Cond.before_iff.mp (hsets _ (List.mem_of_getElem? (i := 15) rfl)))) (Or.inl (hsets _ (List.mem_of_getElem? (i := 14) rfl)))
  have S_LO : Sta s s.heap "java/lang/StringUTF16" "LO_BYTE_SHIFT" "I" (.int 8) := Sta.start (staInt (Cond.before_iff.mp (hsets _ (List.mem_of_getElem? (i := 18) rfl)))) (Or.inl (hsets _ (List.mem_of_getElem? (i := 17) rfl)))
  obtain ⟨fm, ef, rf⟩ := isR_v (Cond.before_iff.mp (hsets _ (List.mem_of_getElem? (i := 8) rfl)))
  have Sf : Sta s s.heap "jdk/internal/util/Preconditions" "SIOOBE_FORMATTER" "Ljava/util/function/BiFunction;" fm := Sta.start ef (Or.inl (hsets _ (List.mem_of_getElem? (i := 7) rfl)))
  have hEW : EW s _ EL1 := EW.cons (w 27 rfl) (by simp) EW.nil
  have hCH : CHv s EL1 s.vm s.heap := CHv.start hEW hcalls.1 (hsets _ (List.mem_of_getElem? (i := 2) rfl)) (w 28 rfl) (w 15 rfl)
  obtain ⟨n, o, h1, h2, h3, v, L, rfl, ⟨rfl, hK, N⟩, hCr, hq⟩ := (metL hw (Old.start s) Sc hzc Sf rf S_AD S_HI S_LO i0 i1 i2 i3 i4) l tables_1 p e ha hc hk s m _ below hf ((Spec.applies_iff_loose hf).mp happ).1 ⟨rfl, State.Warmed39.refl s, rfl, hCH, all0⟩ trivial
  refine ⟨n, _, h1, h2, h3, hpost _ _ _ _ _ _ ⟨Cond.after_iff.mpr rfl, Cond.after_iff.mpr (eq_i res_at (Term.int_eval (1)) rfl), trivial⟩ ⟨hq.1, hq.2.1, hq.2.2.1, (hq.2.2.2.sift fun y hy => Or.inr (N y hy)).mono (by decide) (by decide)⟩⟩
theorem main_1_1 : Claimed_1_1 := comes_1 fun _ _ _ _ _ _ h hF => ⟨h.1, hF⟩
theorem main_1_2 : Claimed_1_2 := comes_1 fun _ _ _ _ _ _ h hF => ⟨h.2.1, hF⟩
end Jvm.Pilot.@@N@@
namespace Jvm.Pilot.@@N@@
open Jvm Jvm.ClassFile Sem Op Lib Jvm.Free Jvm.Stand Jvm.Pilot.@@N@@.Jvm.D
/-! MADE BY PROGRAM (witnessworld.py) out of the Statement's table words and the real class files: 23 classes; the members and pool entries that the words name. The judged class is class 1, her method 8. -/
namespace start1
open Jvm.ClassFile
def u (s : String) : CpInfo := .utf8 (stringToUtf16 s)
/-- a pool by its gaps: so many unusable entries, then the entry; so many at the end -/
def gap : Nat → List CpInfo → List CpInfo
  | 0, r => r
  | n + 1, r => .unusable :: gap n r
def poolList (es : List (Nat × CpInfo)) (last : Nat) : List CpInfo := es.foldr (fun e r => gap e.1 (e.2 :: r)) (gap last [])
def pool (es : List (Nat × CpInfo)) (last : Nat) : Array CpInfo := ⟨poolList es last⟩
def fileOf (pool : Array CpInfo) (this : Nat) (attrs : Array Attribute := #[]) (ms : Array MethodInfo := #[]) (fl : Nat := 33) (sup : Nat := 0) (ifs : Array Nat := #[]) (fds : Array FieldInfo := #[]) : ClassFile where
  minorVersion := 0
  majorVersion := 65
  constantPool := pool
  accessFlags := fl
  thisClass := this
  superClass := sup
  interfaces := ifs
  fields := fds
  methods := ms
  attributes := attrs
def plain (name : String) (sup : Option ClassId) : Class where
  name := name
  kind := .ordinary
  loader := none
  accessFlags := 33
  super := sup
  interfaces := #[]
  cf := none
  fields := #[]
  methods := #[]
  instanceTypes := #[]
  staticTypes := #[]
  resolved := #[]
  callSites := []
  init := .initialized
  statics := none
  mirror := none

def pool0 : Array CpInfo := pool [(5, u "<init>"), (0, u "()V"), (1, .class_ 10), (1, u "java/lang/Object")] 113

def k0c0 : Code := { maxStack := 0, maxLocals := 1, code := object_method_1_code, exceptionTable := #[], attributes := #[] }
def k0m0 : Method := { name := "<init>", desc := "()V", sig := { parameters := [], returnType := none }, accessFlags := 1, code := some k0c0 }
/-- java/lang/Object -/
def k0 : Class := { plain "java/lang/Object" none with
  accessFlags := 33
  interfaces := #[]
  cf := some (fileOf pool0 8 #[] #[{ accessFlags := 1, nameIndex := 5, descriptorIndex := 6, attributes := #[] }] 33 0 #[] #[])
  fields := #[]
  methods := #[k0m0]
  instanceTypes := #[]
  staticTypes := #[]
  resolved := Array.replicate 124 none
  statics := none }

def pool1 : Array CpInfo := pool [(2, .class_ 4), (1, u "java/lang/Object"), (0, u "<init>"), (0, u "()V"), (0, .integer 2147483647), (0, .integer 1114112), (0, .integer 55296), (0, .integer 57343), (0, .integer 65536), (0, .integer 56320), (0, .class_ 14), (0, u "java/lang/String"), (0, .methodref 13 16), (0, .nameAndType 5 17), (0, u "([C)V"), (0, .methodref 19 20), (0, .class_ 21), (0, .nameAndType 22 23), (0, u "com/example/load_then_swap/loadthenswap/input/KeyOrderComparePinLaw"), (0, u "put"), (0, u "([CII)I"), (0, .methodref 19 25), (0, .nameAndType 26 27), (0, u "exact"), (0, u "([CI)Ljava/lang/String;"), (0, .methodref 19 29), (0, .nameAndType 30 31), (0, u "cmp"), (0, u "(II)I"), (0, .methodref 19 33), (0, .nameAndType 34 35), (0, u "cp"), (0, u "(I)I"), (0, .methodref 19 37), (0, .nameAndType 38 39), (0, u "str"), (0, u "(III)Ljava/lang/String;"), (0, .methodref 41 42), (0, .class_ 43), (0, .nameAndType 44 45), (0, u "com/example/load_then_swap/loadthenswap/input/KeyOrder"), (0, u "compare"), (0, u "(Ljava/lang/String;Ljava/lang/String;)I"), (0, .methodref 19 47), (0, .nameAndType 48 35), (0, u "sgn"), (0, .methodref 19 50), (0, .nameAndType 51 52), (0, u "ref"), (0, u "(IIIIII)I"), (5, u "law"), (0, u "(IIIII)Z")] 2

def k1m0 : Method := { name := "<init>", desc := "()V", sig := { parameters := [], returnType := none }, accessFlags := 1, code := none }
def k1c1 : Code := { maxStack := 2, maxLocals := 2, code := method_2_code, exceptionTable := #[], attributes := #[] }
def k1m1 : Method := { name := "cp", desc := "(I)I", sig := { parameters := [.int], returnType := some .int }, accessFlags := 10, code := some k1c1 }
def k1c2 : Code := { maxStack := 5, maxLocals := 4, code := method_3_code, exceptionTable := #[], attributes := #[] }
def k1m2 : Method := { name := "put", desc := "([CII)I", sig := { parameters := [(.array .char), .int, .int], returnType := some .int }, accessFlags := 10, code := some k1c2 }
def k1c3 : Code := { maxStack := 7, maxLocals := 2, code := method_4_code, exceptionTable := #[], attributes := #[] }
def k1m3 : Method := { name := "exact", desc := "([CI)Ljava/lang/String;", sig := { parameters := [(.array .char), .int], returnType := some (.object "java/lang/String") }, accessFlags := 10, code := some k1c3 }
def k1c4 : Code := { maxStack := 3, maxLocals := 5, code := method_5_code, exceptionTable := #[], attributes := #[] }
def k1m4 : Method := { name := "str", desc := "(III)Ljava/lang/String;", sig := { parameters := [.int, .int, .int], returnType := some (.object "java/lang/String") }, accessFlags := 10, code := some k1c4 }
def k1c5 : Code := { maxStack := 2, maxLocals := 2, code := method_6_code, exceptionTable := #[], attributes := #[] }
def k1m5 : Method := { name := "cmp", desc := "(II)I", sig := { parameters := [.int, .int], returnType := some .int }, accessFlags := 10, code := some k1c5 }
def k1c6 : Code := { maxStack := 1, maxLocals := 1, code := method_7_code, exceptionTable := #[], attributes := #[] }
def k1m6 : Method := { name := "sgn", desc := "(I)I", sig := { parameters := [.int], returnType := some .int }, accessFlags := 10, code := some k1c6 }
def k1c7 : Code := { maxStack := 2, maxLocals := 6, code := method_8_code, exceptionTable := #[], attributes := #[] }
def k1m7 : Method := { name := "ref", desc := "(IIIIII)I", sig := { parameters := [.int, .int, .int, .int, .int, .int], returnType := some .int }, accessFlags := 10, code := some k1c7 }
def k1c8 : Code := { maxStack := 7, maxLocals := 14, code := code, exceptionTable := #[], attributes := #[] }
def k1m8 : Method := { name := "law", desc := "(IIIII)Z", sig := { parameters := [.int, .int, .int, .int, .int], returnType := some .boolean }, accessFlags := 9, code := some k1c8 }
/-- com/example/load_then_swap/loadthenswap/input/KeyOrderComparePinLaw -/
def k1 : Class := { plain "com/example/load_then_swap/loadthenswap/input/KeyOrderComparePinLaw" (some 0) with
  accessFlags := 49
  interfaces := #[]
  cf := some (fileOf pool1 19 #[] #[{ accessFlags := 1, nameIndex := 5, descriptorIndex := 6, attributes := #[] }, { accessFlags := 10, nameIndex := 34, descriptorIndex := 35, attributes := #[] }, { accessFlags := 10, nameIndex := 22, descriptorIndex := 23, attributes := #[] }, { accessFlags := 10, nameIndex := 26, descriptorIndex := 27, attributes := #[] }, { accessFlags := 10, nameIndex := 38, descriptorIndex := 39, attributes := #[] }, { accessFlags := 10, nameIndex := 30, descriptorIndex := 31, attributes := #[] }, { accessFlags := 10, nameIndex := 48, descriptorIndex := 35, attributes := #[] }, { accessFlags := 10, nameIndex := 51, descriptorIndex := 52, attributes := #[] }, { accessFlags := 9, nameIndex := 58, descriptorIndex := 59, attributes := #[] }] 49 2 #[] #[])
  fields := #[]
  methods := #[k1m0, k1m1, k1m2, k1m3, k1m4, k1m5, k1m6, k1m7, k1m8]
  instanceTypes := #[]
  staticTypes := #[]
  resolved := Array.replicate 62 none
  statics := none }

def pool2 : Array CpInfo := pool [(1, .class_ 2), (0, u "java/io/Serializable"), (0, .class_ 4), (0, u "java/lang/Object")] 2

/-- java/io/Serializable -/
def k2 : Class := { plain "java/io/Serializable" (some 0) with
  accessFlags := 1537
  interfaces := #[]
  cf := some (fileOf pool2 1 #[] #[] 1537 3 #[] #[])
  fields := #[]
  methods := #[]
  instanceTypes := #[]
  staticTypes := #[]
  resolved := Array.replicate 7 none
  statics := none }

def pool3 : Array CpInfo := pool [(1, .class_ 2), (0, u "java/lang/Comparable"), (0, .class_ 4), (0, u "java/lang/Object")] 7

/-- java/lang/Comparable -/
def k3 : Class := { plain "java/lang/Comparable" (some 0) with
  accessFlags := 1537
  interfaces := #[]
  cf := some (fileOf pool3 1 #[] #[] 1537 3 #[] #[])
  fields := #[]
  methods := #[]
  instanceTypes := #[]
  staticTypes := #[]
  resolved := Array.replicate 12 none
  statics := none }

def pool4 : Array CpInfo := pool [(2, .class_ 4), (1, u "java/lang/CharSequence"), (42, .class_ 48), (0, u "java/lang/CharSequence$1CodePointIterator"), (10, .class_ 60), (0, u "java/lang/CharSequence$1CharIterator"), (5, .class_ 67), (0, u "java/lang/Object")] 63

/-- java/lang/CharSequence -/
def k4 : Class := { plain "java/lang/CharSequence" (some 0) with
  accessFlags := 1537
  interfaces := #[]
  cf := some (fileOf pool4 2 #[.nestMembers #[47, 59]] #[] 1537 66 #[] #[])
  fields := #[]
  methods := #[]
  instanceTypes := #[]
  staticTypes := #[]
  resolved := Array.replicate 131 none
  statics := none }

def pool5 : Array CpInfo := pool [(1, .class_ 2), (0, u "java/lang/constant/Constable"), (0, .class_ 4), (0, u "java/lang/Object")] 6

/-- java/lang/constant/Constable -/
def k5 : Class := { plain "java/lang/constant/Constable" (some 0) with
  accessFlags := 1537
  interfaces := #[]
  cf := some (fileOf pool5 1 #[] #[] 1537 3 #[] #[])
  fields := #[]
  methods := #[]
  instanceTypes := #[]
  staticTypes := #[]
  resolved := Array.replicate 11 none
  statics := none }

def pool6 : Array CpInfo := pool [(1, .class_ 2), (0, u "java/lang/constant/ConstantDesc"), (0, .class_ 4), (0, u "java/lang/Object")] 32

/-- java/lang/constant/ConstantDesc -/
def k6 : Class := { plain "java/lang/constant/ConstantDesc" (some 0) with
  accessFlags := 1537
  interfaces := #[]
  cf := some (fileOf pool6 1 #[] #[] 1537 3 #[] #[])
  fields := #[]
  methods := #[]
  instanceTypes := #[]
  staticTypes := #[]
  resolved := Array.replicate 37 none
  statics := none }

def pool7 : Array CpInfo := pool [(1, .methodref 2 3), (0, .class_ 4), (0, .nameAndType 5 6), (0, u "java/lang/Object"), (0, u "<init>"), (0, u "()V"), (0, .string 8), (0, u ""), (0, .fieldref 10 11), (0, .class_ 12), (0, .nameAndType 13 14), (0, u "java/lang/String"), (0, u "value"), (0, u "[B"), (0, .fieldref 10 16), (0, .nameAndType 17 18), (0, u "coder"), (0, u "B"), (2, u "hash"), (0, u "I"), (2, u "hashIsZero"), (0, u "Z"), (0, .methodref 10 28), (0, .nameAndType 5 29), (0, u "([CIILjava/lang/Void;)V"), (8, .fieldref 10 39), (0, .nameAndType 40 26), (0, u "COMPACT_STRINGS"), (1, .class_ 44), (1, u "java/lang/StringUTF16"), (0, u "compress"), (1, .methodref 42 48), (0, .nameAndType 49 50), (0, u "coderFromArrayLen"), (0, u "([BI)B"), (56, .class_ 109), (1, u "java/lang/StringLatin1"), (32, u "()Z"), (34, .methodref 42 178), (0, .nameAndType 45 179), (0, u "([CII)[B"), (154, u "()I"), (0, .methodref 10 336), (0, .nameAndType 17 337), (0, u "()B"), (25, u "([BI)C"), (27, u "(II)V"), (35, u "(I)C"), (64, .methodref 10 493), (0, .nameAndType 494 142), (0, u "isLatin1"), (0, .methodref 107 496), (0, .nameAndType 497 363), (0, u "charAt"), (0, .methodref 42 496), (2, u "checkIndex"), (5, u "length"), (67, .class_ 576), (0, u "java/lang/CharSequence"), (22, u "CASE_INSENSITIVE_ORDER"), (0, u "Ljava/util/Comparator;"), (409, u "([C)V"), (42, .fieldref 1054 1055), (0, .class_ 1056), (0, .nameAndType 1057 1058), (0, u "jdk/internal/util/Preconditions"), (0, u "SIOOBE_FORMATTER"), (0, u "Ljava/util/function/BiFunction;"), (0, .methodref 1054 1060), (0, .nameAndType 501 1061), (0, u "(IILjava/util/function/BiFunction;)I"), (39, u "serialPersistentFields"), (0, u "[Ljava/io/ObjectStreamField;"), (0, .class_ 1104), (0, u "java/lang/String$CaseInsensitiveComparator"), (1, .class_ 1107), (0, u "java/io/Serializable"), (0, .class_ 1109), (0, u "java/lang/Comparable"), (0, .class_ 1111), (0, u "java/lang/constant/Constable"), (0, .class_ 1113), (0, u "java/lang/constant/ConstantDesc"), (2, u "serialVersionUID"), (0, u "J"), (3, u "REPL"), (0, u "C"), (2, u "LATIN1"), (1, u "UTF16")] 323

def k7m0 : Method := { name := "<init>", desc := "()V", sig := { parameters := [], returnType := none }, accessFlags := 1, code := none }
def k7c1 : Code := { maxStack := 5, maxLocals := 2, code := jdk_42_method_3_code, exceptionTable := #[], attributes := #[] }
def k7m1 : Method := { name := "<init>", desc := "([C)V", sig := { parameters := [(.array .char)], returnType := none }, accessFlags := 1, code := some k7c1 }
def k7c2 : Code := { maxStack := 2, maxLocals := 1, code := jdk_42_method_54_code, exceptionTable := #[], attributes := #[] }
def k7m2 : Method := { name := "length", desc := "()I", sig := { parameters := [], returnType := some .int }, accessFlags := 1, code := some k7c2 }
def k7c3 : Code := { maxStack := 2, maxLocals := 2, code := jdk_42_method_56_code, exceptionTable := #[], attributes := #[] }
def k7m3 : Method := { name := "charAt", desc := "(I)C", sig := { parameters := [.int], returnType := some .char }, accessFlags := 1, code := some k7c3 }
def k7c4 : Code := { maxStack := 4, maxLocals := 6, code := jdk_42_method_149_code, exceptionTable := #[], attributes := #[] }
def k7m4 : Method := { name := "<init>", desc := "([CIILjava/lang/Void;)V", sig := { parameters := [(.array .char), .int, .int, (.object "java/lang/Void")], returnType := none }, accessFlags := 2, code := some k7c4 }
def k7c5 : Code := { maxStack := 1, maxLocals := 1, code := jdk_42_method_152_code, exceptionTable := #[], attributes := #[] }
def k7m5 : Method := { name := "coder", desc := "()B", sig := { parameters := [], returnType := some .byte }, accessFlags := 0, code := some k7c5 }
def k7c6 : Code := { maxStack := 1, maxLocals := 1, code := jdk_42_method_154_code, exceptionTable := #[], attributes := #[] }
def k7m6 : Method := { name := "isLatin1", desc := "()Z", sig := { parameters := [], returnType := some .boolean }, accessFlags := 0, code := some k7c6 }
def k7c7 : Code := { maxStack := 3, maxLocals := 2, code := jdk_42_method_155_code, exceptionTable := #[], attributes := #[] }
def k7m7 : Method := { name := "checkIndex", desc := "(II)V", sig := { parameters := [.int, .int], returnType := none }, accessFlags := 8, code := some k7c7 }
/-- java/lang/String -/
def k7 : Class := { plain "java/lang/String" (some 0) with
  accessFlags := 49
  interfaces := #[2, 3, 4, 5, 6]
  cf := some (fileOf pool7 10 #[.nestMembers #[1103]] #[{ accessFlags := 1, nameIndex := 5, descriptorIndex := 6, attributes := #[] }, { accessFlags := 1, nameIndex := 5, descriptorIndex := 1010, attributes := #[] }, { accessFlags := 1, nameIndex := 507, descriptorIndex := 334, attributes := #[] }, { accessFlags := 1, nameIndex := 497, descriptorIndex := 427, attributes := #[] }, { accessFlags := 2, nameIndex := 5, descriptorIndex := 29, attributes := #[] }, { accessFlags := 0, nameIndex := 17, descriptorIndex := 337, attributes := #[] }, { accessFlags := 0, nameIndex := 494, descriptorIndex := 142, attributes := #[] }, { accessFlags := 8, nameIndex := 501, descriptorIndex := 391, attributes := #[] }] 49 2 #[1106, 1108, 575, 1110, 1112] #[{ accessFlags := 18, nameIndex := 13, descriptorIndex := 14, attributes := #[] }, { accessFlags := 18, nameIndex := 17, descriptorIndex := 18, attributes := #[] }, { accessFlags := 2, nameIndex := 21, descriptorIndex := 22, attributes := #[] }, { accessFlags := 2, nameIndex := 25, descriptorIndex := 26, attributes := #[] }, { accessFlags := 26, nameIndex := 1116, descriptorIndex := 1117, attributes := #[] }, { accessFlags := 24, nameIndex := 40, descriptorIndex := 26, attributes := #[] }, { accessFlags := 26, nameIndex := 1101, descriptorIndex := 1102, attributes := #[] }, { accessFlags := 26, nameIndex := 1121, descriptorIndex := 1122, attributes := #[] }, { accessFlags := 25, nameIndex := 599, descriptorIndex := 600, attributes := #[] }, { accessFlags := 24, nameIndex := 1125, descriptorIndex := 18, attributes := #[] }, { accessFlags := 24, nameIndex := 1127, descriptorIndex := 18, attributes := #[] }])
  fields := #[{ name := "value", type := (.array .byte), accessFlags := 18, slot := 0, constantValue := 0 }, { name := "coder", type := .byte, accessFlags := 18, slot := 1, constantValue := 0 }, { name := "hash", type := .int, accessFlags := 2, slot := 2, constantValue := 0 }, { name := "hashIsZero", type := .boolean, accessFlags := 2, slot := 3, constantValue := 0 }, { name := "serialVersionUID", type := .long, accessFlags := 26, slot := 0, constantValue := 0 }, { name := "COMPACT_STRINGS", type := .boolean, accessFlags := 24, slot := 1, constantValue := 0 }, { name := "serialPersistentFields", type := (.array (.object "java/io/ObjectStreamField")), accessFlags := 26, slot := 2, constantValue := 0 }, { name := "REPL", type := .char, accessFlags := 26, slot := 3, constantValue := 0 }, { name := "CASE_INSENSITIVE_ORDER", type := (.object "java/util/Comparator"), accessFlags := 25, slot := 4, constantValue := 0 }, { name := "LATIN1", type := .byte, accessFlags := 24, slot := 5, constantValue := 0 }, { name := "UTF16", type := .byte, accessFlags := 24, slot := 6, constantValue := 0 }]
  methods := #[k7m0, k7m1, k7m2, k7m3, k7m4, k7m5, k7m6, k7m7]
  instanceTypes := #[(.array .byte), .byte, .int, .boolean]
  staticTypes := #[.long, .boolean, (.array (.object "java/io/ObjectStreamField")), .char, (.object "java/util/Comparator"), .byte, .byte]
  resolved := Array.replicate 1451 none
  statics := some 0 }

def pool8 : Array CpInfo := pool [(2, .class_ 4), (1, u "java/lang/Object"), (0, u "<init>"), (0, u "()V"), (0, .methodref 8 9), (0, .class_ 10), (0, .nameAndType 11 12), (0, u "java/lang/String"), (0, u "length"), (0, u "()I"), (0, .methodref 14 15), (0, .class_ 16), (0, .nameAndType 17 18), (0, u "java/lang/Math"), (0, u "min"), (0, u "(II)I"), (0, .methodref 8 20), (0, .nameAndType 21 22), (0, u "charAt"), (0, u "(I)C"), (0, .methodref 24 25), (0, .class_ 26), (0, .nameAndType 27 28), (0, u "com/example/load_then_swap/loadthenswap/input/KeyOrder"), (0, u "rank"), (0, u "(C)I"), (0, .methodref 30 31), (0, .class_ 32), (0, .nameAndType 33 18), (0, u "java/lang/Integer"), (0, u "compare"), (0, .integer 57344), (0, .integer 55296), (2, u "(Ljava/lang/String;Ljava/lang/String;)I")] 3

def k8m0 : Method := { name := "<init>", desc := "()V", sig := { parameters := [], returnType := none }, accessFlags := 2, code := none }
def k8c1 : Code := { maxStack := 2, maxLocals := 6, code := prog_11_method_2_code, exceptionTable := #[], attributes := #[] }
def k8m1 : Method := { name := "compare", desc := "(Ljava/lang/String;Ljava/lang/String;)I", sig := { parameters := [(.object "java/lang/String"), (.object "java/lang/String")], returnType := some .int }, accessFlags := 9, code := some k8c1 }
def k8c2 : Code := { maxStack := 2, maxLocals := 2, code := prog_11_method_3_code, exceptionTable := #[], attributes := #[] }
def k8m2 : Method := { name := "rank", desc := "(C)I", sig := { parameters := [.char], returnType := some .int }, accessFlags := 10, code := some k8c2 }
/-- com/example/load_then_swap/loadthenswap/input/KeyOrder -/
def k8 : Class := { plain "com/example/load_then_swap/loadthenswap/input/KeyOrder" (some 0) with
  accessFlags := 33
  interfaces := #[]
  cf := some (fileOf pool8 24 #[] #[{ accessFlags := 2, nameIndex := 5, descriptorIndex := 6, attributes := #[] }, { accessFlags := 9, nameIndex := 33, descriptorIndex := 38, attributes := #[] }, { accessFlags := 10, nameIndex := 27, descriptorIndex := 28, attributes := #[] }] 33 2 #[] #[])
  fields := #[]
  methods := #[k8m0, k8m1, k8m2]
  instanceTypes := #[]
  staticTypes := #[]
  resolved := Array.replicate 42 none
  statics := none }

def pool9 : Array CpInfo := pool [(1, .class_ 2), (0, u "java/lang/Math"), (1, .class_ 6), (1, u "java/lang/Object"), (0, u "<init>"), (0, u "()V"), (89, .class_ 100), (1, u "java/lang/Math$RandomNumberGeneratorHolder"), (71, u "negativeZeroFloatBits"), (0, u "J"), (2, u "negativeZeroDoubleBits"), (24, u "min"), (43, u "$assertionsDisabled"), (0, u "Z"), (88, u "(II)I"), (2, u "twoToTheDoubleScaleDown"), (0, u "D"), (4, u "twoToTheDoubleScaleUp"), (9, u "E"), (3, u "PI"), (2, u "TAU"), (2, u "DEGREES_TO_RADIANS"), (0, u "RADIANS_TO_DEGREES")] 94

def k9m0 : Method := { name := "<init>", desc := "()V", sig := { parameters := [], returnType := none }, accessFlags := 2, code := none }
def k9c1 : Code := { maxStack := 2, maxLocals := 2, code := jdk_29_method_69_code, exceptionTable := #[], attributes := #[] }
def k9m1 : Method := { name := "min", desc := "(II)I", sig := { parameters := [.int, .int], returnType := some .int }, accessFlags := 9, code := some k9c1 }
/-- java/lang/Math -/
def k9 : Class := { plain "java/lang/Math" (some 0) with
  accessFlags := 49
  interfaces := #[]
  cf := some (fileOf pool9 1 #[.nestMembers #[98]] #[{ accessFlags := 2, nameIndex := 7, descriptorIndex := 8, attributes := #[] }, { accessFlags := 9, nameIndex := 201, descriptorIndex := 335, attributes := #[] }] 49 4 #[] #[{ accessFlags := 25, nameIndex := 354, descriptorIndex := 339, attributes := #[] }, { accessFlags := 25, nameIndex := 358, descriptorIndex := 339, attributes := #[] }, { accessFlags := 25, nameIndex := 361, descriptorIndex := 339, attributes := #[] }, { accessFlags := 26, nameIndex := 364, descriptorIndex := 339, attributes := #[] }, { accessFlags := 26, nameIndex := 365, descriptorIndex := 339, attributes := #[] }, { accessFlags := 26, nameIndex := 172, descriptorIndex := 173, attributes := #[] }, { accessFlags := 26, nameIndex := 176, descriptorIndex := 173, attributes := #[] }, { accessFlags := 8, nameIndex := 344, descriptorIndex := 339, attributes := #[] }, { accessFlags := 8, nameIndex := 338, descriptorIndex := 339, attributes := #[] }, { accessFlags := 4120, nameIndex := 245, descriptorIndex := 246, attributes := #[] }])
  fields := #[{ name := "E", type := .double, accessFlags := 25, slot := 0, constantValue := 0 }, { name := "PI", type := .double, accessFlags := 25, slot := 1, constantValue := 0 }, { name := "TAU", type := .double, accessFlags := 25, slot := 2, constantValue := 0 }, { name := "DEGREES_TO_RADIANS", type := .double, accessFlags := 26, slot := 3, constantValue := 0 }, { name := "RADIANS_TO_DEGREES", type := .double, accessFlags := 26, slot := 4, constantValue := 0 }, { name := "negativeZeroFloatBits", type := .long, accessFlags := 26, slot := 5, constantValue := 0 }, { name := "negativeZeroDoubleBits", type := .long, accessFlags := 26, slot := 6, constantValue := 0 }, { name := "twoToTheDoubleScaleUp", type := .double, accessFlags := 8, slot := 7, constantValue := 0 }, { name := "twoToTheDoubleScaleDown", type := .double, accessFlags := 8, slot := 8, constantValue := 0 }, { name := "$assertionsDisabled", type := .boolean, accessFlags := 4120, slot := 9, constantValue := 0 }]
  methods := #[k9m0, k9m1]
  instanceTypes := #[]
  staticTypes := #[.double, .double, .double, .double, .double, .long, .long, .double, .double, .boolean]
  resolved := Array.replicate 460 none
  statics := none }

def pool10 : Array CpInfo := pool [(2, .class_ 4), (1, u "java/lang/Object"), (0, u "<init>"), (0, u "()V"), (1, .class_ 10), (1, u "java/lang/Number"), (2, .class_ 14), (0, u "java/io/Serializable"), (0, u "serialVersionUID"), (0, u "J")] 20

def k10m0 : Method := { name := "<init>", desc := "()V", sig := { parameters := [], returnType := none }, accessFlags := 1, code := none }
/-- java/lang/Number -/
def k10 : Class := { plain "java/lang/Number" (some 0) with
  accessFlags := 1057
  interfaces := #[2]
  cf := some (fileOf pool10 8 #[] #[{ accessFlags := 1, nameIndex := 5, descriptorIndex := 6, attributes := #[] }] 1057 2 #[13] #[{ accessFlags := 26, nameIndex := 15, descriptorIndex := 16, attributes := #[] }])
  fields := #[{ name := "serialVersionUID", type := .long, accessFlags := 26, slot := 0, constantValue := 0 }]
  methods := #[k10m0]
  instanceTypes := #[]
  staticTypes := #[.long]
  resolved := Array.replicate 37 none
  statics := none }

def pool11 : Array CpInfo := pool [(1, .class_ 2), (0, u "java/lang/Integer"), (16, u "digits"), (0, u "[C"), (39, u "(II)I"), (24, u "DigitOnes"), (0, u "[B"), (2, u "DigitTens"), (99, .class_ 190), (0, u "java/lang/Integer$IntegerCache"), (3, u "I"), (8, .class_ 204), (0, u "java/lang/Number"), (2, u "value"), (53, u "compare"), (40, u "TYPE"), (0, u "Ljava/lang/Class;"), (0, .class_ 305), (0, u "java/lang/Comparable"), (0, .class_ 307), (0, u "java/lang/constant/Constable"), (0, .class_ 309), (0, u "java/lang/constant/ConstantDesc"), (0, u "MIN_VALUE"), (1, u "MAX_VALUE"), (3, u "SIZE"), (1, u "BYTES"), (1, u "serialVersionUID"), (0, u "J")] 131

def k11c0 : Code := { maxStack := 2, maxLocals := 2, code := jdk_33_method_40_code, exceptionTable := #[], attributes := #[] }
def k11m0 : Method := { name := "compare", desc := "(II)I", sig := { parameters := [.int, .int], returnType := some .int }, accessFlags := 9, code := some k11c0 }
/-- java/lang/Integer -/
def k11 : Class := { plain "java/lang/Integer" (some 10) with
  accessFlags := 49
  interfaces := #[3, 5, 6]
  cf := some (fileOf pool11 1 #[.nestMembers #[189]] #[{ accessFlags := 9, nameIndex := 261, descriptorIndex := 60, attributes := #[] }] 49 203 #[304, 306, 308] #[{ accessFlags := 25, nameIndex := 310, descriptorIndex := 194, attributes := #[] }, { accessFlags := 25, nameIndex := 312, descriptorIndex := 194, attributes := #[] }, { accessFlags := 25, nameIndex := 302, descriptorIndex := 303, attributes := #[] }, { accessFlags := 24, nameIndex := 19, descriptorIndex := 20, attributes := #[] }, { accessFlags := 24, nameIndex := 89, descriptorIndex := 86, attributes := #[] }, { accessFlags := 24, nameIndex := 85, descriptorIndex := 86, attributes := #[] }, { accessFlags := 18, nameIndex := 207, descriptorIndex := 194, attributes := #[] }, { accessFlags := 25, nameIndex := 316, descriptorIndex := 194, attributes := #[] }, { accessFlags := 25, nameIndex := 318, descriptorIndex := 194, attributes := #[] }, { accessFlags := 26, nameIndex := 320, descriptorIndex := 321, attributes := #[] }])
  fields := #[{ name := "MIN_VALUE", type := .int, accessFlags := 25, slot := 0, constantValue := 0 }, { name := "MAX_VALUE", type := .int, accessFlags := 25, slot := 1, constantValue := 0 }, { name := "TYPE", type := (.object "java/lang/Class"), accessFlags := 25, slot := 2, constantValue := 0 }, { name := "digits", type := (.array .char), accessFlags := 24, slot := 3, constantValue := 0 }, { name := "DigitTens", type := (.array .byte), accessFlags := 24, slot := 4, constantValue := 0 }, { name := "DigitOnes", type := (.array .byte), accessFlags := 24, slot := 5, constantValue := 0 }, { name := "value", type := .int, accessFlags := 18, slot := 0, constantValue := 0 }, { name := "SIZE", type := .int, accessFlags := 25, slot := 6, constantValue := 0 }, { name := "BYTES", type := .int, accessFlags := 25, slot := 7, constantValue := 0 }, { name := "serialVersionUID", type := .long, accessFlags := 26, slot := 8, constantValue := 0 }]
  methods := #[k11m0]
  instanceTypes := #[.int]
  staticTypes := #[.int, .int, (.object "java/lang/Class"), (.array .char), (.array .byte), (.array .byte), .int, .int, .long]
  resolved := Array.replicate 453 none
  statics := none }

def pool12 : Array CpInfo := pool [(3, .class_ 4), (0, u "java/lang/String"), (1, .class_ 8), (1, u "java/lang/Object"), (0, u "<init>"), (0, u "()V"), (0, .methodref 12 13), (0, .class_ 14), (0, .nameAndType 15 16), (0, u "java/lang/StringUTF16"), (0, u "newBytesLength"), (0, u "(I)I"), (3, .integer 1073741823), (23, .fieldref 12 45), (0, .nameAndType 46 47), (0, u "$assertionsDisabled"), (0, u "Z"), (0, .methodref 12 49), (0, .nameAndType 50 51), (0, u "length"), (0, u "([B)I"), (7, .fieldref 12 60), (0, .nameAndType 61 62), (0, u "HI_BYTE_SHIFT"), (0, u "I"), (0, .fieldref 12 64), (0, .nameAndType 65 62), (0, u "LO_BYTE_SHIFT"), (1, .methodref 12 68), (0, .nameAndType 69 70), (0, u "checkIndex"), (0, u "(I[B)V"), (0, .methodref 12 72), (0, .nameAndType 73 74), (0, u "getChar"), (0, u "([BI)C"), (32, .methodref 12 108), (0, .nameAndType 109 110), (0, u "newBytesFor"), (0, u "(I)[B"), (0, .methodref 12 112), (0, .nameAndType 113 114), (0, u "putChar"), (0, u "([BII)V"), (0, .methodref 12 116), (0, .nameAndType 117 118), (0, u "compress"), (0, u "([CI[BII)I"), (0, .methodref 12 120), (0, .nameAndType 121 122), (0, u "toBytes"), (0, u "([CII)[B"), (138, u "coderFromArrayLen"), (0, u "([BI)B"), (106, .class_ 371), (1, u "java/lang/StringUTF16$LinesSpliterator"), (20, u "charAt"), (21, .methodref 3 415), (0, .nameAndType 69 416), (0, u "(II)V"), (13, u "MAX_LENGTH"), (196, .class_ 628), (0, u "java/lang/StringUTF16$CodePointsSpliterator"), (0, .class_ 630), (0, u "java/lang/StringUTF16$CharsSpliterator")] 4

def k12m0 : Method := { name := "<init>", desc := "()V", sig := { parameters := [], returnType := none }, accessFlags := 0, code := none }
def k12c1 : Code := { maxStack := 1, maxLocals := 1, code := jdk_52_method_2_code, exceptionTable := #[], attributes := #[] }
def k12m1 : Method := { name := "newBytesFor", desc := "(I)[B", sig := { parameters := [.int], returnType := some (.array .byte) }, accessFlags := 9, code := some k12c1 }
def k12c2 : Code := { maxStack := 4, maxLocals := 1, code := jdk_52_method_3_code, exceptionTable := #[], attributes := #[] }
def k12m2 : Method := { name := "newBytesLength", desc := "(I)I", sig := { parameters := [.int], returnType := some .int }, accessFlags := 9, code := some k12c2 }
def k12c3 : Code := { maxStack := 4, maxLocals := 3, code := jdk_52_method_4_code, exceptionTable := #[], attributes := #[] }
def k12m3 : Method := { name := "putChar", desc := "([BII)V", sig := { parameters := [(.array .byte), .int, .int], returnType := none }, accessFlags := 8, code := some k12c3 }
def k12c4 : Code := { maxStack := 3, maxLocals := 2, code := jdk_52_method_5_code, exceptionTable := #[], attributes := #[] }
def k12m4 : Method := { name := "getChar", desc := "([BI)C", sig := { parameters := [(.array .byte), .int], returnType := some .char }, accessFlags := 8, code := some k12c4 }
def k12c5 : Code := { maxStack := 2, maxLocals := 1, code := jdk_52_method_6_code, exceptionTable := #[], attributes := #[] }
def k12m5 : Method := { name := "length", desc := "([B)I", sig := { parameters := [(.array .byte)], returnType := some .int }, accessFlags := 9, code := some k12c5 }
def k12c6 : Code := { maxStack := 4, maxLocals := 5, code := jdk_52_method_14_code, exceptionTable := #[], attributes := #[] }
def k12m6 : Method := { name := "toBytes", desc := "([CII)[B", sig := { parameters := [(.array .char), .int, .int], returnType := some (.array .byte) }, accessFlags := 9, code := some k12c6 }
def k12c7 : Code := { maxStack := 2, maxLocals := 2, code := jdk_52_method_15_code, exceptionTable := #[], attributes := #[] }
def k12m7 : Method := { name := "coderFromArrayLen", desc := "([BI)B", sig := { parameters := [(.array .byte), .int], returnType := some .byte }, accessFlags := 8, code := some k12c7 }
def k12c8 : Code := { maxStack := 5, maxLocals := 6, code := jdk_52_method_16_code, exceptionTable := #[], attributes := #[] }
def k12m8 : Method := { name := "compress", desc := "([CII)[B", sig := { parameters := [(.array .char), .int, .int], returnType := some (.array .byte) }, accessFlags := 9, code := some k12c8 }
def k12c9 : Code := { maxStack := 3, maxLocals := 7, code := jdk_52_method_21_code, exceptionTable := #[], attributes := #[] }
def k12m9 : Method := { name := "compress", desc := "([CI[BII)I", sig := { parameters := [(.array .char), .int, (.array .byte), .int, .int], returnType := some .int }, accessFlags := 9, code := some k12c9 }
def k12c10 : Code := { maxStack := 2, maxLocals := 2, code := jdk_52_method_83_code, exceptionTable := #[], attributes := #[] }
def k12m10 : Method := { name := "charAt", desc := "([BI)C", sig := { parameters := [(.array .byte), .int], returnType := some .char }, accessFlags := 9, code := some k12c10 }
def k12c11 : Code := { maxStack := 2, maxLocals := 2, code := jdk_52_method_91_code, exceptionTable := #[], attributes := #[] }
def k12m11 : Method := { name := "checkIndex", desc := "(I[B)V", sig := { parameters := [.int, (.array .byte)], returnType := none }, accessFlags := 9, code := some k12c11 }
/-- java/lang/StringUTF16 -/
def k12 : Class := { plain "java/lang/StringUTF16" (some 0) with
  accessFlags := 48
  interfaces := #[]
  cf := some (fileOf pool12 12 #[.nestMembers #[627, 629, 369]] #[{ accessFlags := 0, nameIndex := 9, descriptorIndex := 10, attributes := #[] }, { accessFlags := 9, nameIndex := 109, descriptorIndex := 110, attributes := #[] }, { accessFlags := 9, nameIndex := 15, descriptorIndex := 16, attributes := #[] }, { accessFlags := 8, nameIndex := 113, descriptorIndex := 114, attributes := #[] }, { accessFlags := 8, nameIndex := 73, descriptorIndex := 74, attributes := #[] }, { accessFlags := 9, nameIndex := 50, descriptorIndex := 51, attributes := #[] }, { accessFlags := 9, nameIndex := 121, descriptorIndex := 122, attributes := #[] }, { accessFlags := 8, nameIndex := 261, descriptorIndex := 262, attributes := #[] }, { accessFlags := 9, nameIndex := 117, descriptorIndex := 122, attributes := #[] }, { accessFlags := 9, nameIndex := 117, descriptorIndex := 118, attributes := #[] }, { accessFlags := 9, nameIndex := 392, descriptorIndex := 74, attributes := #[] }, { accessFlags := 9, nameIndex := 69, descriptorIndex := 70, attributes := #[] }] 48 6 #[] #[{ accessFlags := 26, nameIndex := 61, descriptorIndex := 62, attributes := #[] }, { accessFlags := 26, nameIndex := 65, descriptorIndex := 62, attributes := #[] }, { accessFlags := 24, nameIndex := 430, descriptorIndex := 62, attributes := #[] }, { accessFlags := 4120, nameIndex := 46, descriptorIndex := 47, attributes := #[] }])
  fields := #[{ name := "HI_BYTE_SHIFT", type := .int, accessFlags := 26, slot := 0, constantValue := 0 }, { name := "LO_BYTE_SHIFT", type := .int, accessFlags := 26, slot := 1, constantValue := 0 }, { name := "MAX_LENGTH", type := .int, accessFlags := 24, slot := 2, constantValue := 0 }, { name := "$assertionsDisabled", type := .boolean, accessFlags := 4120, slot := 3, constantValue := 0 }]
  methods := #[k12m0, k12m1, k12m2, k12m3, k12m4, k12m5, k12m6, k12m7, k12m8, k12m9, k12m10, k12m11]
  instanceTypes := #[]
  staticTypes := #[.int, .int, .int, .boolean]
  resolved := Array.replicate 635 none
  statics := some 1 }

def pool13 : Array CpInfo := pool [(1, .class_ 2), (0, u "java/lang/String"), (1, .class_ 6), (1, u "java/lang/Object"), (0, u "<init>"), (0, u "()V"), (0, .methodref 1 10), (0, .nameAndType 11 12), (0, u "checkIndex"), (0, u "(II)V"), (1, .class_ 16), (1, u "java/lang/StringLatin1"), (36, u "([BI)C"), (67, u "$assertionsDisabled"), (0, u "Z"), (98, .class_ 223), (1, u "java/lang/StringLatin1$LinesSpliterator"), (28, u "charAt"), (137, .class_ 391), (0, u "java/lang/StringLatin1$CharsSpliterator")] 3

def k13m0 : Method := { name := "<init>", desc := "()V", sig := { parameters := [], returnType := none }, accessFlags := 0, code := none }
def k13c1 : Code := { maxStack := 2, maxLocals := 2, code := jdk_43_method_2_code, exceptionTable := #[], attributes := #[] }
def k13m1 : Method := { name := "charAt", desc := "([BI)C", sig := { parameters := [(.array .byte), .int], returnType := some .char }, accessFlags := 9, code := some k13c1 }
/-- java/lang/StringLatin1 -/
def k13 : Class := { plain "java/lang/StringLatin1" (some 0) with
  accessFlags := 48
  interfaces := #[]
  cf := some (fileOf pool13 14 #[.nestMembers #[390, 221]] #[{ accessFlags := 0, nameIndex := 7, descriptorIndex := 8, attributes := #[] }, { accessFlags := 9, nameIndex := 252, descriptorIndex := 53, attributes := #[] }] 48 4 #[] #[{ accessFlags := 4120, nameIndex := 121, descriptorIndex := 122, attributes := #[] }])
  fields := #[{ name := "$assertionsDisabled", type := .boolean, accessFlags := 4120, slot := 0, constantValue := 0 }]
  methods := #[k13m0, k13m1]
  instanceTypes := #[]
  staticTypes := #[.boolean]
  resolved := Array.replicate 395 none
  statics := none }

def pool14 : Array CpInfo := pool [(2, .class_ 4), (1, u "java/lang/Object"), (0, u "<init>"), (0, u "()V"), (17, .class_ 26), (1, u "jdk/internal/util/Preconditions"), (6, u "checkIndex"), (21, .class_ 56), (0, u "jdk/internal/util/Preconditions$4"), (57, .class_ 115), (0, u "jdk/internal/util/Preconditions$1"), (7, u "SIOOBE_FORMATTER"), (0, u "Ljava/util/function/BiFunction;"), (0, .class_ 126), (0, u "jdk/internal/util/Preconditions$2"), (3, u "AIOOBE_FORMATTER"), (0, .class_ 132), (0, u "jdk/internal/util/Preconditions$3"), (3, u "IOOBE_FORMATTER"), (41, u "(IILjava/util/function/BiFunction;)I")] 15

def k14m0 : Method := { name := "<init>", desc := "()V", sig := { parameters := [], returnType := none }, accessFlags := 1, code := none }
def k14c1 : Code := { maxStack := 3, maxLocals := 3, code := jdk_41_method_11_code, exceptionTable := #[], attributes := #[] }
def k14m1 : Method := { name := "checkIndex", desc := "(IILjava/util/function/BiFunction;)I", sig := { parameters := [.int, .int, (.object "java/util/function/BiFunction")], returnType := some .int }, accessFlags := 9, code := some k14c1 }
/-- jdk/internal/util/Preconditions -/
def k14 : Class := { plain "jdk/internal/util/Preconditions" (some 0) with
  accessFlags := 33
  interfaces := #[]
  cf := some (fileOf pool14 24 #[.nestMembers #[55, 131, 125, 114]] #[{ accessFlags := 1, nameIndex := 5, descriptorIndex := 6, attributes := #[] }, { accessFlags := 9, nameIndex := 33, descriptorIndex := 178, attributes := #[] }] 33 2 #[] #[{ accessFlags := 25, nameIndex := 123, descriptorIndex := 124, attributes := #[] }, { accessFlags := 25, nameIndex := 130, descriptorIndex := 124, attributes := #[] }, { accessFlags := 25, nameIndex := 136, descriptorIndex := 124, attributes := #[] }])
  fields := #[{ name := "SIOOBE_FORMATTER", type := (.object "java/util/function/BiFunction"), accessFlags := 25, slot := 0, constantValue := 0 }, { name := "AIOOBE_FORMATTER", type := (.object "java/util/function/BiFunction"), accessFlags := 25, slot := 1, constantValue := 0 }, { name := "IOOBE_FORMATTER", type := (.object "java/util/function/BiFunction"), accessFlags := 25, slot := 2, constantValue := 0 }]
  methods := #[k14m0, k14m1]
  instanceTypes := #[]
  staticTypes := #[(.object "java/util/function/BiFunction"), (.object "java/util/function/BiFunction"), (.object "java/util/function/BiFunction")]
  resolved := Array.replicate 194 none
  statics := some 2 }

def pool15 : Array CpInfo := pool [(9, u "<init>"), (6, .class_ 18), (1, u "java/lang/Object"), (0, u "()V"), (1, .class_ 23), (1, u "jdk/internal/util/ArraysSupport"), (0, u "LOG2_ARRAY_LONG_INDEX_SCALE"), (0, u "I"), (2, u "U"), (0, u "Ljdk/internal/misc/Unsafe;"), (8, u "BIG_ENDIAN"), (0, u "Z"), (8, u "LOG2_BYTE_BIT_SIZE"), (4, u "LOG2_ARRAY_INT_INDEX_SCALE"), (54, u "JLA"), (0, u "Ljdk/internal/access/JavaLangAccess;"), (11, u "LOG2_ARRAY_BOOLEAN_INDEX_SCALE"), (9, u "LOG2_ARRAY_BYTE_INDEX_SCALE"), (5, u "LOG2_ARRAY_CHAR_INDEX_SCALE"), (5, u "LOG2_ARRAY_SHORT_INDEX_SCALE"), (18, u "LOG2_ARRAY_FLOAT_INDEX_SCALE"), (24, u "LOG2_ARRAY_DOUBLE_INDEX_SCALE"), (89, u "T_BOOLEAN"), (2, u "T_CHAR"), (1, u "T_FLOAT"), (1, u "T_DOUBLE"), (1, u "T_BYTE"), (1, u "T_SHORT"), (1, u "T_INT"), (1, u "T_LONG"), (1, u "SOFT_MAX_ARRAY_LENGTH")] 83

def k15m0 : Method := { name := "<init>", desc := "()V", sig := { parameters := [], returnType := none }, accessFlags := 2, code := none }
/-- jdk/internal/util/ArraysSupport -/
def k15 : Class := { plain "jdk/internal/util/ArraysSupport" (some 0) with
  accessFlags := 33
  interfaces := #[]
  cf := some (fileOf pool15 21 #[] #[{ accessFlags := 2, nameIndex := 9, descriptorIndex := 19, attributes := #[] }] 33 16 #[] #[{ accessFlags := 24, nameIndex := 28, descriptorIndex := 29, attributes := #[] }, { accessFlags := 26, nameIndex := 38, descriptorIndex := 39, attributes := #[] }, { accessFlags := 25, nameIndex := 121, descriptorIndex := 25, attributes := #[] }, { accessFlags := 25, nameIndex := 131, descriptorIndex := 25, attributes := #[] }, { accessFlags := 25, nameIndex := 137, descriptorIndex := 25, attributes := #[] }, { accessFlags := 25, nameIndex := 143, descriptorIndex := 25, attributes := #[] }, { accessFlags := 25, nameIndex := 53, descriptorIndex := 25, attributes := #[] }, { accessFlags := 25, nameIndex := 24, descriptorIndex := 25, attributes := #[] }, { accessFlags := 25, nameIndex := 162, descriptorIndex := 25, attributes := #[] }, { accessFlags := 25, nameIndex := 187, descriptorIndex := 25, attributes := #[] }, { accessFlags := 26, nameIndex := 48, descriptorIndex := 25, attributes := #[] }, { accessFlags := 25, nameIndex := 277, descriptorIndex := 25, attributes := #[] }, { accessFlags := 25, nameIndex := 280, descriptorIndex := 25, attributes := #[] }, { accessFlags := 25, nameIndex := 282, descriptorIndex := 25, attributes := #[] }, { accessFlags := 25, nameIndex := 284, descriptorIndex := 25, attributes := #[] }, { accessFlags := 25, nameIndex := 286, descriptorIndex := 25, attributes := #[] }, { accessFlags := 25, nameIndex := 288, descriptorIndex := 25, attributes := #[] }, { accessFlags := 25, nameIndex := 290, descriptorIndex := 25, attributes := #[] }, { accessFlags := 25, nameIndex := 292, descriptorIndex := 25, attributes := #[] }, { accessFlags := 26, nameIndex := 108, descriptorIndex := 109, attributes := #[] }, { accessFlags := 25, nameIndex := 294, descriptorIndex := 25, attributes := #[] }])
  fields := #[{ name := "U", type := (.object "jdk/internal/misc/Unsafe"), accessFlags := 24, slot := 0, constantValue := 0 }, { name := "BIG_ENDIAN", type := .boolean, accessFlags := 26, slot := 1, constantValue := 0 }, { name := "LOG2_ARRAY_BOOLEAN_INDEX_SCALE", type := .int, accessFlags := 25, slot := 2, constantValue := 0 }, { name := "LOG2_ARRAY_BYTE_INDEX_SCALE", type := .int, accessFlags := 25, slot := 3, constantValue := 0 }, { name := "LOG2_ARRAY_CHAR_INDEX_SCALE", type := .int, accessFlags := 25, slot := 4, constantValue := 0 }, { name := "LOG2_ARRAY_SHORT_INDEX_SCALE", type := .int, accessFlags := 25, slot := 5, constantValue := 0 }, { name := "LOG2_ARRAY_INT_INDEX_SCALE", type := .int, accessFlags := 25, slot := 6, constantValue := 0 }, { name := "LOG2_ARRAY_LONG_INDEX_SCALE", type := .int, accessFlags := 25, slot := 7, constantValue := 0 }, { name := "LOG2_ARRAY_FLOAT_INDEX_SCALE", type := .int, accessFlags := 25, slot := 8, constantValue := 0 }, { name := "LOG2_ARRAY_DOUBLE_INDEX_SCALE", type := .int, accessFlags := 25, slot := 9, constantValue := 0 }, { name := "LOG2_BYTE_BIT_SIZE", type := .int, accessFlags := 26, slot := 10, constantValue := 0 }, { name := "T_BOOLEAN", type := .int, accessFlags := 25, slot := 11, constantValue := 0 }, { name := "T_CHAR", type := .int, accessFlags := 25, slot := 12, constantValue := 0 }, { name := "T_FLOAT", type := .int, accessFlags := 25, slot := 13, constantValue := 0 }, { name := "T_DOUBLE", type := .int, accessFlags := 25, slot := 14, constantValue := 0 }, { name := "T_BYTE", type := .int, accessFlags := 25, slot := 15, constantValue := 0 }, { name := "T_SHORT", type := .int, accessFlags := 25, slot := 16, constantValue := 0 }, { name := "T_INT", type := .int, accessFlags := 25, slot := 17, constantValue := 0 }, { name := "T_LONG", type := .int, accessFlags := 25, slot := 18, constantValue := 0 }, { name := "JLA", type := (.object "jdk/internal/access/JavaLangAccess"), accessFlags := 26, slot := 19, constantValue := 0 }, { name := "SOFT_MAX_ARRAY_LENGTH", type := .int, accessFlags := 25, slot := 20, constantValue := 0 }]
  methods := #[k15m0]
  instanceTypes := #[]
  staticTypes := #[(.object "jdk/internal/misc/Unsafe"), .boolean, .int, .int, .int, .int, .int, .int, .int, .int, .int, .int, .int, .int, .int, .int, .int, .int, .int, (.object "jdk/internal/access/JavaLangAccess"), .int]
  resolved := Array.replicate 378 none
  statics := none }

def pool16 : Array CpInfo := pool [(1, u "java/lang/Cloneable"), (0, .class_ 1), (0, u "java/lang/Object"), (0, .class_ 3)] 3

/-- java/lang/Cloneable -/
def k16 : Class := { plain "java/lang/Cloneable" (some 0) with
  accessFlags := 1537
  interfaces := #[]
  cf := some (fileOf pool16 2 #[] #[] 1537 4 #[] #[])
  fields := #[]
  methods := #[]
  instanceTypes := #[]
  staticTypes := #[]
  resolved := Array.replicate 8 none
  statics := none }

/-- the primitive byte -/
def k17 : Class := { plain "byte" none with kind := .primitive 'B', accessFlags := 0x411 }
/-- [B -/
def k18 : Class := { plain "[B" (some 0) with kind := .array 17 .byte, interfaces := #[16, 2], accessFlags := 1041 }

/-- the primitive char -/
def k19 : Class := { plain "char" none with kind := .primitive 'C', accessFlags := 0x411 }
/-- [C -/
def k20 : Class := { plain "[C" (some 0) with kind := .array 19 .char, interfaces := #[16, 2], accessFlags := 1041 }

/-- the primitive int -/
def k21 : Class := { plain "int" none with kind := .primitive 'I', accessFlags := 0x411 }
/-- [I -/
def k22 : Class := { plain "[I" (some 0) with kind := .array 21 .int, interfaces := #[16, 2], accessFlags := 1041 }

def heap : Heap := #[{ cls := 7, slots := #[.long 0, .int 1, .null, .int 0, .null, .int 0, .int 0], vm := .statics 7 },
  { cls := 12, slots := #[.int 0, .int 8, .int 0, .int 1], vm := .statics 12 },
  { cls := 14, slots := #[.null, .null, .null], vm := .statics 14 }]
def classes : Array Class := #[k0, k1, k2, k3, k4, k5, k6, k7, k8, k9, k10, k11, k12, k13, k14, k15, k16, k17, k18, k19, k20, k21, k22]
def interned : List (Array UInt16 × Addr) := []
def slotsUsed : Nat := 14
def theMethod : MethodId := ⟨1, 8⟩
def args0 : Array Value := #[.int 3, .int 5, .int 9, .int 8, .int 7]
def aboutOver (below : List Frame) : State where
  vm := { classes := classes, interned := interned.toArray }
  heap := heap
  slotsUsed := slotsUsed
  threads := #[{ frames := .invoking theMethod args0 :: below }]
def below0 : List Frame := [.native { method := ⟨0, 0⟩, args := #[] }]
def about1 : State := aboutOver below0
def p0 : Program := .bare "" "" ""
def e0 : Env := launch0.env 0 0 0
theorem w_frames : about1.frames = Frame.invoking theMethod args0 :: below0 := rfl
set_option maxRecDepth 65536 in
theorem w_args : argsFit about1.vm theMethod args0 = true := by decide +kernel
set_option maxRecDepth 65536 in
theorem w_heap : heapFits about1 = true := by decide +kernel
set_option maxRecDepth 65536 in
theorem w_runnable : about1.curStatus? = some .runnable := by decide +kernel
set_option maxRecDepth 65536 in
theorem w_alone : about1.alone = true := by decide +kernel
set_option maxRecDepth 65536 in
theorem w_named : about1.methodNamed? x = some theMethod := by decide +kernel
set_option maxRecDepth 65536 in
theorem w_hears : about1.hears theMethod below0 = true := by decide +kernel
set_option maxRecDepth 65536 in
theorem w_ripe : about1.ripe theMethod args0 below0 = true := by decide +kernel
theorem w_running : about1.status = .running := rfl
set_option maxRecDepth 65536 in
theorem w_room : about1.hasRoom e0.platform room_1 = true :=
  launch0.hasRoom_least _ room_1 (by decide +kernel) (by decide +kernel) (by decide +kernel) (by decide +kernel) (by decide +kernel) (by decide +kernel)
theorem allAtoms_all (ts : List Jvm.Cond) (a : Array Jvm.Value) (st : Jvm.State) : (allAtoms ts).before a st = ts.all (fun c => c.before a st) := by
  induction ts with
  | nil => rfl
  | cons c t ih =>
    show (Jvm.Cond.and c (allAtoms t)).before a st = _
    rw [Jvm.Cond.before_and, ih, List.all_cons]
def words1 : List Jvm.Cond := Jvm.Cond.code x code maxLocals ret :: tables_1
/-- a 'code' word, met by the world's own term for the bytes: nothing is compared byte by byte -/
theorem code_word {y : MethodName} {bytes : ByteArray} {mx : Nat} {rt : Option FieldType} {a : Array Value} {s : State} {m : MethodId} {meth : Method} {c : Code} (h1 : s.methodNamed? y = some m) (h2 : s.vm.method? m = some meth) (h3 : meth.code = some c) (h4 : c.code = bytes)
    (h5 : (c.maxLocals == mx && c.exceptionTable.isEmpty && decide (c.maxStack ≤ mostOperands) && decide (meth.sig.returnType = rt) && !meth.locks && decide (parseMethodDescriptor y.desc = some meth.sig)) = true) : (Jvm.Cond.code y bytes mx rt).before a s = true := by
  simp only [Bool.and_eq_true, beq_iff_eq, Bool.not_eq_true', decide_eq_true_eq] at h5
  obtain ⟨⟨⟨⟨⟨g1, g2⟩, g3⟩, g4⟩, g5⟩, g6⟩ := h5
  simp [Cond.before, Cond.holds, Cond.value, h1, h2, h3, h4, g1, g2, g3, g4, g5, g6]
def isCode : Jvm.Cond → Bool
  | .code _ _ _ _ => true
  | _ => false
theorem all_split {L : List Jvm.Cond} {P : Jvm.Cond → Bool} (h1 : L.all (fun c => isCode c || P c) = true) (h2 : ∀ c ∈ L.filter isCode, P c = true) : L.all P = true := by
  refine List.all_eq_true.mpr fun c hc => ?_
  have h := List.all_eq_true.mp h1 c hc
  rcases Bool.eq_false_or_eq_true (isCode c) with hi | hi
  · exact h2 c (List.mem_filter.mpr ⟨hc, hi⟩)
  · simpa [hi] using h
set_option maxRecDepth 65536 in
theorem w_c0 : (Jvm.Cond.code x code maxLocals ret).before args0 about1 = true := code_word (m := ⟨1, 8⟩) (meth := k1m8) (c := k1c8) (by decide +kernel) rfl rfl rfl (by decide +kernel)
set_option maxRecDepth 65536 in
theorem w_c1 : (Jvm.Cond.code ({ cls := "com/example/load_then_swap/loadthenswap/input/KeyOrderComparePinLaw", name := "cp", desc := "(I)I" } : Jvm.MethodName) method_2_code (2 : Nat) (Option.some Jvm.ClassFile.FieldType.int)).before args0 about1 = true := code_word (m := ⟨1, 1⟩) (meth := k1m1) (c := k1c1) (by decide +kernel) rfl rfl rfl (by decide +kernel)
set_option maxRecDepth 65536 in
theorem w_c2 : (Jvm.Cond.code ({ cls := "com/example/load_then_swap/loadthenswap/input/KeyOrderComparePinLaw", name := "str", desc := "(III)Ljava/lang/String;" } : Jvm.MethodName) method_5_code (5 : Nat) (Option.some (Jvm.ClassFile.FieldType.object "java/lang/String"))).before args0 about1 = true := code_word (m := ⟨1, 4⟩) (meth := k1m4) (c := k1c4) (by decide +kernel) rfl rfl rfl (by decide +kernel)
set_option maxRecDepth 65536 in
theorem w_c3 : (Jvm.Cond.code ({ cls := "com/example/load_then_swap/loadthenswap/input/KeyOrderComparePinLaw", name := "exact", desc := "([CI)Ljava/lang/String;" } : Jvm.MethodName) method_4_code (2 : Nat) (Option.some (Jvm.ClassFile.FieldType.object "java/lang/String"))).before args0 about1 = true := code_word (m := ⟨1, 3⟩) (meth := k1m3) (c := k1c3) (by decide +kernel) rfl rfl rfl (by decide +kernel)
set_option maxRecDepth 65536 in
theorem w_c4 : (Jvm.Cond.code ({ cls := "java/lang/String", name := "<init>", desc := "([C)V" } : Jvm.MethodName) jdk_42_method_3_code (2 : Nat) (Option.none : Option Jvm.ClassFile.FieldType)).before args0 about1 = true := code_word (m := ⟨7, 1⟩) (meth := k7m1) (c := k7c1) (by decide +kernel) rfl rfl rfl (by decide +kernel)
set_option maxRecDepth 65536 in
theorem w_c5 : (Jvm.Cond.code ({ cls := "java/lang/String", name := "<init>", desc := "([CIILjava/lang/Void;)V" } : Jvm.MethodName) jdk_42_method_149_code (6 : Nat) (Option.none : Option Jvm.ClassFile.FieldType)).before args0 about1 = true := code_word (m := ⟨7, 4⟩) (meth := k7m4) (c := k7c4) (by decide +kernel) rfl rfl rfl (by decide +kernel)
set_option maxRecDepth 65536 in
theorem w_c6 : (Jvm.Cond.code ({ cls := "java/lang/Object", name := "<init>", desc := "()V" } : Jvm.MethodName) object_method_1_code (1 : Nat) (Option.none : Option Jvm.ClassFile.FieldType)).before args0 about1 = true := code_word (m := ⟨0, 0⟩) (meth := k0m0) (c := k0c0) (by decide +kernel) rfl rfl rfl (by decide +kernel)
set_option maxRecDepth 65536 in
theorem w_c7 : (Jvm.Cond.code ({ cls := "com/example/load_then_swap/loadthenswap/input/KeyOrder", name := "compare", desc := "(Ljava/lang/String;Ljava/lang/String;)I" } : Jvm.MethodName) prog_11_method_2_code (6 : Nat) (Option.some Jvm.ClassFile.FieldType.int)).before args0 about1 = true := code_word (m := ⟨8, 1⟩) (meth := k8m1) (c := k8c1) (by decide +kernel) rfl rfl rfl (by decide +kernel)
set_option maxRecDepth 65536 in
theorem w_c8 : (Jvm.Cond.code ({ cls := "java/lang/String", name := "length", desc := "()I" } : Jvm.MethodName) jdk_42_method_54_code (1 : Nat) (Option.some Jvm.ClassFile.FieldType.int)).before args0 about1 = true := code_word (m := ⟨7, 2⟩) (meth := k7m2) (c := k7c2) (by decide +kernel) rfl rfl rfl (by decide +kernel)
set_option maxRecDepth 65536 in
theorem w_c9 : (Jvm.Cond.code ({ cls := "java/lang/String", name := "coder", desc := "()B" } : Jvm.MethodName) jdk_42_method_152_code (1 : Nat) (Option.some Jvm.ClassFile.FieldType.byte)).before args0 about1 = true := code_word (m := ⟨7, 5⟩) (meth := k7m5) (c := k7c5) (by decide +kernel) rfl rfl rfl (by decide +kernel)
set_option maxRecDepth 65536 in
theorem w_c10 : (Jvm.Cond.code ({ cls := "java/lang/Math", name := "min", desc := "(II)I" } : Jvm.MethodName) jdk_29_method_69_code (2 : Nat) (Option.some Jvm.ClassFile.FieldType.int)).before args0 about1 = true := code_word (m := ⟨9, 1⟩) (meth := k9m1) (c := k9c1) (by decide +kernel) rfl rfl rfl (by decide +kernel)
set_option maxRecDepth 65536 in
theorem w_c11 : (Jvm.Cond.code ({ cls := "java/lang/Integer", name := "compare", desc := "(II)I" } : Jvm.MethodName) jdk_33_method_40_code (2 : Nat) (Option.some Jvm.ClassFile.FieldType.int)).before args0 about1 = true := code_word (m := ⟨11, 0⟩) (meth := k11m0) (c := k11c0) (by decide +kernel) rfl rfl rfl (by decide +kernel)
set_option maxRecDepth 65536 in
theorem w_c12 : (Jvm.Cond.code ({ cls := "com/example/load_then_swap/loadthenswap/input/KeyOrderComparePinLaw", name := "sgn", desc := "(I)I" } : Jvm.MethodName) method_7_code (1 : Nat) (Option.some Jvm.ClassFile.FieldType.int)).before args0 about1 = true := code_word (m := ⟨1, 6⟩) (meth := k1m6) (c := k1c6) (by decide +kernel) rfl rfl rfl (by decide +kernel)
set_option maxRecDepth 65536 in
theorem w_c13 : (Jvm.Cond.code ({ cls := "com/example/load_then_swap/loadthenswap/input/KeyOrderComparePinLaw", name := "ref", desc := "(IIIIII)I" } : Jvm.MethodName) method_8_code (6 : Nat) (Option.some Jvm.ClassFile.FieldType.int)).before args0 about1 = true := code_word (m := ⟨1, 7⟩) (meth := k1m7) (c := k1c7) (by decide +kernel) rfl rfl rfl (by decide +kernel)
set_option maxRecDepth 65536 in
theorem w_c14 : (Jvm.Cond.code ({ cls := "com/example/load_then_swap/loadthenswap/input/KeyOrderComparePinLaw", name := "cmp", desc := "(II)I" } : Jvm.MethodName) method_6_code (2 : Nat) (Option.some Jvm.ClassFile.FieldType.int)).before args0 about1 = true := code_word (m := ⟨1, 5⟩) (meth := k1m5) (c := k1c5) (by decide +kernel) rfl rfl rfl (by decide +kernel)
set_option maxRecDepth 65536 in
theorem w_c15 : (Jvm.Cond.code ({ cls := "com/example/load_then_swap/loadthenswap/input/KeyOrderComparePinLaw", name := "put", desc := "([CII)I" } : Jvm.MethodName) method_3_code (4 : Nat) (Option.some Jvm.ClassFile.FieldType.int)).before args0 about1 = true := code_word (m := ⟨1, 2⟩) (meth := k1m2) (c := k1c2) (by decide +kernel) rfl rfl rfl (by decide +kernel)
set_option maxRecDepth 65536 in
theorem w_c16 : (Jvm.Cond.code ({ cls := "java/lang/StringUTF16", name := "compress", desc := "([CII)[B" } : Jvm.MethodName) jdk_52_method_16_code (6 : Nat) (Option.some (Jvm.ClassFile.FieldType.array Jvm.ClassFile.FieldType.byte))).before args0 about1 = true := code_word (m := ⟨12, 8⟩) (meth := k12m8) (c := k12c8) (by decide +kernel) rfl rfl rfl (by decide +kernel)
set_option maxRecDepth 65536 in
theorem w_c17 : (Jvm.Cond.code ({ cls := "java/lang/StringUTF16", name := "compress", desc := "([CI[BII)I" } : Jvm.MethodName) jdk_52_method_21_code (7 : Nat) (Option.some Jvm.ClassFile.FieldType.int)).before args0 about1 = true := code_word (m := ⟨12, 9⟩) (meth := k12m9) (c := k12c9) (by decide +kernel) rfl rfl rfl (by decide +kernel)
set_option maxRecDepth 65536 in
theorem w_c18 : (Jvm.Cond.code ({ cls := "java/lang/StringUTF16", name := "coderFromArrayLen", desc := "([BI)B" } : Jvm.MethodName) jdk_52_method_15_code (2 : Nat) (Option.some Jvm.ClassFile.FieldType.byte)).before args0 about1 = true := code_word (m := ⟨12, 7⟩) (meth := k12m7) (c := k12c7) (by decide +kernel) rfl rfl rfl (by decide +kernel)
set_option maxRecDepth 65536 in
theorem w_c19 : (Jvm.Cond.code ({ cls := "java/lang/String", name := "charAt", desc := "(I)C" } : Jvm.MethodName) jdk_42_method_56_code (2 : Nat) (Option.some Jvm.ClassFile.FieldType.char)).before args0 about1 = true := code_word (m := ⟨7, 3⟩) (meth := k7m3) (c := k7c3) (by decide +kernel) rfl rfl rfl (by decide +kernel)
set_option maxRecDepth 65536 in
theorem w_c20 : (Jvm.Cond.code ({ cls := "java/lang/String", name := "isLatin1", desc := "()Z" } : Jvm.MethodName) jdk_42_method_154_code (1 : Nat) (Option.some Jvm.ClassFile.FieldType.boolean)).before args0 about1 = true := code_word (m := ⟨7, 6⟩) (meth := k7m6) (c := k7c6) (by decide +kernel) rfl rfl rfl (by decide +kernel)
set_option maxRecDepth 65536 in
theorem w_c21 : (Jvm.Cond.code ({ cls := "java/lang/StringLatin1", name := "charAt", desc := "([BI)C" } : Jvm.MethodName) jdk_43_method_2_code (2 : Nat) (Option.some Jvm.ClassFile.FieldType.char)).before args0 about1 = true := code_word (m := ⟨13, 1⟩) (meth := k13m1) (c := k13c1) (by decide +kernel) rfl rfl rfl (by decide +kernel)
set_option maxRecDepth 65536 in
theorem w_c22 : (Jvm.Cond.code ({ cls := "java/lang/String", name := "checkIndex", desc := "(II)V" } : Jvm.MethodName) jdk_42_method_155_code (2 : Nat) (Option.none : Option Jvm.ClassFile.FieldType)).before args0 about1 = true := code_word (m := ⟨7, 7⟩) (meth := k7m7) (c := k7c7) (by decide +kernel) rfl rfl rfl (by decide +kernel)
set_option maxRecDepth 65536 in
theorem w_c23 : (Jvm.Cond.code ({ cls := "jdk/internal/util/Preconditions", name := "checkIndex", desc := "(IILjava/util/function/BiFunction;)I" } : Jvm.MethodName) jdk_41_method_11_code (3 : Nat) (Option.some Jvm.ClassFile.FieldType.int)).before args0 about1 = true := code_word (m := ⟨14, 1⟩) (meth := k14m1) (c := k14c1) (by decide +kernel) rfl rfl rfl (by decide +kernel)
set_option maxRecDepth 65536 in
theorem w_c24 : (Jvm.Cond.code ({ cls := "com/example/load_then_swap/loadthenswap/input/KeyOrder", name := "rank", desc := "(C)I" } : Jvm.MethodName) prog_11_method_3_code (2 : Nat) (Option.some Jvm.ClassFile.FieldType.int)).before args0 about1 = true := code_word (m := ⟨8, 2⟩) (meth := k8m2) (c := k8c2) (by decide +kernel) rfl rfl rfl (by decide +kernel)
set_option maxRecDepth 65536 in
theorem w_c25 : (Jvm.Cond.code ({ cls := "java/lang/StringUTF16", name := "toBytes", desc := "([CII)[B" } : Jvm.MethodName) jdk_52_method_14_code (5 : Nat) (Option.some (Jvm.ClassFile.FieldType.array Jvm.ClassFile.FieldType.byte))).before args0 about1 = true := code_word (m := ⟨12, 6⟩) (meth := k12m6) (c := k12c6) (by decide +kernel) rfl rfl rfl (by decide +kernel)
set_option maxRecDepth 65536 in
theorem w_c26 : (Jvm.Cond.code ({ cls := "java/lang/StringUTF16", name := "newBytesFor", desc := "(I)[B" } : Jvm.MethodName) jdk_52_method_2_code (1 : Nat) (Option.some (Jvm.ClassFile.FieldType.array Jvm.ClassFile.FieldType.byte))).before args0 about1 = true := code_word (m := ⟨12, 1⟩) (meth := k12m1) (c := k12c1) (by decide +kernel) rfl rfl rfl (by decide +kernel)
set_option maxRecDepth 65536 in
theorem w_c27 : (Jvm.Cond.code ({ cls := "java/lang/StringUTF16", name := "newBytesLength", desc := "(I)I" } : Jvm.MethodName) jdk_52_method_3_code (1 : Nat) (Option.some Jvm.ClassFile.FieldType.int)).before args0 about1 = true := code_word (m := ⟨12, 2⟩) (meth := k12m2) (c := k12c2) (by decide +kernel) rfl rfl rfl (by decide +kernel)
set_option maxRecDepth 65536 in
theorem w_c28 : (Jvm.Cond.code ({ cls := "java/lang/StringUTF16", name := "putChar", desc := "([BII)V" } : Jvm.MethodName) jdk_52_method_4_code (3 : Nat) (Option.none : Option Jvm.ClassFile.FieldType)).before args0 about1 = true := code_word (m := ⟨12, 3⟩) (meth := k12m3) (c := k12c3) (by decide +kernel) rfl rfl rfl (by decide +kernel)
set_option maxRecDepth 65536 in
theorem w_c29 : (Jvm.Cond.code ({ cls := "java/lang/StringUTF16", name := "getChar", desc := "([BI)C" } : Jvm.MethodName) jdk_52_method_5_code (2 : Nat) (Option.some Jvm.ClassFile.FieldType.char)).before args0 about1 = true := code_word (m := ⟨12, 4⟩) (meth := k12m4) (c := k12c4) (by decide +kernel) rfl rfl rfl (by decide +kernel)
set_option maxRecDepth 65536 in
theorem w_c30 : (Jvm.Cond.code ({ cls := "java/lang/StringUTF16", name := "charAt", desc := "([BI)C" } : Jvm.MethodName) jdk_52_method_83_code (2 : Nat) (Option.some Jvm.ClassFile.FieldType.char)).before args0 about1 = true := code_word (m := ⟨12, 10⟩) (meth := k12m10) (c := k12c10) (by decide +kernel) rfl rfl rfl (by decide +kernel)
set_option maxRecDepth 65536 in
theorem w_c31 : (Jvm.Cond.code ({ cls := "java/lang/StringUTF16", name := "checkIndex", desc := "(I[B)V" } : Jvm.MethodName) jdk_52_method_91_code (2 : Nat) (Option.none : Option Jvm.ClassFile.FieldType)).before args0 about1 = true := code_word (m := ⟨12, 11⟩) (meth := k12m11) (c := k12c11) (by decide +kernel) rfl rfl rfl (by decide +kernel)
set_option maxRecDepth 65536 in
theorem w_c32 : (Jvm.Cond.code ({ cls := "java/lang/StringUTF16", name := "length", desc := "([B)I" } : Jvm.MethodName) jdk_52_method_6_code (1 : Nat) (Option.some Jvm.ClassFile.FieldType.int)).before args0 about1 = true := code_word (m := ⟨12, 5⟩) (meth := k12m5) (c := k12c5) (by decide +kernel) rfl rfl rfl (by decide +kernel)
def codes1 : List Jvm.Cond := [Jvm.Cond.code x code maxLocals ret, Jvm.Cond.code ({ cls := "com/example/load_then_swap/loadthenswap/input/KeyOrderComparePinLaw", name := "cp", desc := "(I)I" } : Jvm.MethodName) method_2_code (2 : Nat) (Option.some Jvm.ClassFile.FieldType.int), Jvm.Cond.code ({ cls := "com/example/load_then_swap/loadthenswap/input/KeyOrderComparePinLaw", name := "str", desc := "(III)Ljava/lang/String;" } : Jvm.MethodName) method_5_code (5 : Nat) (Option.some (Jvm.ClassFile.FieldType.object "java/lang/String")), Jvm.Cond.code ({ cls := "com/example/load_then_swap/loadthenswap/input/KeyOrderComparePinLaw", name := "exact", desc := "([CI)Ljava/lang/String;" } : Jvm.MethodName) method_4_code (2 : Nat) (Option.some (Jvm.ClassFile.FieldType.object "java/lang/String")), Jvm.Cond.code ({ cls := "java/lang/String", name := "<init>", desc := "([C)V" } : Jvm.MethodName) jdk_42_method_3_code (2 : Nat) (Option.none : Option Jvm.ClassFile.FieldType), Jvm.Cond.code ({ cls := "java/lang/String", name := "<init>", desc := "([CIILjava/lang/Void;)V" } : Jvm.MethodName) jdk_42_method_149_code (6 : Nat) (Option.none : Option Jvm.ClassFile.FieldType), Jvm.Cond.code ({ cls := "java/lang/Object", name := "<init>", desc := "()V" } : Jvm.MethodName) object_method_1_code (1 : Nat) (Option.none : Option Jvm.ClassFile.FieldType), Jvm.Cond.code ({ cls := "com/example/load_then_swap/loadthenswap/input/KeyOrder", name := "compare", desc := "(Ljava/lang/String;Ljava/lang/String;)I" } : Jvm.MethodName) prog_11_method_2_code (6 : Nat) (Option.some Jvm.ClassFile.FieldType.int), Jvm.Cond.code ({ cls := "java/lang/String", name := "length", desc := "()I" } : Jvm.MethodName) jdk_42_method_54_code (1 : Nat) (Option.some Jvm.ClassFile.FieldType.int), Jvm.Cond.code ({ cls := "java/lang/String", name := "coder", desc := "()B" } : Jvm.MethodName) jdk_42_method_152_code (1 : Nat) (Option.some Jvm.ClassFile.FieldType.byte), Jvm.Cond.code ({ cls := "java/lang/Math", name := "min", desc := "(II)I" } : Jvm.MethodName) jdk_29_method_69_code (2 : Nat) (Option.some Jvm.ClassFile.FieldType.int), Jvm.Cond.code ({ cls := "java/lang/Integer", name := "compare", desc := "(II)I" } : Jvm.MethodName) jdk_33_method_40_code (2 : Nat) (Option.some Jvm.ClassFile.FieldType.int), Jvm.Cond.code ({ cls := "com/example/load_then_swap/loadthenswap/input/KeyOrderComparePinLaw", name := "sgn", desc := "(I)I" } : Jvm.MethodName) method_7_code (1 : Nat) (Option.some Jvm.ClassFile.FieldType.int), Jvm.Cond.code ({ cls := "com/example/load_then_swap/loadthenswap/input/KeyOrderComparePinLaw", name := "ref", desc := "(IIIIII)I" } : Jvm.MethodName) method_8_code (6 : Nat) (Option.some Jvm.ClassFile.FieldType.int), Jvm.Cond.code ({ cls := "com/example/load_then_swap/loadthenswap/input/KeyOrderComparePinLaw", name := "cmp", desc := "(II)I" } : Jvm.MethodName) method_6_code (2 : Nat) (Option.some Jvm.ClassFile.FieldType.int), Jvm.Cond.code ({ cls := "com/example/load_then_swap/loadthenswap/input/KeyOrderComparePinLaw", name := "put", desc := "([CII)I" } : Jvm.MethodName) method_3_code (4 : Nat) (Option.some Jvm.ClassFile.FieldType.int), Jvm.Cond.code ({ cls := "java/lang/StringUTF16", name := "compress", desc := "([CII)[B" } : Jvm.MethodName) jdk_52_method_16_code (6 : Nat) (Option.some (Jvm.ClassFile.FieldType.array Jvm.ClassFile.FieldType.byte)), Jvm.Cond.code ({ cls := "java/lang/StringUTF16", name := "compress", desc := "([CI[BII)I" } : Jvm.MethodName) jdk_52_method_21_code (7 : Nat) (Option.some Jvm.ClassFile.FieldType.int), Jvm.Cond.code ({ cls := "java/lang/StringUTF16", name := "coderFromArrayLen", desc := "([BI)B" } : Jvm.MethodName) jdk_52_method_15_code (2 : Nat) (Option.some Jvm.ClassFile.FieldType.byte), Jvm.Cond.code ({ cls := "java/lang/String", name := "charAt", desc := "(I)C" } : Jvm.MethodName) jdk_42_method_56_code (2 : Nat) (Option.some Jvm.ClassFile.FieldType.char), Jvm.Cond.code ({ cls := "java/lang/String", name := "isLatin1", desc := "()Z" } : Jvm.MethodName) jdk_42_method_154_code (1 : Nat) (Option.some Jvm.ClassFile.FieldType.boolean), Jvm.Cond.code ({ cls := "java/lang/StringLatin1", name := "charAt", desc := "([BI)C" } : Jvm.MethodName) jdk_43_method_2_code (2 : Nat) (Option.some Jvm.ClassFile.FieldType.char), Jvm.Cond.code ({ cls := "java/lang/String", name := "checkIndex", desc := "(II)V" } : Jvm.MethodName) jdk_42_method_155_code (2 : Nat) (Option.none : Option Jvm.ClassFile.FieldType), Jvm.Cond.code ({ cls := "jdk/internal/util/Preconditions", name := "checkIndex", desc := "(IILjava/util/function/BiFunction;)I" } : Jvm.MethodName) jdk_41_method_11_code (3 : Nat) (Option.some Jvm.ClassFile.FieldType.int), Jvm.Cond.code ({ cls := "com/example/load_then_swap/loadthenswap/input/KeyOrder", name := "rank", desc := "(C)I" } : Jvm.MethodName) prog_11_method_3_code (2 : Nat) (Option.some Jvm.ClassFile.FieldType.int), Jvm.Cond.code ({ cls := "java/lang/StringUTF16", name := "toBytes", desc := "([CII)[B" } : Jvm.MethodName) jdk_52_method_14_code (5 : Nat) (Option.some (Jvm.ClassFile.FieldType.array Jvm.ClassFile.FieldType.byte)), Jvm.Cond.code ({ cls := "java/lang/StringUTF16", name := "newBytesFor", desc := "(I)[B" } : Jvm.MethodName) jdk_52_method_2_code (1 : Nat) (Option.some (Jvm.ClassFile.FieldType.array Jvm.ClassFile.FieldType.byte)), Jvm.Cond.code ({ cls := "java/lang/StringUTF16", name := "newBytesLength", desc := "(I)I" } : Jvm.MethodName) jdk_52_method_3_code (1 : Nat) (Option.some Jvm.ClassFile.FieldType.int), Jvm.Cond.code ({ cls := "java/lang/StringUTF16", name := "putChar", desc := "([BII)V" } : Jvm.MethodName) jdk_52_method_4_code (3 : Nat) (Option.none : Option Jvm.ClassFile.FieldType), Jvm.Cond.code ({ cls := "java/lang/StringUTF16", name := "getChar", desc := "([BI)C" } : Jvm.MethodName) jdk_52_method_5_code (2 : Nat) (Option.some Jvm.ClassFile.FieldType.char), Jvm.Cond.code ({ cls := "java/lang/StringUTF16", name := "charAt", desc := "([BI)C" } : Jvm.MethodName) jdk_52_method_83_code (2 : Nat) (Option.some Jvm.ClassFile.FieldType.char), Jvm.Cond.code ({ cls := "java/lang/StringUTF16", name := "checkIndex", desc := "(I[B)V" } : Jvm.MethodName) jdk_52_method_91_code (2 : Nat) (Option.none : Option Jvm.ClassFile.FieldType), Jvm.Cond.code ({ cls := "java/lang/StringUTF16", name := "length", desc := "([B)I" } : Jvm.MethodName) jdk_52_method_6_code (1 : Nat) (Option.some Jvm.ClassFile.FieldType.int)]
set_option maxRecDepth 65536 in
theorem codes_eq : words1.filter isCode = codes1 := rfl
theorem w_codes : ∀ c ∈ words1.filter isCode, c.before args0 about1 = true := by
  rw [codes_eq]
  intro c hc
  simp only [codes1, List.mem_cons, List.not_mem_nil, or_false] at hc
  rcases hc with rfl | rfl | rfl | rfl | rfl | rfl | rfl | rfl | rfl | rfl | rfl | rfl | rfl | rfl | rfl | rfl | rfl | rfl | rfl | rfl | rfl | rfl | rfl | rfl | rfl | rfl | rfl | rfl | rfl | rfl | rfl | rfl | rfl
  · exact w_c0
  · exact w_c1
  · exact w_c2
  · exact w_c3
  · exact w_c4
  · exact w_c5
  · exact w_c6
  · exact w_c7
  · exact w_c8
  · exact w_c9
  · exact w_c10
  · exact w_c11
  · exact w_c12
  · exact w_c13
  · exact w_c14
  · exact w_c15
  · exact w_c16
  · exact w_c17
  · exact w_c18
  · exact w_c19
  · exact w_c20
  · exact w_c21
  · exact w_c22
  · exact w_c23
  · exact w_c24
  · exact w_c25
  · exact w_c26
  · exact w_c27
  · exact w_c28
  · exact w_c29
  · exact w_c30
  · exact w_c31
  · exact w_c32
set_option maxRecDepth 65536 in
theorem w_t1 : (words1.take 24).all (fun c => isCode c || c.before args0 about1) = true := by decide +kernel
set_option maxRecDepth 65536 in
theorem w_t2 : ((words1.drop 24).take 24).all (fun c => isCode c || c.before args0 about1) = true := by decide +kernel
set_option maxRecDepth 65536 in
theorem w_t3 : (((words1.drop 24).drop 24).take 24).all (fun c => isCode c || c.before args0 about1) = true := by decide +kernel
set_option maxRecDepth 65536 in
theorem w_t4 : ((((words1.drop 24).drop 24).drop 24).take 24).all (fun c => isCode c || c.before args0 about1) = true := by decide +kernel
set_option maxRecDepth 65536 in
theorem w_t5 : (((((words1.drop 24).drop 24).drop 24).drop 24).take 24).all (fun c => isCode c || c.before args0 about1) = true := by decide +kernel
set_option maxRecDepth 65536 in
theorem w_t6 : (((((words1.drop 24).drop 24).drop 24).drop 24).drop 24).all (fun c => isCode c || c.before args0 about1) = true := by decide +kernel
theorem w_tables : (allAtoms (Jvm.Cond.code x code maxLocals ret :: tables_1)).before args0 about1 = true := by
  rw [allAtoms_all]
  show words1.all (fun c => c.before args0 about1) = true
  refine all_split ?_ w_codes
  rw [← List.take_append_drop 24 words1, List.all_append, w_t1, ← List.take_append_drop 24 (words1.drop 24), List.all_append, w_t2, ← List.take_append_drop 24 ((words1.drop 24).drop 24), List.all_append, w_t3, ← List.take_append_drop 24 (((words1.drop 24).drop 24).drop 24), List.all_append, w_t4, ← List.take_append_drop 24 ((((words1.drop 24).drop 24).drop 24).drop 24), List.all_append, w_t5, w_t6]
  rfl
set_option maxRecDepth 65536 in
theorem w_rest : rest_1_c.before args0 about1 = true := by decide +kernel
set_option maxRecDepth 65536 in
theorem w_case : (Jvm.Cond.and given_1 narrow_1).before args0 about1 = true := by decide +kernel
set_option maxRecDepth 65536 in
theorem w_consts : constsHeld consts_1 about1 := Jvm.Lit.constsHeldB_iff.mp (by decide +kernel)
theorem w_applies : (headSpec (Jvm.Cond.code x code maxLocals ret :: tables_1) room_1).applies x e0.platform about1 = true :=
  (Spec.applies_iff w_frames).mpr ⟨w_running, w_runnable, w_alone, w_named, w_hears, w_ripe, w_room, w_tables⟩
theorem atStart : AtStart classFile x code maxLocals ret World_1 tables_1 room_1 Calls_1 rest_1 Pre_1 launch0 p0 e0 about1 theMethod args0 below0 :=
  ⟨lists_1, trivial, launch0.admits_env _ _ _, launch0.least_env, fairChoices_fair.cas, fairChoices_fair.clock, w_frames, w_args, w_heap, w_applies, ⟨w_consts, trivial⟩, w_rest, w_case⟩
end start1
theorem witness_1 : WitnessClaimed_1 := ⟨start1.p0, start1.e0, start1.about1, start1.theMethod, start1.args0, start1.below0, start1.atStart⟩
end Jvm.Pilot.@@N@@
