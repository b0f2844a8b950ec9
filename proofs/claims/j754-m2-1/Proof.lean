import JvmDerived
import JvmDerived.Pilot.@@N@@Statement
import JvmDerived.Pilot.@@N@@Code
set_option linter.unusedVariables false
set_option linter.unusedSimpArgs false
namespace Jvm.OwnKit
open Sem ClassFile Op Lib Bundle Jvm.Stand Jvm.Free Jvm.LawKit Jvm.RoadKit
/-! Own text. 'Here': the run of one method has come to this pc, these locals, this stack, over this heap; the state and the tables at hand are hidden. 'Met': a method's contract; 'Paid': a call of it can be paid. -/
abbrev Ctx : Type := Program × Launch × Env × State × MethodId × Array Value × List Frame × Method × Code × State
def Here (k : Ctx) (R : Room) (Z : State) (EL : List (String × Nat)) (n0 : Nat) (y : MethodName) (B : ByteArray) (ret : Option FieldType) (h0 : Heap) (ws : List Addr) (h : Heap) (pc : Nat) (L : Array Slot) (S : List Value) (ce sl : Nat) (sf : List Addr) : Prop :=
  match k with
  | (p, l, e, s, m, args, below, meth, c, start) =>
    ∃ (T : State) (vm0 : Vm) (k0 : Nat) (locs : List Loc),
      Stand p l e R (s.setVm vm0) m args below meth c T locs ce sl ∧ T.heap = h ∧ s.Since vm0 k0 ∧ k0 ≤ h.size ∧ Z.Warmed39 vm0 ∧ vm0.findClass y.cls = some m.cls ∧ CHr Z EL s.vm s.heap vm0 h ∧ Fr n0 locs ∧
      (s.heap = h0 ∧ Keep h0 h ws ∧ Old Z n0 h ∧ ∀ x ∈ sf, Safe Z EL vm0 h x ∧ x < h.size ∧ n0 ≤ x ∧ (x ∈ ws ∨ h0.size ≤ x)) ∧
      (p.tables.exec = Jvm.exec ∧ c.code = B ∧ L.size = c.maxLocals ∧ meth.sig.returnType = ret ∧ meth.name = y.name ∧ meth.locks = false ∧ ∃ a0, EW Z a0 EL) ∧
      ∀ t, Steps p.tables e below (T.setTop (mkF m pc L S)) t → Steps p.tables e below start t
def Done (k : Ctx) (R : Room) (Z : State) (EL : List (String × Nat)) (n0 : Nat) (h0 : Heap) (ws : List Addr) (Q : Option Value → Heap → Prop) : Prop :=
  match k with
  | (p, l, e, s, m, args, below, meth, c, start) =>
    ∃ s₂ o, Steps p.tables e below start s₂ ∧ s₂.status = .running ∧ Ended s₂ below o ∧ ∃ v L, o = .returned v ∧ (Q v s₂.heap ∧ Keep h0 s₂.heap ws ∧ Fr n0 L) ∧ CHr Z EL s.vm s.heap s₂.vm s₂.heap ∧ ReturnedEndW s o s₂ L R.cells R.slots
def Met (Z : State) (EL : List (String × Nat)) (n0 : Nat) (y : MethodName) (B : ByteArray) (mx : Nat) (ret : Option FieldType) (rm : Room) (as' : Array Value) (h : Heap) (ws : List Addr) (Q : Option Value → Heap → Prop) : Prop :=
  ∀ (l : Launch) (wds : List Jvm.Cond), MetFree l y (head1 (Jvm.Cond.code y B mx ret :: wds) rm) (fun a U => a = as' ∧ Z.Warmed39 U.vm ∧ U.heap = h ∧ CHv Z EL U.vm h ∧ ∀ x ∈ ws, Safe Z EL U.vm h x) (fun _ _ _ _ _ => True)
    (fun _ U o U' => ∃ v L, o = .returned v ∧ (Q v U'.heap ∧ Keep h U'.heap ws ∧ Fr n0 L) ∧ CHr Z EL U.vm U.heap U'.vm U'.heap ∧ ReturnedEndW U o U' L rm.cells rm.slots)
def Paid (k : Ctx) (R : Room) (Z : State) (EL : List (String × Nat)) (n0 : Nat) (z : MethodName) (W : Nat) (as' : Array Value) (h : Heap) (ws : List Addr) (kc ks : Nat) (Q : Option Value → Heap → Prop) : Prop :=
  match k with
  | (p, l, e, s, m, args, below, meth, c, start) =>
    ∀ vm0, Z.Warmed39 vm0 → CHv Z EL vm0 h → (∀ x ∈ ws, Safe Z EL vm0 h x ∧ x < h.size) →
      BackS l R p e below (s.setVm vm0) args z 3 W (fun A a => a = as' ∧ A.U.heap = h ∧ A.cells + kc ≤ R.cells ∧ A.slots + ks ≤ R.slots)
        (fun A _ v D => ∃ L, (Q v D.U.heap ∧ Keep h D.U.heap ws ∧ Fr n0 L) ∧ D.locs = A.locs ++ L ∧ D.cells = A.cells + kc ∧ D.slots = A.slots + ks ∧ CHr Z EL vm0 h D.U.vm D.U.heap)
section Base
variable {k : Ctx} {R rm : Room} {Z : State} {EL : List (String × Nat)} {n0 : Nat} {y z : MethodName} {B bytes : ByteArray} {ret rt : Option FieldType} {h0 h h' : Heap} {ws ws' sf : List Addr} {pc : Nat} {L : Array Slot} {S : List Value} {ce sl mx : Nat} {a0 as' : Array Value} {Q : Option Value → Heap → Prop} {s : State} {vm0 vm1 : Vm} {k0 : Nat}
theorem upd (hC : CHr Z EL s.vm s.heap vm0 h) (hk : k0 ≤ h.size) (hF : s.heap = h0 ∧ Keep h0 h ws ∧ Old Z n0 h ∧ ∀ x ∈ sf, Safe Z EL vm0 h x ∧ x < h.size ∧ n0 ≤ x ∧ (x ∈ ws ∨ h0.size ≤ x)) {w1 : List Addr} (K : Keep h h' w1) (hw : ∀ x ∈ w1, x ∈ sf) :
    CHr Z EL s.vm s.heap vm0 h' ∧ k0 ≤ h'.size ∧ (s.heap = h0 ∧ Keep h0 h' ws ∧ Old Z n0 h' ∧ ∀ x ∈ sf, Safe Z EL vm0 h' x ∧ x < h'.size ∧ n0 ≤ x ∧ (x ∈ ws ∨ h0.size ≤ x)) := by
  obtain ⟨f1, f2, f3, f4⟩ := hF
  have hs : ∀ x ∈ w1, Safe Z EL vm0 h x := fun x q => (f4 x (hw x q)).1
  refine ⟨hC.trans (CHr.keep K hs hC.1), Nat.le_trans hk K.1, f1, f2.trans K (fun x q => (f4 x (hw x q)).2.2.2), f3.keep K (fun x q => (f4 x (hw x q)).2.2.1), fun x q => ?_⟩
  obtain ⟨g1, g2, g3⟩ := f4 x q
  exact ⟨Safe.keep K hs hC.1 g1, Nat.lt_of_lt_of_le g2 K.1, g3⟩
theorem updC (hC : CHr Z EL s.vm s.heap vm0 h) (hF : s.heap = h0 ∧ Keep h0 h ws ∧ Old Z n0 h ∧ ∀ x ∈ sf, Safe Z EL vm0 h x ∧ x < h.size ∧ n0 ≤ x ∧ (x ∈ ws ∨ h0.size ≤ x)) {w1 : List Addr} (K : Keep h h' w1) (hw : ∀ x ∈ w1, x ∈ sf) (A : CHr Z EL vm0 h vm1 h') :
    CHr Z EL s.vm s.heap vm1 h' ∧ (s.heap = h0 ∧ Keep h0 h' ws ∧ Old Z n0 h' ∧ ∀ x ∈ sf, Safe Z EL vm1 h' x ∧ x < h'.size ∧ n0 ≤ x ∧ (x ∈ ws ∨ h0.size ≤ x)) := by
  obtain ⟨f1, f2, f3, f4⟩ := hF
  refine ⟨hC.trans A, f1, f2.trans K (fun x q => (f4 x (hw x q)).2.2.2), f3.keep K (fun x q => (f4 x (hw x q)).2.2.1), fun x q => ?_⟩
  obtain ⟨g1, g2, g3⟩ := f4 x q
  exact ⟨A.safe g2 g1, Nat.lt_of_lt_of_le g2 K.1, g3⟩
theorem extKeep (E : Ext h h') : Keep h h' [] := (Keep.refl h []).ext E
/-- a fresh cell is one more that may be written -/
theorem updN (hC : CHr Z EL s.vm s.heap vm0 h) (hk : k0 ≤ h.size) (hF : s.heap = h0 ∧ Keep h0 h ws ∧ Old Z n0 h ∧ ∀ x ∈ sf, Safe Z EL vm0 h x ∧ x < h.size ∧ n0 ≤ x ∧ (x ∈ ws ∨ h0.size ≤ x)) (E : Ext h h') (hlt : h.size < h'.size) :
    CHr Z EL s.vm s.heap vm0 h' ∧ k0 ≤ h'.size ∧ (s.heap = h0 ∧ Keep h0 h' ws ∧ Old Z n0 h' ∧ ∀ x ∈ h.size :: sf, Safe Z EL vm0 h' x ∧ x < h'.size ∧ n0 ≤ x ∧ (x ∈ ws ∨ h0.size ≤ x)) := by
  obtain ⟨u1, u2, u3, u4, u5, u6⟩ := upd hC hk hF (extKeep E) all0
  refine ⟨u1, u2, u3, u4, u5, fun x q => ?_⟩
  rcases List.mem_cons.mp q with rfl | q
  · exact ⟨Safe.ext E hC.1 (Safe.new (Nat.le_refl _)), hlt, by have := hF.2.2.1.2.1; have := hF.2.2.1.1; omega, Or.inr hF.2.1.1⟩
  · exact u6 x q
theorem Here.go (H : Here k R Z EL n0 y B ret h0 ws h pc L S ce sl sf) {pc' : Nat} {L' : Array Slot} {S' : List Value} (hL : L'.size = L.size)
    (f : ∀ (p : Program) (e : Env) (below : List Frame) (m : MethodId) (c : Code) (T t : State), At T m c below → p.tables.exec = Jvm.exec → c.code = B → Steps p.tables e below (T.setTop (mkF m pc' L' S')) t → Steps p.tables e below (T.setTop (mkF m pc L S)) t) :
    Here k R Z EL n0 y B ret h0 ws h pc' L' S' ce sl sf := by
  obtain ⟨p, l, e, s, m, args, below, meth, c, start⟩ := k
  obtain ⟨T, vm0, k0, locs, X, e1, hS, hk, hZ, hown, hC, hN, hF, ⟨hx, hb, hl, hr⟩, st⟩ := H
  exact ⟨T, vm0, k0, locs, X, e1, hS, hk, hZ, hown, hC, hN, hF, ⟨hx, hb, hL.trans hl, hr⟩, fun t q => st t (f p e below m c T t X.here hx hb q)⟩
/-- a step that reads the tables or the heap -/
theorem Here.goT (H : Here k R Z EL n0 y B ret h0 ws h pc L S ce sl sf) {pc' : Nat} {L' : Array Slot} {S' : List Value} (hL : L'.size = L.size)
    (f : ∀ (p : Program) (l : Launch) (e : Env) (s : State) (m : MethodId) (args : Array Value) (below : List Frame) (meth : Method) (c : Code) (T : State) (locs : List Loc) (ce sl : Nat), Stand p l e R s m args below meth c T locs ce sl → T.heap = h → Z.Warmed39 s.vm → s.vm.findClass y.cls = some m.cls → p.tables.exec = Jvm.exec → c.code = B → L.size = c.maxLocals → s.heap = h0 →
      ∃ T', Stand p l e R s m args below meth c T' locs ce sl ∧ T'.heap = h ∧ ∀ t, Steps p.tables e below (T'.setTop (mkF m pc' L' S')) t → Steps p.tables e below (T.setTop (mkF m pc L S)) t) :
    Here k R Z EL n0 y B ret h0 ws h pc' L' S' ce sl sf := by
  obtain ⟨p, l, e, s, m, args, below, meth, c, start⟩ := k
  obtain ⟨T, vm0, k0, locs, X, e1, hS, hk, hZ, hown, hC, hN, hF, ⟨hx, hb, hl, hr⟩, st⟩ := H
  obtain ⟨T', X', e2, g⟩ := f p l e (s.setVm vm0) m args below meth c T locs ce sl X e1 hZ hown hx hb hl hF.1
  exact ⟨T', vm0, k0, locs, X', e2, hS, hk, hZ, hown, hC, hN, hF, ⟨hx, hb, hL.trans hl, hr⟩, fun t q => st t (g t q)⟩
theorem Here.old (H : Here k R Z EL n0 y B ret h0 ws h pc L S ce sl sf) : Ext Z.heap h := by
  obtain ⟨p, l, e, s, m, args, below, meth, c, start⟩ := k
  obtain ⟨T, vm0, k0, locs, X, e1, hS, hk, hZ, hown, hC, hN, hF, -⟩ := H
  exact hF.2.2.1.2
theorem Here.oldO (H : Here k R Z EL n0 y B ret h0 ws h pc L S ce sl sf) : Old Z n0 h := by
  obtain ⟨p, l, e, s, m, args, below, meth, c, start⟩ := k
  obtain ⟨T, vm0, k0, locs, X, e1, hS, hk, hZ, hown, hC, hN, hF, -⟩ := H
  exact hF.2.2.1
theorem Here.sf_lt (H : Here k R Z EL n0 y B ret h0 ws h pc L S ce sl sf) {x : Addr} (hx : x ∈ sf) : x < h.size ∧ n0 ≤ x := by
  obtain ⟨p, l, e, s, m, args, below, meth, c, start⟩ := k
  obtain ⟨T, vm0, k0, locs, X, e1, hS, hk, hZ, hown, hC, hN, hF, -⟩ := H
  exact ⟨(hF.2.2.2 x hx).2.1, (hF.2.2.2 x hx).2.2.1⟩
theorem Here.kept (H : Here k R Z EL n0 y B ret h0 ws h pc L S ce sl sf) : Keep h0 h ws := by
  obtain ⟨p, l, e, s, m, args, below, meth, c, start⟩ := k
  obtain ⟨T, vm0, k0, locs, X, e1, hS, hk, hZ, hown, hC, hN, hF, -⟩ := H
  exact hF.2.1
/-- fewer promises: more cells and slots booked, a shorter list of what may be written -/
theorem Here.more (H : Here k R Z EL n0 y B ret h0 ws h pc L S ce sl sf) {ce' sl' : Nat} {sf' : List Addr} (hc : ce ≤ ce') (hs : sl ≤ sl') (hf : ∀ x ∈ sf', x ∈ sf) : Here k R Z EL n0 y B ret h0 ws h pc L S ce' sl' sf' := by
  obtain ⟨p, l, e, s, m, args, below, meth, c, start⟩ := k
  obtain ⟨T, vm0, k0, locs, X, e1, hS, hk, hZ, hown, hC, hN, ⟨f1, f2, f3, f4⟩, hr⟩ := H
  exact ⟨T, vm0, k0, locs, X.more hc hs, e1, hS, hk, hZ, hown, hC, hN, ⟨f1, f2, f3, fun x q => f4 x (hf x q)⟩, hr⟩
/-! ### the ends -/
theorem Here.fin (H : Here k R Z EL n0 y B ret h0 ws h pc L S ce sl sf) {v : Option Value} (hv : ret = none → v = none) (hc : ce ≤ R.cells) (hs : sl ≤ R.slots) (hQ : Q v h)
    (f : ∀ (p : Program) (l : Launch) (e : Env) (s : State) (m : MethodId) (args : Array Value) (below : List Frame) (meth : Method) (c : Code) (T : State) (locs : List Loc) (ce sl : Nat) (fs : List Frame), Stand p l e R s m args below meth c T locs ce sl → p.tables.exec = Jvm.exec → c.code = B → meth.sig.returnType = ret →
      (∀ (f : JFrame) (acts : List Action), f.method = m → f.locked = none → f.entered = [] → (doReturn e (T.setTop f) acts v).1 = T.setFrames fs) → Steps p.tables e below (T.setTop (mkF m pc L S)) (T.setFrames fs)) :
    Done k R Z EL n0 h0 ws Q := by
  obtain ⟨p, l, e, s, m, args, below, meth, c, start⟩ := k
  obtain ⟨T, vm0, k0, locs, X, e1, hS, hk, hZ, hown, hC, hN, hF, ⟨hx, hb, hl, hr, hnm, hlk, a0, hE⟩, st⟩ := H
  obtain ⟨fs, g1, g2, g3, gE⟩ := X.leaveW hS (by rw [e1]; exact hk) (v := v) (fun q => hv (hr ▸ q)) hlk
  have hA : CHr Z EL vm0 h T.vm h := CHv.at X hZ hE hC.1
  refine ⟨T.setFrames fs, _, st _ (f p l e _ m args below meth c T locs ce sl fs X hx hb hr g1), g2, g3, v, locs, rfl, ⟨?_, ?_, hN⟩, ?_, ?_⟩
  · show Q v T.heap
    rw [e1]; exact hQ
  · show Keep h0 T.heap ws
    rw [e1]; exact hF.2.1
  · show CHr Z EL s.vm s.heap T.vm T.heap
    rw [e1]; exact hC.trans hA
  · exact ⟨gE.1, gE.2.1, gE.2.2.1, gE.2.2.2.mono hc hs⟩
theorem Here.retI (H : Here k R Z EL n0 y B ret h0 ws h pc L [.int w] ce sl sf) {t : FieldType} (ht : ret = some t) (hn : narrow t (.int w) = .int w) (hti : t = .int ∨ t = .boolean ∨ t = .byte ∨ t = .char ∨ t = .short) (d : decode B pc = .ok (.ireturn, 1)) (hc : ce ≤ R.cells) (hs : sl ≤ R.slots) (hQ : Q (some (.int w)) h) : Done k R Z EL n0 h0 ws Q :=
  H.fin (fun q => by rw [ht] at q; cases q) hc hs hQ fun p l e s m args below meth c T locs ce sl fs X hx hB hr g => X.ireturnOut hx (hr.trans ht) hn hti (Jvm.hb hB d) g
theorem Here.retA (H : Here k R Z EL n0 y B ret h0 ws h pc L [w] ce sl sf) {t : FieldType} (ht : ret = some t) (hi : t.isReference = true) (hw : w.isRef = true) (d : decode B pc = .ok (.areturn, 1)) (hc : ce ≤ R.cells) (hs : sl ≤ R.slots) (hQ : Q (some w) h) : Done k R Z EL n0 h0 ws Q :=
  H.fin (fun q => by rw [ht] at q; cases q) hc hs hQ fun p l e s m args below meth c T locs ce sl fs X hx hB hr g => X.areturnOut hx hw (hr.trans ht) hi (Jvm.hb hB d) g
theorem Here.retV (H : Here k R Z EL n0 y B ret h0 ws h pc L [] ce sl sf) (ht : ret = none) (d : decode B pc = .ok (.return_, 1)) (hc : ce ≤ R.cells) (hs : sl ≤ R.slots) (hQ : Q none h) : Done k R Z EL n0 h0 ws Q :=
  H.fin (fun q => rfl) hc hs hQ fun p l e s m args below meth c T locs ce sl fs X hx hB hr g => X.returnOut hx (hr.trans ht) (Jvm.hb hB d) g
/-! ### the beginning, and a call's payment -/
theorem Met.of_walkP {L0 : Array Slot} (pn : plainFor y = true) (hEL : EW Z a0 EL) (hO : Old Z n0 h) (hws : ∀ x ∈ ws, x < h.size ∧ n0 ≤ x) (ef : ∀ m, entryFrame m as' mx = mkF m 0 L0 []) (hL : L0.size = mx)
    (body : ∀ k : Ctx, Here k rm Z EL n0 y B ret h ws h 0 L0 [] 0 0 ws → Done k rm Z EL n0 h ws Q) : Met Z EL n0 y B mx ret rm as' h ws Q := by
  intro l wds
  refine MetFree.of_bodySF pn hisR ?_
  intro p e s m args below meth c s₁ Bd hml0 hP hK
  obtain ⟨rfl, hZ, hh, hC, hsf⟩ := hP
  have X0 : Stand p l e rm s m args below meth c s₁ [] 0 0 := Stand.of_body Bd
  have e0 : s₁.heap = h := by rw [← hh, Bd.state]; rfl
  have H : Here (p, l, e, s, m, args, below, meth, c, s₁.setTop (entryFrame m args mx)) rm Z EL n0 y B ret h ws h 0 L0 [] 0 0 ws :=
    ⟨s₁, s.vm, 0, [], X0, e0, (State.WarmedH.refl s).since 0, Nat.zero_le _, hZ, findClass_of_methodNamed Bd.named, by rw [hh]; exact CHr.refl hC, Fr.nil n0, ⟨hh, Keep.refl _ _, hO, fun x q => ⟨hsf x q, (hws x q).1, (hws x q).2, Or.inl q⟩⟩,
      ⟨Bd.exec, Bd.bytes, hL.trans hml0.symm, Bd.returns, (name_of_methodNamed Bd.named Bd.method).1, BodyLoose.notSynchronized Bd, a0, hEL⟩, fun t q => castTop (ef m) q⟩
  exact body _ H
theorem Met.of_walk {L0 : Array Slot} (pn : plainName y.cls = true) (hEL : EW Z a0 EL) (hO : Old Z n0 h) (hws : ∀ x ∈ ws, x < h.size ∧ n0 ≤ x) (ef : ∀ m, entryFrame m as' mx = mkF m 0 L0 []) (hL : L0.size = mx)
    (body : ∀ k : Ctx, Here k rm Z EL n0 y B ret h ws h 0 L0 [] 0 0 ws → Done k rm Z EL n0 h ws Q) : Met Z EL n0 y B mx ret rm as' h ws Q := Met.of_walkP (plainFor_of_name pn) hEL hO hws ef hL body
theorem Paid.of_met {W : Nat} (hM : Met Z EL n0 z bytes mx rt rm as' h ws' Q) (wc : (Jvm.Cond.code z bytes mx rt).before a0 Z = true) (wz : (Jvm.Cond.initialized z.cls).before a0 Z = true) (hEL : EW Z a0 EL) (hf : rm.frames + 1 ≤ R.frames) (hl : W + (mx + 11) + rm.locals ≤ R.locals) :
    Paid k R Z EL n0 z W as' h ws' rm.cells rm.slots Q := by
  obtain ⟨p, l, e, s, m, args, below, meth, c, start⟩ := k
  intro vm0 hZ H hsf
  exact BackS.of_freeW (bytes := bytes) (maxL := mx) (ret := rt) (E := fun _ first o t L kk n => kk = rm.cells ∧ n = rm.slots ∧ (∃ v, o = .returned v ∧ Q v t.heap ∧ Keep h t.heap ws' ∧ Fr n0 L) ∧ CHr Z EL first.vm first.heap t.vm t.heap) (hM l []) hf hl
    (fun m meth c A a Y hp => have hU : Z.Warmed39 A.U.vm := wtrans (s := s.setVm vm0) hZ Y.warmed
      ⟨by show (Jvm.Cond.and _ .tt).before a A.U = true; rw [Cond.before_and, mv hU wc]; rfl, mv hU wc, mv hU wz, hp.2.2.1, hp.2.2.2⟩)
    (fun m meth c A a g mk Y hp => ⟨hp.1, wtrans (s := s.setVm vm0) hZ Y.warmed, hp.2.1, (CHv.at Y hZ hEL H).1, fun x q => (CHv.at Y hZ hEL H).safe (hsf x q).2 (hsf x q).1⟩) (fun _ _ _ _ _ _ _ _ _ => trivial)
    (fun _ _ _ _ ⟨v, L, h1, h2, h3, h4⟩ => ⟨L, _, _, h4, rfl, rfl, ⟨v, h1, h2⟩, h3⟩)
    (fun m meth c A a g mk v t L kk n Y hp _ _ ⟨e1, e2, ⟨v', e3, e4⟩, e5⟩ => by
      cases e3; subst e1 e2
      refine ⟨L, e4, rfl, rfl, rfl, (CHv.at Y hZ hEL H).trans ?_⟩
      rw [← hp.2.1]; exact e5)
/-- a callee that interns nothing, by the library's 'Back' -/
theorem Paid.of_back {W kc ks : Nat} {QB : Option Value → Heap → List Loc → Prop} (hEL : EW Z a0 EL)
    (hB : ∀ (p : Program) (l : Launch) (e : Env) (s : State) (args : Array Value) (below : List Frame), Z.Warmed39 s.vm → Back l R p e below s args z 3 W (fun A a => a = as' ∧ A.U.heap = h ∧ A.cells + kc ≤ R.cells ∧ A.slots + ks ≤ R.slots) (fun A _ v D => ∃ L, QB v D.U.heap L ∧ D.locs = A.locs ++ L ∧ D.cells = A.cells + kc ∧ D.slots = A.slots + ks))
    (hq : ∀ v h' L, QB v h' L → Q v h' ∧ Keep h h' ws' ∧ Fr n0 L) : Paid k R Z EL n0 z W as' h ws' kc ks Q := by
  obtain ⟨p, l, e, s, m, args, below, meth, c, start⟩ := k
  intro vm0 hZ H hsf
  intro m' meth' c' A g ig mk a X hg hsize hdg hW hn hp
  obtain ⟨v, D, X', ⟨L, q1, q2, q3, q4⟩, hsteps⟩ := hB p l e (s.setVm vm0) args below hZ m' meth' c' A g ig mk a X hg hsize hdg hW hn hp
  obtain ⟨r1, r2, r3⟩ := hq _ _ _ q1
  have hs : ∀ x ∈ ws', Safe Z EL vm0 h x := fun x q => (hsf x q).1
  have h1 : CHr Z EL vm0 h vm0 D.U.heap := CHr.keep r2 hs H
  have h2 : CHr Z EL vm0 D.U.heap D.U.vm D.U.heap := CHv.at X' hZ hEL h1.1
  exact ⟨v, D, X'.retabled X'.warmed.wide, X'.warmed.since _, by rw [hp.2.1]; exact r2.1, ⟨L, ⟨r1, r2, r3⟩, q2, q3, q4, h1.trans h2⟩, hsteps⟩
end Base
section Steps
variable {k : Ctx} {R : Room} {Z : State} {EL : List (String × Nat)} {n0 : Nat} {y : MethodName} {B : ByteArray} {ret : Option FieldType} {h0 h : Heap} {ws sf : List Addr} {pc : Nat} {L L' : Array Slot} {S : List Value} {ce sl : Nat} {a0 : Array Value}
theorem Here.iloadN {i : Fin 4} {v : Int32} (H : Here k R Z EL n0 y B ret h0 ws h pc L S ce sl sf) (pc' : Nat)  (d : decode B pc = .ok (.iload_n i, 1)) (hl : L[i.val]? = some (.val (.int v))) (hp : pc + 1 = pc' := by rfl) : Here k R Z EL n0 y B ret h0 ws h pc' L (.int v :: S) ce sl sf := by
  subst hp
  exact H.go rfl fun p e below m c T t A hx hB q => XS.iloadN A hx rfl (Jvm.hb hB d) hl q
theorem Here.iload {i : Nat} {v : Int32} (H : Here k R Z EL n0 y B ret h0 ws h pc L S ce sl sf) (pc' : Nat)  (d : decode B pc = .ok (.iload i, 2)) (hl : L[i]? = some (.val (.int v))) (hp : pc + 2 = pc' := by rfl) : Here k R Z EL n0 y B ret h0 ws h pc' L (.int v :: S) ce sl sf := by
  subst hp
  exact H.go rfl fun p e below m c T t A hx hB q => XS.iload A hx rfl (Jvm.hb hB d) hl q
theorem Here.aloadN {i : Fin 4} {v : Value} (H : Here k R Z EL n0 y B ret h0 ws h pc L S ce sl sf) (pc' : Nat)  (d : decode B pc = .ok (.aload_n i, 1)) (hl : L[i.val]? = some (.val v)) (hv : v.isRef = true := by rfl) (hp : pc + 1 = pc' := by rfl) : Here k R Z EL n0 y B ret h0 ws h pc' L (v :: S) ce sl sf := by
  subst hp
  exact H.go rfl fun p e below m c T t A hx hB q => XS.aloadN A hx rfl (Jvm.hb hB d) hl hv q
theorem Here.aload {i : Nat} {v : Value} (H : Here k R Z EL n0 y B ret h0 ws h pc L S ce sl sf) (pc' : Nat)  (d : decode B pc = .ok (.aload i, 2)) (hl : L[i]? = some (.val v)) (hv : v.isRef = true := by rfl) (hp : pc + 2 = pc' := by rfl) : Here k R Z EL n0 y B ret h0 ws h pc' L (v :: S) ce sl sf := by
  subst hp
  exact H.go rfl fun p e below m c T t A hx hB q => XS.aload A hx rfl (Jvm.hb hB d) hl hv q
theorem Here.lloadN {i : Fin 4} {v : Int64} (H : Here k R Z EL n0 y B ret h0 ws h pc L S ce sl sf) (pc' : Nat)  (d : decode B pc = .ok (.lload_n i, 1)) (hl : L[i.val]? = some (.val (.long v))) (hp : pc + 1 = pc' := by rfl) : Here k R Z EL n0 y B ret h0 ws h pc' L (.long v :: S) ce sl sf := by
  subst hp
  exact H.go rfl fun p e below m c T t A hx hB q => XT.lloadN A hx rfl (Jvm.hb hB d) hl q
theorem Here.lload {i : Nat} {v : Int64} (H : Here k R Z EL n0 y B ret h0 ws h pc L S ce sl sf) (pc' : Nat)  (d : decode B pc = .ok (.lload i, 2)) (hl : L[i]? = some (.val (.long v))) (hp : pc + 2 = pc' := by rfl) : Here k R Z EL n0 y B ret h0 ws h pc' L (.long v :: S) ce sl sf := by
  subst hp
  exact H.go rfl fun p e below m c T t A hx hB q => XT.lload A hx rfl (Jvm.hb hB d) hl q
theorem Here.iconst {i : Int} (H : Here k R Z EL n0 y B ret h0 ws h pc L S ce sl sf) (pc' : Nat) (v : Int32) (d : decode B pc = .ok (.iconst i, 1)) (hv : Int32.ofInt i = v := by rfl) (hp : pc + 1 = pc' := by rfl) : Here k R Z EL n0 y B ret h0 ws h pc' L (.int v :: S) ce sl sf := by
  subst hp
  exact H.go rfl fun p e below m c T t A hx hB q => XT.iconstV A hx rfl v (Jvm.hb hB d) hv q
theorem Here.bipush {i : Int} (H : Here k R Z EL n0 y B ret h0 ws h pc L S ce sl sf) (pc' : Nat) (v : Int32) (d : decode B pc = .ok (.bipush i, 2)) (hv : (Int8.ofInt i).toInt32 = v := by rfl) (hp : pc + 2 = pc' := by rfl) : Here k R Z EL n0 y B ret h0 ws h pc' L (.int v :: S) ce sl sf := by
  subst hp
  exact H.go rfl fun p e below m c T t A hx hB q => XT.bipushV A hx rfl v (Jvm.hb hB d) hv q
theorem Here.sipush {i : Int} (H : Here k R Z EL n0 y B ret h0 ws h pc L S ce sl sf) (pc' : Nat) (v : Int32) (d : decode B pc = .ok (.sipush i, 3)) (hv : (Int16.ofInt i).toInt32 = v := by rfl) (hp : pc + 3 = pc' := by rfl) : Here k R Z EL n0 y B ret h0 ws h pc' L (.int v :: S) ce sl sf := by
  subst hp
  exact H.go rfl fun p e below m c T t A hx hB q => XT.sipushV A hx rfl v (Jvm.hb hB d) hv q
theorem Here.lconst {i : Fin 2} (H : Here k R Z EL n0 y B ret h0 ws h pc L S ce sl sf) (pc' : Nat) (v : Int64) (d : decode B pc = .ok (.lconst i, 1)) (hv : Int64.ofNat i = v := by rfl) (hp : pc + 1 = pc' := by rfl) : Here k R Z EL n0 y B ret h0 ws h pc' L (.long v :: S) ce sl sf := by
  subst hp
  exact H.go rfl fun p e below m c T t A hx hB q => XT.lconstV A hx rfl v (Jvm.hb hB d) hv q
theorem Here.anull  (H : Here k R Z EL n0 y B ret h0 ws h pc L S ce sl sf) (pc' : Nat)  (d : decode B pc = .ok (.aconst_null, 1))  (hp : pc + 1 = pc' := by rfl) : Here k R Z EL n0 y B ret h0 ws h pc' L (.null :: S) ce sl sf := by
  subst hp
  exact H.go rfl fun p e below m c T t A hx hB q => XS.aconstNull A hx rfl (Jvm.hb hB d) q
theorem Here.iadd {x z : Int32} (H : Here k R Z EL n0 y B ret h0 ws h pc L (.int z :: .int x :: S) ce sl sf) (pc' : Nat)  (d : decode B pc = .ok (.iadd, 1))  (hp : pc + 1 = pc' := by rfl) : Here k R Z EL n0 y B ret h0 ws h pc' L (.int (x + z) :: S) ce sl sf := by
  subst hp
  exact H.go rfl fun p e below m c T t A hx hB q => XS.iadd A hx rfl (Jvm.hb hB d) rfl q
theorem Here.isub {x z : Int32} (H : Here k R Z EL n0 y B ret h0 ws h pc L (.int z :: .int x :: S) ce sl sf) (pc' : Nat)  (d : decode B pc = .ok (.isub, 1))  (hp : pc + 1 = pc' := by rfl) : Here k R Z EL n0 y B ret h0 ws h pc' L (.int (x - z) :: S) ce sl sf := by
  subst hp
  exact H.go rfl fun p e below m c T t A hx hB q => XS.isub A hx rfl (Jvm.hb hB d) rfl q
theorem Here.imul {x z : Int32} (H : Here k R Z EL n0 y B ret h0 ws h pc L (.int z :: .int x :: S) ce sl sf) (pc' : Nat)  (d : decode B pc = .ok (.imul, 1))  (hp : pc + 1 = pc' := by rfl) : Here k R Z EL n0 y B ret h0 ws h pc' L (.int (x * z) :: S) ce sl sf := by
  subst hp
  exact H.go rfl fun p e below m c T t A hx hB q => XS.imul A hx rfl (Jvm.hb hB d) rfl q
theorem Here.iand {x z : Int32} (H : Here k R Z EL n0 y B ret h0 ws h pc L (.int z :: .int x :: S) ce sl sf) (pc' : Nat)  (d : decode B pc = .ok (.iand, 1))  (hp : pc + 1 = pc' := by rfl) : Here k R Z EL n0 y B ret h0 ws h pc' L (.int (x &&& z) :: S) ce sl sf := by
  subst hp
  exact H.go rfl fun p e below m c T t A hx hB q => XS.iand A hx rfl (Jvm.hb hB d) rfl q
theorem Here.ior {x z : Int32} (H : Here k R Z EL n0 y B ret h0 ws h pc L (.int z :: .int x :: S) ce sl sf) (pc' : Nat)  (d : decode B pc = .ok (.ior, 1))  (hp : pc + 1 = pc' := by rfl) : Here k R Z EL n0 y B ret h0 ws h pc' L (.int (x ||| z) :: S) ce sl sf := by
  subst hp
  exact H.go rfl fun p e below m c T t A hx hB q => XT.ior A hx rfl (Jvm.hb hB d) rfl q
theorem Here.ixor {x z : Int32} (H : Here k R Z EL n0 y B ret h0 ws h pc L (.int z :: .int x :: S) ce sl sf) (pc' : Nat)  (d : decode B pc = .ok (.ixor, 1))  (hp : pc + 1 = pc' := by rfl) : Here k R Z EL n0 y B ret h0 ws h pc' L (.int (x ^^^ z) :: S) ce sl sf := by
  subst hp
  exact H.go rfl fun p e below m c T t A hx hB q => XT.ixor A hx rfl (Jvm.hb hB d) rfl q
theorem Here.ishl {x z : Int32} (H : Here k R Z EL n0 y B ret h0 ws h pc L (.int z :: .int x :: S) ce sl sf) (pc' : Nat)  (d : decode B pc = .ok (.ishl, 1))  (hp : pc + 1 = pc' := by rfl) : Here k R Z EL n0 y B ret h0 ws h pc' L (.int (x <<< (z &&& 31)) :: S) ce sl sf := by
  subst hp
  exact H.go rfl fun p e below m c T t A hx hB q => XT.ishl A hx rfl (Jvm.hb hB d) rfl q
theorem Here.ishr {x z : Int32} (H : Here k R Z EL n0 y B ret h0 ws h pc L (.int z :: .int x :: S) ce sl sf) (pc' : Nat)  (d : decode B pc = .ok (.ishr, 1))  (hp : pc + 1 = pc' := by rfl) : Here k R Z EL n0 y B ret h0 ws h pc' L (.int (x >>> (z &&& 31)) :: S) ce sl sf := by
  subst hp
  exact H.go rfl fun p e below m c T t A hx hB q => XT.ishr A hx rfl (Jvm.hb hB d) rfl q
theorem Here.iushr {x z : Int32} (H : Here k R Z EL n0 y B ret h0 ws h pc L (.int z :: .int x :: S) ce sl sf) (pc' : Nat)  (d : decode B pc = .ok (.iushr, 1))  (hp : pc + 1 = pc' := by rfl) : Here k R Z EL n0 y B ret h0 ws h pc' L (.int ((x.toUInt32 >>> (z &&& 31).toUInt32).toInt32) :: S) ce sl sf := by
  subst hp
  exact H.go rfl fun p e below m c T t A hx hB q => XT.iushr A hx rfl (Jvm.hb hB d) rfl q
theorem Here.idiv {x z : Int32} (H : Here k R Z EL n0 y B ret h0 ws h pc L (.int z :: .int x :: S) ce sl sf) (pc' : Nat)  (d : decode B pc = .ok (.idiv, 1)) (hz : z ≠ 0) (hp : pc + 1 = pc' := by rfl) : Here k R Z EL n0 y B ret h0 ws h pc' L (.int (x / z) :: S) ce sl sf := by
  subst hp
  exact H.go rfl fun p e below m c T t A hx hB q => XS.idiv A hx rfl (Jvm.hb hB d) rfl hz q
theorem Here.irem {x z : Int32} (H : Here k R Z EL n0 y B ret h0 ws h pc L (.int z :: .int x :: S) ce sl sf) (pc' : Nat) (d : decode B pc = .ok (.irem, 1)) (hz : z ≠ 0) (hp : pc + 1 = pc' := by rfl) : Here k R Z EL n0 y B ret h0 ws h pc' L (.int (x % z) :: S) ce sl sf := by
  subst hp
  have e1 : x - x / z * z = x % z := irem_eq_mod x z
  exact H.go rfl fun p e below m c T t A hx hB q => XS.irem A hx rfl (Jvm.hb hB d) rfl hz (by rw [e1]; exact q)
theorem Here.ineg {x : Int32} (H : Here k R Z EL n0 y B ret h0 ws h pc L (.int x :: S) ce sl sf) (pc' : Nat)  (d : decode B pc = .ok (.ineg, 1))  (hp : pc + 1 = pc' := by rfl) : Here k R Z EL n0 y B ret h0 ws h pc' L (.int (-x) :: S) ce sl sf := by
  subst hp
  exact H.go rfl fun p e below m c T t A hx hB q => XS.ineg A hx rfl (Jvm.hb hB d) rfl q
theorem Here.i2c {x : Int32} (H : Here k R Z EL n0 y B ret h0 ws h pc L (.int x :: S) ce sl sf) (pc' : Nat)  (d : decode B pc = .ok (.i2c, 1))  (hp : pc + 1 = pc' := by rfl) : Here k R Z EL n0 y B ret h0 ws h pc' L (.int x.toUInt32.toUInt16.toUInt32.toInt32 :: S) ce sl sf := by
  subst hp
  exact H.go rfl fun p e below m c T t A hx hB q => XT.i2c A hx rfl (Jvm.hb hB d) rfl q
theorem Here.i2b {x : Int32} (H : Here k R Z EL n0 y B ret h0 ws h pc L (.int x :: S) ce sl sf) (pc' : Nat)  (d : decode B pc = .ok (.i2b, 1))  (hp : pc + 1 = pc' := by rfl) : Here k R Z EL n0 y B ret h0 ws h pc' L (.int x.toInt8.toInt32 :: S) ce sl sf := by
  subst hp
  exact H.go rfl fun p e below m c T t A hx hB q => XT.i2b A hx rfl (Jvm.hb hB d) rfl q
theorem Here.i2l {x : Int32} (H : Here k R Z EL n0 y B ret h0 ws h pc L (.int x :: S) ce sl sf) (pc' : Nat)  (d : decode B pc = .ok (.i2l, 1))  (hp : pc + 1 = pc' := by rfl) : Here k R Z EL n0 y B ret h0 ws h pc' L (.long x.toInt64 :: S) ce sl sf := by
  subst hp
  exact H.go rfl fun p e below m c T t A hx hB q => XT.i2l A hx rfl (Jvm.hb hB d) rfl q
theorem Here.l2i {x : Int64} (H : Here k R Z EL n0 y B ret h0 ws h pc L (.long x :: S) ce sl sf) (pc' : Nat)  (d : decode B pc = .ok (.l2i, 1))  (hp : pc + 1 = pc' := by rfl) : Here k R Z EL n0 y B ret h0 ws h pc' L (.int x.toInt32 :: S) ce sl sf := by
  subst hp
  exact H.go rfl fun p e below m c T t A hx hB q => XT.l2i A hx rfl (Jvm.hb hB d) rfl q
theorem Here.ladd {x z : Int64} (H : Here k R Z EL n0 y B ret h0 ws h pc L (.long z :: .long x :: S) ce sl sf) (pc' : Nat)  (d : decode B pc = .ok (.ladd, 1))  (hp : pc + 1 = pc' := by rfl) : Here k R Z EL n0 y B ret h0 ws h pc' L (.long (x + z) :: S) ce sl sf := by
  subst hp
  exact H.go rfl fun p e below m c T t A hx hB q => XT.ladd A hx rfl (Jvm.hb hB d) rfl q
theorem Here.lsub {x z : Int64} (H : Here k R Z EL n0 y B ret h0 ws h pc L (.long z :: .long x :: S) ce sl sf) (pc' : Nat)  (d : decode B pc = .ok (.lsub, 1))  (hp : pc + 1 = pc' := by rfl) : Here k R Z EL n0 y B ret h0 ws h pc' L (.long (x - z) :: S) ce sl sf := by
  subst hp
  exact H.go rfl fun p e below m c T t A hx hB q => XT.lsub A hx rfl (Jvm.hb hB d) rfl q
theorem Here.lmul {x z : Int64} (H : Here k R Z EL n0 y B ret h0 ws h pc L (.long z :: .long x :: S) ce sl sf) (pc' : Nat)  (d : decode B pc = .ok (.lmul, 1))  (hp : pc + 1 = pc' := by rfl) : Here k R Z EL n0 y B ret h0 ws h pc' L (.long (x * z) :: S) ce sl sf := by
  subst hp
  exact H.go rfl fun p e below m c T t A hx hB q => XT.lmul A hx rfl (Jvm.hb hB d) rfl q
theorem Here.land {x z : Int64} (H : Here k R Z EL n0 y B ret h0 ws h pc L (.long z :: .long x :: S) ce sl sf) (pc' : Nat)  (d : decode B pc = .ok (.land, 1))  (hp : pc + 1 = pc' := by rfl) : Here k R Z EL n0 y B ret h0 ws h pc' L (.long (x &&& z) :: S) ce sl sf := by
  subst hp
  exact H.go rfl fun p e below m c T t A hx hB q => XT.land A hx rfl (Jvm.hb hB d) rfl q
theorem Here.lor {x z : Int64} (H : Here k R Z EL n0 y B ret h0 ws h pc L (.long z :: .long x :: S) ce sl sf) (pc' : Nat)  (d : decode B pc = .ok (.lor, 1))  (hp : pc + 1 = pc' := by rfl) : Here k R Z EL n0 y B ret h0 ws h pc' L (.long (x ||| z) :: S) ce sl sf := by
  subst hp
  exact H.go rfl fun p e below m c T t A hx hB q => XT.lor A hx rfl (Jvm.hb hB d) rfl q
theorem Here.lushr {x : Int64} {z : Int32} (H : Here k R Z EL n0 y B ret h0 ws h pc L (.int z :: .long x :: S) ce sl sf) (pc' : Nat)  (d : decode B pc = .ok (.lushr, 1))  (hp : pc + 1 = pc' := by rfl) : Here k R Z EL n0 y B ret h0 ws h pc' L (.long (XT.ushrL x z) :: S) ce sl sf := by
  subst hp
  exact H.go rfl fun p e below m c T t A hx hB q => XT.lushr A hx rfl (Jvm.hb hB d) rfl q
theorem Here.ldiv {x z : Int64} (H : Here k R Z EL n0 y B ret h0 ws h pc L (.long z :: .long x :: S) ce sl sf) (pc' : Nat)  (d : decode B pc = .ok (.ldiv, 1)) (hz : z ≠ 0) (hp : pc + 1 = pc' := by rfl) : Here k R Z EL n0 y B ret h0 ws h pc' L (.long (x / z) :: S) ce sl sf := by
  subst hp
  exact H.go rfl fun p e below m c T t A hx hB q => XT.ldiv A hx rfl (Jvm.hb hB d) rfl hz q
theorem Here.lneg {x : Int64} (H : Here k R Z EL n0 y B ret h0 ws h pc L (.long x :: S) ce sl sf) (pc' : Nat)  (d : decode B pc = .ok (.lneg, 1))  (hp : pc + 1 = pc' := by rfl) : Here k R Z EL n0 y B ret h0 ws h pc' L (.long (-x) :: S) ce sl sf := by
  subst hp
  exact H.go rfl fun p e below m c T t A hx hB q => XT.lneg A hx rfl (Jvm.hb hB d) rfl q
theorem Here.lcmp {x z : Int64} (H : Here k R Z EL n0 y B ret h0 ws h pc L (.long z :: .long x :: S) ce sl sf) (pc' : Nat)  (d : decode B pc = .ok (.lcmp, 1))  (hp : pc + 1 = pc' := by rfl) : Here k R Z EL n0 y B ret h0 ws h pc' L (.int (XT.cmpL x z) :: S) ce sl sf := by
  subst hp
  exact H.go rfl fun p e below m c T t A hx hB q => XT.lcmp A hx rfl (Jvm.hb hB d) rfl q
theorem Here.dup {v : Value} (H : Here k R Z EL n0 y B ret h0 ws h pc L (v :: S) ce sl sf) (pc' : Nat)  (d : decode B pc = .ok (.dup, 1)) (hc : v.category = 1 := by rfl) (hp : pc + 1 = pc' := by rfl) : Here k R Z EL n0 y B ret h0 ws h pc' L (v :: v :: S) ce sl sf := by
  subst hp
  exact H.go rfl fun p e below m c T t A hx hB q => XS.dup A hx rfl (Jvm.hb hB d) rfl hc q
theorem Here.pop {v : Value} (H : Here k R Z EL n0 y B ret h0 ws h pc L (v :: S) ce sl sf) (pc' : Nat)  (d : decode B pc = .ok (.pop, 1)) (hc : v.category = 1 := by rfl) (hp : pc + 1 = pc' := by rfl) : Here k R Z EL n0 y B ret h0 ws h pc' L S ce sl sf := by
  subst hp
  exact H.go rfl fun p e below m c T t A hx hB q => XT.pop A hx rfl (Jvm.hb hB d) rfl hc q
theorem Here.istoreN {i : Fin 4} {x : Int32} (H : Here k R Z EL n0 y B ret h0 ws h pc L (.int x :: S) ce sl sf) (pc' : Nat)  (d : decode B pc = .ok (.istore_n i, 1)) (hl : storeLocals L i.val (.int x) = some L') (hz : L'.size = L.size := by rfl) (hp : pc + 1 = pc' := by rfl) : Here k R Z EL n0 y B ret h0 ws h pc' L' S ce sl sf := by
  subst hp
  exact H.go hz fun p e below m c T t A hx hB q => XS.istoreN A hx rfl (Jvm.hb hB d) rfl hl q
theorem Here.istore {i : Nat} {x : Int32} (H : Here k R Z EL n0 y B ret h0 ws h pc L (.int x :: S) ce sl sf) (pc' : Nat)  (d : decode B pc = .ok (.istore i, 2)) (hl : storeLocals L i (.int x) = some L') (hz : L'.size = L.size := by rfl) (hp : pc + 2 = pc' := by rfl) : Here k R Z EL n0 y B ret h0 ws h pc' L' S ce sl sf := by
  subst hp
  exact H.go hz fun p e below m c T t A hx hB q => XS.istore A hx rfl (Jvm.hb hB d) rfl hl q
theorem Here.astoreN {i : Fin 4} {x : Value} (H : Here k R Z EL n0 y B ret h0 ws h pc L (x :: S) ce sl sf) (pc' : Nat)  (d : decode B pc = .ok (.astore_n i, 1)) (hl : storeLocals L i.val x = some L') (hv : x.isRef = true := by rfl) (hz : L'.size = L.size := by rfl) (hp : pc + 1 = pc' := by rfl) : Here k R Z EL n0 y B ret h0 ws h pc' L' S ce sl sf := by
  subst hp
  exact H.go hz fun p e below m c T t A hx hB q => XS.astoreN A hx rfl (Jvm.hb hB d) rfl hv hl q
theorem Here.astore {i : Nat} {x : Value} (H : Here k R Z EL n0 y B ret h0 ws h pc L (x :: S) ce sl sf) (pc' : Nat)  (d : decode B pc = .ok (.astore i, 2)) (hl : storeLocals L i x = some L') (hv : x.isRef = true := by rfl) (hz : L'.size = L.size := by rfl) (hp : pc + 2 = pc' := by rfl) : Here k R Z EL n0 y B ret h0 ws h pc' L' S ce sl sf := by
  subst hp
  exact H.go hz fun p e below m c T t A hx hB q => XS.astore A hx rfl (Jvm.hb hB d) rfl hv hl q
theorem Here.lstoreN {i : Fin 4} {x : Int64} (H : Here k R Z EL n0 y B ret h0 ws h pc L (.long x :: S) ce sl sf) (pc' : Nat)  (d : decode B pc = .ok (.lstore_n i, 1)) (hl : storeLocals L i.val (.long x) = some L') (hz : L'.size = L.size := by rfl) (hp : pc + 1 = pc' := by rfl) : Here k R Z EL n0 y B ret h0 ws h pc' L' S ce sl sf := by
  subst hp
  exact H.go hz fun p e below m c T t A hx hB q => XT.lstoreN A hx rfl (Jvm.hb hB d) rfl hl q
theorem Here.lstore {i : Nat} {x : Int64} (H : Here k R Z EL n0 y B ret h0 ws h pc L (.long x :: S) ce sl sf) (pc' : Nat)  (d : decode B pc = .ok (.lstore i, 2)) (hl : storeLocals L i (.long x) = some L') (hz : L'.size = L.size := by rfl) (hp : pc + 2 = pc' := by rfl) : Here k R Z EL n0 y B ret h0 ws h pc' L' S ce sl sf := by
  subst hp
  exact H.go hz fun p e below m c T t A hx hB q => XT.lstore A hx rfl (Jvm.hb hB d) rfl hl q
theorem Here.iinc {i : Nat} {cst : Int} {x : Int32} (H : Here k R Z EL n0 y B ret h0 ws h pc L S ce sl sf) (pc' : Nat) (v : Int32) (d : decode B pc = .ok (.iinc i cst, 3)) (hl : L[i]? = some (.val (.int x))) (hl' : storeLocals L i (.int (x + v)) = some L') (hv : Int32.ofInt cst = v := by rfl) (hz : L'.size = L.size := by rfl) (hp : pc + 3 = pc' := by rfl) : Here k R Z EL n0 y B ret h0 ws h pc' L' S ce sl sf := by
  subst hp
  exact H.go hz fun p e below m c T t A hx hB q => XT.iincV A hx rfl v (Jvm.hb hB d) hv hl hl' q
theorem Here.goto  (H : Here k R Z EL n0 y B ret h0 ws h pc L S ce sl sf) (pc' : Nat)  {o : Int} (d : decode B pc = .ok (.goto o, 3))  (ho : 0 ≤ (pc : Int) + o := by decide) (hp : ((pc : Int) + o).toNat = pc' := by rfl) : Here k R Z EL n0 y B ret h0 ws h pc' L S ce sl sf :=
  H.go rfl fun p e below m c T t A hx hB q => XS.goto A hx rfl rfl (Jvm.hb hB d) ho hp q
theorem Here.ifYes {cd : ClassFile.Cond} {x : Int32} (H : Here k R Z EL n0 y B ret h0 ws h pc L (.int x :: S) ce sl sf) (pc' : Nat)  {o : Int} (d : decode B pc = .ok (.ifCond cd o, 3)) (hc : ifCond.holds cd x = true) (ho : 0 ≤ (pc : Int) + o := by decide) (hp : ((pc : Int) + o).toNat = pc' := by rfl) : Here k R Z EL n0 y B ret h0 ws h pc' L S ce sl sf :=
  H.go rfl fun p e below m c T t A hx hB q => XS.ifYes A hx rfl rfl (Jvm.hb hB d) rfl hc ho hp q
theorem Here.ifNo {cd : ClassFile.Cond} {o : Int} {x : Int32} (H : Here k R Z EL n0 y B ret h0 ws h pc L (.int x :: S) ce sl sf) (pc' : Nat)  (d : decode B pc = .ok (.ifCond cd o, 3)) (hc : ifCond.holds cd x = false) (hp : pc + 3 = pc' := by rfl) : Here k R Z EL n0 y B ret h0 ws h pc' L S ce sl sf := by
  subst hp
  exact H.go rfl fun p e below m c T t A hx hB q => XS.ifNo A hx rfl (Jvm.hb hB d) rfl hc q
theorem Here.icmpYes {cd : ClassFile.Cond} {x z : Int32} (H : Here k R Z EL n0 y B ret h0 ws h pc L (.int z :: .int x :: S) ce sl sf) (pc' : Nat)  {o : Int} (d : decode B pc = .ok (.if_icmp cd o, 3)) (hc : if_icmp.holds cd x z = true) (ho : 0 ≤ (pc : Int) + o := by decide) (hp : ((pc : Int) + o).toNat = pc' := by rfl) : Here k R Z EL n0 y B ret h0 ws h pc' L S ce sl sf :=
  H.go rfl fun p e below m c T t A hx hB q => XS.icmpYes A hx rfl rfl (Jvm.hb hB d) rfl hc ho hp q
theorem Here.icmpNo {cd : ClassFile.Cond} {o : Int} {x z : Int32} (H : Here k R Z EL n0 y B ret h0 ws h pc L (.int z :: .int x :: S) ce sl sf) (pc' : Nat)  (d : decode B pc = .ok (.if_icmp cd o, 3)) (hc : if_icmp.holds cd x z = false) (hp : pc + 3 = pc' := by rfl) : Here k R Z EL n0 y B ret h0 ws h pc' L S ce sl sf := by
  subst hp
  exact H.go rfl fun p e below m c T t A hx hB q => XS.icmpNo A hx rfl (Jvm.hb hB d) rfl hc q
theorem Here.nullYes  (H : Here k R Z EL n0 y B ret h0 ws h pc L (.null :: S) ce sl sf) (pc' : Nat)  {o : Int} (d : decode B pc = .ok (.ifnull o, 3))  (ho : 0 ≤ (pc : Int) + o := by decide) (hp : ((pc : Int) + o).toNat = pc' := by rfl) : Here k R Z EL n0 y B ret h0 ws h pc' L S ce sl sf :=
  H.go rfl fun p e below m c T t A hx hB q => XS.ifnullYes A hx rfl rfl (Jvm.hb hB d) rfl ho hp q
theorem Here.nullNo {o : Int} {b : Addr} (H : Here k R Z EL n0 y B ret h0 ws h pc L (.ref b :: S) ce sl sf) (pc' : Nat)  (d : decode B pc = .ok (.ifnull o, 3))  (hp : pc + 3 = pc' := by rfl) : Here k R Z EL n0 y B ret h0 ws h pc' L S ce sl sf := by
  subst hp
  exact H.go rfl fun p e below m c T t A hx hB q => XS.ifnullNo A hx rfl (Jvm.hb hB d) rfl q
theorem Here.nonnullYes {b : Addr} (H : Here k R Z EL n0 y B ret h0 ws h pc L (.ref b :: S) ce sl sf) (pc' : Nat)  {o : Int} (d : decode B pc = .ok (.ifnonnull o, 3))  (ho : 0 ≤ (pc : Int) + o := by decide) (hp : ((pc : Int) + o).toNat = pc' := by rfl) : Here k R Z EL n0 y B ret h0 ws h pc' L S ce sl sf :=
  H.go rfl fun p e below m c T t A hx hB q => XT.ifnonnullYes A hx rfl rfl (Jvm.hb hB d) rfl ho hp q
theorem Here.nonnullNo {o : Int} (H : Here k R Z EL n0 y B ret h0 ws h pc L (.null :: S) ce sl sf) (pc' : Nat)  (d : decode B pc = .ok (.ifnonnull o, 3))  (hp : pc + 3 = pc' := by rfl) : Here k R Z EL n0 y B ret h0 ws h pc' L S ce sl sf := by
  subst hp
  exact H.go rfl fun p e below m c T t A hx hB q => XT.ifnonnullNo A hx rfl (Jvm.hb hB d) rfl q
theorem Here.acmpYes {cd : ClassFile.ACond} {u v : Value} (H : Here k R Z EL n0 y B ret h0 ws h pc L (v :: u :: S) ce sl sf) (pc' : Nat)  {o : Int} (d : decode B pc = .ok (.if_acmp cd o, 3)) (hc : XT.acmp cd u v = true) (hu : u.isRef = true := by rfl) (hv : v.isRef = true := by rfl) (ho : 0 ≤ (pc : Int) + o := by decide) (hp : ((pc : Int) + o).toNat = pc' := by rfl) : Here k R Z EL n0 y B ret h0 ws h pc' L S ce sl sf :=
  H.go rfl fun p e below m c T t A hx hB q => XT.acmpYes A hx rfl rfl (Jvm.hb hB d) rfl hu hv hc ho hp q
theorem Here.acmpNo {cd : ClassFile.ACond} {o : Int} {u v : Value} (H : Here k R Z EL n0 y B ret h0 ws h pc L (v :: u :: S) ce sl sf) (pc' : Nat)  (d : decode B pc = .ok (.if_acmp cd o, 3)) (hc : XT.acmp cd u v = false) (hu : u.isRef = true := by rfl) (hv : v.isRef = true := by rfl) (hp : pc + 3 = pc' := by rfl) : Here k R Z EL n0 y B ret h0 ws h pc' L S ce sl sf := by
  subst hp
  exact H.go rfl fun p e below m c T t A hx hB q => XT.acmpNo A hx rfl (Jvm.hb hB d) rfl hu hv hc q
end Steps
section HeapSteps
variable {k : Ctx} {R : Room} {Z : State} {EL : List (String × Nat)} {n0 : Nat} {y : MethodName} {B : ByteArray} {ret : Option FieldType} {h0 h : Heap} {ws sf : List Addr} {pc : Nat} {L : Array Slot} {S : List Value} {ce sl : Nat} {a0 : Array Value}
theorem Here.getF (H : Here k R Z EL n0 y B ret h0 ws h pc L (.ref a :: S) ce sl sf) (pc' : Nat) {index : Nat} {O n d : String} {v : Value} (w : (Jvm.Cond.fieldLink y.cls index O n d).before a0 Z = true) (F : Fld Z h a O n d v) (dd : decode B pc = .ok (.getfield index, 3)) (hp : pc + 3 = pc' := by rfl) : Here k R Z EL n0 y B ret h0 ws h pc' L (v :: S) ce sl sf := by
  subst hp
  exact H.goT rfl fun p l e s m args below meth c T locs ce sl X e1 hZ hown hx hB hl hs => RoadKit.getF X hx hZ hown (host := "") (Or.inl w) Via.refl e1 F (g := mkF m pc L (.ref a :: S)) rfl rfl (Jvm.hb hB dd)
theorem Here.getS (H : Here k R Z EL n0 y B ret h0 ws h pc L S ce sl sf) (pc' : Nat) {index : Nat} {O n d : String} {v : Value} (w : (Jvm.Cond.fieldLink y.cls index O n d).before a0 Z = true) (F : Sta Z h O n d v) (dd : decode B pc = .ok (.getstatic index, 3)) (hp : pc + 3 = pc' := by rfl) : Here k R Z EL n0 y B ret h0 ws h pc' L (v :: S) ce sl sf := by
  subst hp
  exact H.goT rfl fun p l e s m args below meth c T locs ce sl X e1 hZ hown hx hB hl hs => RoadKit.getS X hx hZ (host := "") hown w Via.refl e1 F (g := mkF m pc L S) rfl (Jvm.hb hB dd)
theorem Here.castY (H : Here k R Z EL n0 y B ret h0 ws h pc L (.ref a :: S) ce sl sf) (pc' : Nat) {index : Nat} {K : String} (w : (Jvm.Cond.classLink y.cls index K).before a0 Z = true) (F : Ins Z h a K true) (dd : decode B pc = .ok (.checkcast index, 3)) (hp : pc + 3 = pc' := by rfl) : Here k R Z EL n0 y B ret h0 ws h pc' L (.ref a :: S) ce sl sf := by
  subst hp
  exact H.goT rfl fun p l e s m args below meth c T locs ce sl X e1 hZ hown hx hB hl hs => RoadKit.castY X hx hZ hown w e1 F (g := mkF m pc L (.ref a :: S)) rfl rfl (Jvm.hb hB dd)
theorem Here.instY (H : Here k R Z EL n0 y B ret h0 ws h pc L (.ref a :: S) ce sl sf) (pc' : Nat) {index : Nat} {K : String} (w : (Jvm.Cond.classLink y.cls index K).before a0 Z = true) (F : Ins Z h a K true) (dd : decode B pc = .ok (.instanceof index, 3)) (hp : pc + 3 = pc' := by rfl) : Here k R Z EL n0 y B ret h0 ws h pc' L (.int 1 :: S) ce sl sf := by
  subst hp
  exact H.goT rfl fun p l e s m args below meth c T locs ce sl X e1 hZ hown hx hB hl hs => RoadKit.instY X hx hZ hown w e1 F (g := mkF m pc L (.ref a :: S)) rfl rfl (Jvm.hb hB dd)
theorem Here.instN (H : Here k R Z EL n0 y B ret h0 ws h pc L (.ref a :: S) ce sl sf) (pc' : Nat) {index : Nat} {K C : String} (w : (Jvm.Cond.classLink y.cls index K).before a0 Z = true) (F : Ins Z h0 a K false) (E : Exa Z h0 a C) (dd : decode B pc = .ok (.instanceof index, 3)) (hp : pc + 3 = pc' := by rfl) : Here k R Z EL n0 y B ret h0 ws h pc' L (.int 0 :: S) ce sl sf := by
  subst hp
  exact H.goT rfl fun p l e s m args below meth c T locs ce sl X e1 hZ hown hx hB hl hs => by subst hs; exact RoadKit.instN X hx hZ hown w e1 F E (g := mkF m pc L (.ref a :: S)) rfl rfl (Jvm.hb hB dd)
theorem Here.ldcI (H : Here k R Z EL n0 y B ret h0 ws h pc L S ce sl sf) (pc' : Nat) {index : Nat} {v : Int32} (w : (Jvm.Cond.constant y.cls index v).before a0 Z = true) (dd : decode B pc = .ok (.ldc index, 2)) (hp : pc + 2 = pc' := by rfl) : Here k R Z EL n0 y B ret h0 ws h pc' L (.int v :: S) ce sl sf := by
  subst hp
  exact H.goT rfl fun p l e s m args below meth c T locs ce sl X e1 hZ hown hx hB hl hs => ⟨T, X, e1, fun t q => X.ldcI hx hown (mvT hZ w) (g := mkF m pc L S) rfl (Jvm.hb hB dd) q⟩
theorem Here.ldc2J (H : Here k R Z EL n0 y B ret h0 ws h pc L S ce sl sf) (pc' : Nat) {index : Nat} {v : Int64} (w : (Jvm.Cond.constantLong y.cls index v).before a0 Z = true) (dd : decode B pc = .ok (.ldc2_w index, 3)) (hp : pc + 3 = pc' := by rfl) : Here k R Z EL n0 y B ret h0 ws h pc' L (.long v :: S) ce sl sf := by
  subst hp
  exact H.goT rfl fun p l e s m args below meth c T locs ce sl X e1 hZ hown hx hB hl hs => ⟨T, X, e1, fun t q => X.ldc2J hx hown (mvT hZ w) (g := mkF m pc L S) rfl (Jvm.hb hB dd) q⟩
theorem Here.alen (H : Here k R Z EL n0 y B ret h0 ws h pc L (.ref a :: S) ce sl sf) (pc' : Nat) {kc : ClassId} {ty : FieldType} {z : Int32} {vs : List Value} {dv : Value} (V : Arv Z h a kc ty z vs dv) (dd : decode B pc = .ok (.arraylength, 1)) (hp : pc + 1 = pc' := by rfl) : Here k R Z EL n0 y B ret h0 ws h pc' L (.int z :: S) ce sl sf := by
  subst hp
  obtain ⟨cl, A, -, hsz, hz, -⟩ := V
  exact H.goT rfl fun p l e s m args below meth c T locs ce sl X e1 hZ hown hx hB hl hs => ⟨T, X, e1, fun t q => X.arraylength hx (by rw [e1]; exact A.1) (State.isArrayOf_alike hZ.alike A.2.1) (g := mkF m pc L (.ref a :: S)) rfl rfl (Jvm.hb hB dd) t (by rw [len_of hsz hz]; exact q)⟩
theorem Here.alenA (H : Here k R Z EL n0 y B ret h0 ws h pc L (.ref a :: S) ce sl sf) (pc' : Nat) {cl : Cell} {ty : FieldType} {z : Int32} (A : Arr Z h a cl ty) (hsz : cl.slots.size = z.toNatClampNeg) (hz : ¬ z < 0) (dd : decode B pc = .ok (.arraylength, 1)) (hp : pc + 1 = pc' := by rfl) : Here k R Z EL n0 y B ret h0 ws h pc' L (.int z :: S) ce sl sf := by
  subst hp
  exact H.goT rfl fun p l e s m args below meth c T locs ce sl X e1 hZ hown hx hB hl hs => ⟨T, X, e1, fun t q => X.arraylength hx (by rw [e1]; exact A.1) (State.isArrayOf_alike hZ.alike A.2.1) (g := mkF m pc L (.ref a :: S)) rfl rfl (Jvm.hb hB dd) t (by rw [len_of hsz hz]; exact q)⟩
theorem Here.caload (H : Here k R Z EL n0 y B ret h0 ws h pc L (.int j :: .ref a :: S) ce sl sf) (pc' : Nat) {kc : ClassId} {z : Int32} {vs : List Value} {dv v : Value} (V : Arv Z h a kc .char z vs dv) (hj : ¬ j < 0 ∧ j < z) (hv : vs.getD j.toNatClampNeg dv = v) (dd : decode B pc = .ok (.caload, 1)) (hp : pc + 1 = pc' := by rfl) : Here k R Z EL n0 y B ret h0 ws h pc' L (v :: S) ce sl sf := by
  subst hp
  obtain ⟨cl, A, -, hsz, hz, hh, -⟩ := V
  exact H.goT rfl fun p l e s m args below meth c T locs ce sl X e1 hZ hown hx hB hl hs => ⟨T, X, e1, fun t q => X.caload hx (by rw [e1]; exact A.1) (State.isArrayOf_alike hZ.alike A.2.1) A.2.2 (inb_of hsz hj) (hh.at (inb_of hsz hj) hv) (g := mkF m pc L (.int j :: .ref a :: S)) rfl rfl (Jvm.hb hB dd) t q⟩
theorem Here.baload (H : Here k R Z EL n0 y B ret h0 ws h pc L (.int j :: .ref a :: S) ce sl sf) (pc' : Nat) {kc : ClassId} {z : Int32} {vs : List Value} {dv v : Value} (V : Arv Z h a kc .byte z vs dv) (hj : ¬ j < 0 ∧ j < z) (hv : vs.getD j.toNatClampNeg dv = v) (dd : decode B pc = .ok (.baload, 1)) (hp : pc + 1 = pc' := by rfl) : Here k R Z EL n0 y B ret h0 ws h pc' L (v :: S) ce sl sf := by
  subst hp
  obtain ⟨cl, A, -, hsz, hz, hh, -⟩ := V
  exact H.goT rfl fun p l e s m args below meth c T locs ce sl X e1 hZ hown hx hB hl hs => ⟨T, X, e1, fun t q => X.baloadBytes hx (by rw [e1]; exact A.1) (State.isArrayOf_alike hZ.alike A.2.1) A.2.2 (inb_of hsz hj) (hh.at (inb_of hsz hj) hv) (g := mkF m pc L (.int j :: .ref a :: S)) rfl rfl (Jvm.hb hB dd) t q⟩
theorem Here.aaload (H : Here k R Z EL n0 y B ret h0 ws h pc L (.int j :: .ref a :: S) ce sl sf) (pc' : Nat) {kc : ClassId} {ty : FieldType} {z : Int32} {vs : List Value} {dv v : Value} (V : Arv Z h a kc ty z vs dv) (hty : ty.isReference = true) (hj : ¬ j < 0 ∧ j < z) (hv : vs.getD j.toNatClampNeg dv = v) (dd : decode B pc = .ok (.aaload, 1)) (hp : pc + 1 = pc' := by rfl) : Here k R Z EL n0 y B ret h0 ws h pc' L (v :: S) ce sl sf := by
  subst hp
  obtain ⟨cl, A, -, hsz, hz, hh, -⟩ := V
  exact H.goT rfl fun p l e s m args below meth c T locs ce sl X e1 hZ hown hx hB hl hs => ⟨T, X, e1, fun t q => X.aaload hx (by rw [e1]; exact A.1) (State.isArrayOf_alike hZ.alike A.2.1) hty A.2.2 (inb_of hsz hj) (hh.at (inb_of hsz hj) hv) (g := mkF m pc L (.int j :: .ref a :: S)) rfl rfl (Jvm.hb hB dd) t q⟩
theorem Here.aaloadA (H : Here k R Z EL n0 y B ret h0 ws h pc L (.int j :: .ref a :: S) ce sl sf) (pc' : Nat) {cl : Cell} {ty : FieldType} {v : Value} (A : Arr Z h a cl ty) (hty : ty.isReference = true) (hin : ¬ (j < 0 ∨ cl.slots.size ≤ j.toNatClampNeg)) (hv : cl.slots[j.toNatClampNeg]? = some v) (dd : decode B pc = .ok (.aaload, 1)) (hp : pc + 1 = pc' := by rfl) : Here k R Z EL n0 y B ret h0 ws h pc' L (v :: S) ce sl sf := by
  subst hp
  exact H.goT rfl fun p l e s m args below meth c T locs ce sl X e1 hZ hown hx hB hl hs => ⟨T, X, e1, fun t q => X.aaload hx (by rw [e1]; exact A.1) (State.isArrayOf_alike hZ.alike A.2.1) hty A.2.2 hin hv (g := mkF m pc L (.int j :: .ref a :: S)) rfl rfl (Jvm.hb hB dd) t q⟩
theorem Here.initO (H : Here k R Z EL n0 y B ret h0 ws h pc L (.ref a :: S) ce sl sf) (pc' : Nat) {index : Nat} (w1 : (Jvm.Cond.methodLink y.cls index Lib.objectInit).before a0 Z = true) (w2 : (Jvm.Cond.instanceMethod Lib.objectInit).before a0 Z = true) (w3 : (Jvm.Cond.code Lib.objectInit ⟨#[0xb1]⟩ 1 none).before a0 Z = true) (dd : decode B pc = .ok (.invokespecial index, 3)) (hf : 1 ≤ R.frames) {W : Nat} (hW : (S.map fun v => v.category).sum ≤ W) (hl : W + 12 ≤ R.locals) (hp : pc + 3 = pc' := by rfl) : Here k R Z EL n0 y B ret h0 ws h pc' L S ce sl sf := by
  subst hp
  exact H.goT rfl fun p l e s m args below meth c T locs ce sl X e1 hZ hown hx hB hl' hs => RoadKit.initO X hx hZ hown w1 w2 w3 e1 (g := mkF m pc L (.ref a :: S)) rfl hl' rfl (Jvm.hb hB dd) hf (W := W) (by show 2 * 0 + (S.map fun v => v.category).sum ≤ W; omega) hl
theorem Here.newO (H : Here k R Z EL n0 y B ret h0 ws h pc L S ce sl sf) (pc' : Nat) {index n : Nat} {C : String} (w : (Jvm.Cond.classLink y.cls index C).before a0 Z = true) (wi : (Jvm.Cond.instantiable C n).before a0 Z = true) (wz : (Jvm.Cond.initialized C).before a0 Z = true) (dd : decode B pc = .ok (.new index, 3)) (hc : ce + 1 ≤ R.cells) (hl : sl + n ≤ R.slots) (hp : pc + 3 = pc' := by rfl) :
    ∃ (b : Addr) (h' : Heap), b = h.size ∧ Ext h h' ∧ Exa Z h' b C ∧ (∀ {O nm d : String} {ty : FieldType}, Laid Z a0 C O nm d → parseFieldDescriptor d = some ty → Fld Z h' b O nm d (defaultValue ty)) ∧ Here k R Z EL n0 y B ret h0 ws h' pc' L (.ref b :: S) (ce + 1) (sl + n) (b :: sf) := by
  subst hp
  obtain ⟨p, l, e, s, m, args, below, meth, c, start⟩ := k
  obtain ⟨T, vm0, k0, locs, X, e1, hS, hk, hZ, hown, hC, hN, hF, ⟨hx, hB, hr⟩, st⟩ := H
  obtain ⟨T', h', X', e2, E, A, D, -, st'⟩ := RoadKit.newO X hx (s := s.setVm vm0) hZ hown w wi wz e1 (g := mkF m pc L S) rfl (Jvm.hb hB dd) hc hl
  obtain ⟨u1, u2, u3⟩ := updN hC hk hF E A.lt
  exact ⟨h.size, h', rfl, E, A, D, T', vm0, k0, locs, X', e2, hS, u2, hZ, hown, u1, hN, u3, ⟨hx, hB, hr⟩, fun t q => st t (st' t q)⟩
theorem Here.newP (H : Here k R Z EL n0 y B ret h0 ws h pc L (.int n :: S) ce sl sf) (pc' : Nat) {aty : ArrayType} {ty : FieldType} (hty : newarray.typeOf aty = ty) (w : (Jvm.Cond.arrayClass ty).before a0 Z = true) (dd : decode B pc = .ok (.newarray aty, 2)) (hn : ¬ n < 0) {cap : Nat} (hcap : n.toNatClampNeg ≤ cap) (hb : cap * 8 ≤ 536870912) (hc : ce + 1 ≤ R.cells) (hl : sl + cap ≤ R.slots) (hp : pc + 2 = pc' := by rfl) :
    ∃ (b : Addr) (h' : Heap) (kc : ClassId), b = h.size ∧ Ext h h' ∧ Arv Z h' b kc ty n (List.replicate cap (defaultValue ty)) (defaultValue ty) ∧ Here k R Z EL n0 y B ret h0 ws h' pc' L (.ref b :: S) (ce + 1) (sl + cap) (b :: sf) := by
  subst hp hty
  obtain ⟨p, l, e, s, m, args, below, meth, c, start⟩ := k
  obtain ⟨T, vm0, k0, locs, X, e1, hS, hk, hZ, hown, hC, hN, hF, ⟨hx, hB, hr⟩, st⟩ := H
  obtain ⟨T', h', kc, X', e2, E, A, st'⟩ := RoadKit.newP X hx (s := s.setVm vm0) hZ w e1 (g := mkF m pc L (.int n :: S)) rfl (Jvm.hb hB dd) rfl hn hcap hb hc hl
  have V := (Arv.new A hn).pad (pad_rep [] (defaultValue (newarray.typeOf aty)) cap)
  obtain ⟨u1, u2, u3⟩ := updN hC hk hF E A.lt
  exact ⟨h.size, h', kc, rfl, E, V, T', vm0, k0, locs, X', e2, hS, u2, hZ, hown, u1, hN, u3, ⟨hx, hB, hr⟩, fun t q => st t (st' t q)⟩
theorem Here.putF (H : Here k R Z EL n0 y B ret h0 ws h pc L (v :: .ref a :: S) ce sl sf) (pc' : Nat) {index kk : Nat} {O n d C : String} {ty : FieldType} {old : Value} (w : (Jvm.Cond.fieldLink y.cls index O n d).before a0 Z = true) (F : Fld Z h a O n d old) (E : Exa Z h a C) (Lw : (Jvm.Cond.lays C O n d).before a0 Z = true ∨ ((Jvm.Cond.laysFinal C O n d).before a0 Z = true ∧ y.cls = O ∧ y.name = "<init>")) (wi : (Jvm.Cond.instantiable C kk).before a0 Z = true)
    (hty : parseFieldDescriptor d = some ty) (hn : narrow ty v = v) (hf : fits ty v = true) (dd : decode B pc = .ok (.putfield index, 3)) (ha : a ∈ sf) (hp : pc + 3 = pc' := by rfl) :
    ∃ h' : Heap, Wr h h' a (RoadKit.slotOf Z O n d) v ∧ Keep h h' [a] ∧ Exa Z h' a C ∧ Fld Z h' a O n d v ∧ Here k R Z EL n0 y B ret h0 ws h' pc' L S ce sl sf := by
  subst hp
  obtain ⟨p, l, e, s, m, args, below, meth, c, start⟩ := k
  obtain ⟨T, vm0, k0, locs, X, e1, hS, hk, hZ, hown, hC, hN, hF, ⟨hx, hB, hsz, hr, hnm, hrest⟩, st⟩ := H
  obtain ⟨T', h', X', e2, W', st'⟩ := RoadKit.putF X hx (s := s.setVm vm0) hZ hown (host := "") (Or.inl w) Via.refl e1 F E (Lw.imp id fun q => ⟨q.1, q.2.1, hnm.trans q.2.2⟩) wi hty hn hf (g := mkF m pc L (v :: .ref a :: S)) rfl rfl (Jvm.hb hB dd)
  obtain ⟨u1, u2, u3⟩ := upd hC hk hF (Keep.of_wr W') (allS ha all0)
  exact ⟨h', W', Keep.of_wr W', E.wr W', F.same W', T', vm0, k0, _, X', e2, hS, u2, hZ, hown, u1, Fr.snoc X' hN (hF.2.2.2 a ha).2.2.1, u3, ⟨hx, hB, hsz, hr, hnm, hrest⟩, fun t q => st t (st' t q)⟩
theorem Here.stC (H : Here k R Z EL n0 y B ret h0 ws h pc L (.int x :: .int j :: .ref a :: S) ce sl sf) (pc' : Nat) {kc : ClassId} {z : Int32} {vs : List Value} {dv : Value} (V : Arv Z h a kc .char z vs dv) (i : Nat) (hj : ¬ j < 0 ∧ j < z) (hji : j.toNatClampNeg = i) (hi : i < vs.length) (hx' : nar .char x = x) (dd : decode B pc = .ok (.castore, 1)) (ha : a ∈ sf) (hp : pc + 1 = pc' := by rfl) :
    ∃ h' : Heap, Keep h h' [a] ∧ Arv Z h' a kc .char z (vs.set i (.int x)) dv ∧ Here k R Z EL n0 y B ret h0 ws h' pc' L S ce sl sf := by
  subst hp
  obtain ⟨p, l, e, s, m, args, below, meth, c, start⟩ := k
  obtain ⟨T, vm0, k0, locs, X, e1, hS, hk, hZ, hown, hC, hN, hF, ⟨hx, hB, hr⟩, st⟩ := H
  obtain ⟨cl, A, q1, q2, q3, q4, q5⟩ := V
  obtain ⟨T', h', X', e2, W', st'⟩ := RoadKit.stC X hx (s := s.setVm vm0) hZ e1 A (j := j) (inb_of q2 hj) (g := mkF m pc L (.int x :: .int j :: .ref a :: S)) rfl rfl (Jvm.hb hB dd)
  have V' := Arv.set A q1 q2 q3 q4 q5 (fits_nar_char x) W' i hji hi
  rw [hx'] at V'
  obtain ⟨u1, u2, u3⟩ := upd hC hk hF (Keep.of_wr W') (allS ha all0)
  exact ⟨h', Keep.of_wr W', V', T', vm0, k0, _, X', e2, hS, u2, hZ, hown, u1, Fr.snoc X' hN (hF.2.2.2 a ha).2.2.1, u3, ⟨hx, hB, hr⟩, fun t q => st t (st' t q)⟩
theorem Here.stB (H : Here k R Z EL n0 y B ret h0 ws h pc L (.int x :: .int j :: .ref a :: S) ce sl sf) (pc' : Nat) {kc : ClassId} {z : Int32} {vs : List Value} {dv : Value} (V : Arv Z h a kc .byte z vs dv) (i : Nat) (hj : ¬ j < 0 ∧ j < z) (hji : j.toNatClampNeg = i) (hi : i < vs.length) (dd : decode B pc = .ok (.bastore, 1)) (ha : a ∈ sf) (hp : pc + 1 = pc' := by rfl) :
    ∃ h' : Heap, Keep h h' [a] ∧ Arv Z h' a kc .byte z (vs.set i (.int x.toInt8.toInt32)) dv ∧ Here k R Z EL n0 y B ret h0 ws h' pc' L S ce sl sf := by
  subst hp
  obtain ⟨p, l, e, s, m, args, below, meth, c, start⟩ := k
  obtain ⟨T, vm0, k0, locs, X, e1, hS, hk, hZ, hown, hC, hN, hF, ⟨hx, hB, hr⟩, st⟩ := H
  obtain ⟨cl, A, q1, q2, q3, q4, q5⟩ := V
  obtain ⟨T', h', X', e2, W', st'⟩ := RoadKit.stB X hx (s := s.setVm vm0) hZ e1 A (j := j) (inb_of q2 hj) (g := mkF m pc L (.int x :: .int j :: .ref a :: S)) rfl rfl (Jvm.hb hB dd)
  have V' := Arv.set A q1 q2 q3 q4 q5 (fits_nar_byte x) W' i hji hi
  obtain ⟨u1, u2, u3⟩ := upd hC hk hF (Keep.of_wr W') (allS ha all0)
  exact ⟨h', Keep.of_wr W', V', T', vm0, k0, _, X', e2, hS, u2, hZ, hown, u1, Fr.snoc X' hN (hF.2.2.2 a ha).2.2.1, u3, ⟨hx, hB, hr⟩, fun t q => st t (st' t q)⟩
theorem Here.cloneA (H : Here k R Z EL n0 y B ret h0 ws h pc L (.ref a :: S) ce sl sf) (pc' : Nat) {index : Nat} {ad : String} (w1 : (Jvm.Cond.methodLink y.cls index ⟨ad, "clone", "()Ljava/lang/Object;"⟩).before a0 Z = true) (w2 : (Jvm.Cond.sameMethod ad "java/lang/Object" "clone" "()Ljava/lang/Object;").before a0 Z = true) (w3 : (Jvm.Cond.native ⟨"java/lang/Object", "clone", "()Ljava/lang/Object;"⟩).before a0 Z = true)
    (w4 : (Jvm.Cond.instanceMethod ⟨"java/lang/Object", "clone", "()Ljava/lang/Object;"⟩).before a0 Z = true) (w5 : (Jvm.Cond.selects ad ⟨ad, "clone", "()Ljava/lang/Object;"⟩ ⟨"java/lang/Object", "clone", "()Ljava/lang/Object;"⟩).before a0 Z = true) (w6 : (Jvm.Cond.castable ad "java/lang/Cloneable").before a0 Z = true)
    {cl : Cell} {ty : FieldType} (A : Arr Z h a cl ty) (E : Exa Z h a ad) (F : FitC Z cl) (dd : decode B pc = .ok (.invokevirtual index, 3)) (hf : 1 ≤ R.frames) {W cap : Nat} (hW : (S.map fun v => v.category).sum ≤ W) (hl : W + 14 ≤ R.locals) (hcap : cl.slots.size ≤ cap) (hc : ce + 1 ≤ R.cells) (hs : sl + cap ≤ R.slots) (hp : pc + 3 = pc' := by rfl) :
    ∃ (b : Addr) (h' : Heap), b = h.size ∧ Ext h h' ∧ Arr Z h' b (cloneOf cl) ty ∧ Exa Z h' b ad ∧ Here k R Z EL n0 y B ret h0 ws h' pc' L (.ref b :: S) (ce + 1) (sl + cap) (b :: sf) := by
  subst hp
  obtain ⟨p, l, e, s, m, args, below, meth, c, start⟩ := k
  obtain ⟨T, vm0, k0, locs, X, e1, hS, hk, hZ, hown, hC, hN, hF, ⟨hx, hB, hsz, hr⟩, st⟩ := H
  obtain ⟨T', h', X', e2, E', A', D', st'⟩ := RoadKit.cloneA X hx (s := s.setVm vm0) hZ hown w1 w2 w3 w4 w5 w6 e1 A E F (g := mkF m pc L (.ref a :: S)) rfl hsz rfl (Jvm.hb hB dd) hf (W := W) (by show 2 * 0 + (S.map fun v => v.category).sum ≤ W; omega) hl hcap hc hs
  obtain ⟨u1, u2, u3⟩ := updN hC hk hF E' A'.lt
  exact ⟨h.size, h', rfl, E', A', D', T', vm0, k0, locs, X', e2, hS, u2, hZ, hown, u1, hN, u3, ⟨hx, hB, hsz, hr⟩, fun t q => st t (st' t q)⟩
/-- ldc of a String constant that is only handed on -/
theorem Here.ldcO (H : Here k R Z EL n0 y B ret h0 ws h pc L S ce sl sf) (pc' : Nat) {index : Nat} {text : String} (w : (Jvm.Cond.stringLink y.cls index text).before a0 Z = true) (wS : ∀ a ∈ Bundle.stringAtoms, a.before a0 Z = true) (hEL : EW Z a0 EL) (dd : decode B pc = .ok (.ldc index, 2)) {n : Nat} (hn : 4 * text.toList.length ≤ n) (hbig : n ≤ 536870912) (hc : ce + 2 ≤ R.cells) (hl : sl + (n + 4) ≤ R.slots) (hp : pc + 2 = pc' := by rfl) :
    ∃ (a : Addr) (h' : Heap), Ext h h' ∧ Here k R Z EL n0 y B ret h0 ws h' pc' L (.ref a :: S) (ce + 2) (sl + (n + 4)) sf := by
  subst hp
  obtain ⟨p, l, e, s, m, args, below, meth, c, start⟩ := k
  obtain ⟨T, vm0, k0, locs, X, e1, hS, hk, hZ, hown, hC, hN, hF, ⟨hx, hB, hr⟩, st⟩ := H
  obtain ⟨a, T', h', k1, X', e2, E, hS', hk', hZ', hown', hCr, -, st'⟩ := ldcOH X hx hZ hown w wS e1 hS hk hEL hC.1 (g := mkF m pc L S) rfl (Jvm.hb hB dd) hn hbig hc hl
  obtain ⟨u1, u3⟩ := updC hC hF (extKeep E) all0 hCr
  exact ⟨a, h', E, T', T'.vm, k1, locs, X', e2, hS', hk', hZ', hown', u1, hN, u3, ⟨hx, hB, hr⟩, fun t q => st t (st' t q)⟩
/-- ldc of a String constant that is read -/
theorem Here.ldcR (H : Here k R Z EL n0 y B ret h0 ws h pc L S ce sl sf) (pc' : Nat) {index : Nat} {text : String} (w : (Jvm.Cond.stringLink y.cls index text).before a0 Z = true) (wS : ∀ a ∈ Bundle.stringAtoms, a.before a0 Z = true) (hEL : EW Z a0 EL) (hmem : (y.cls, index) ∈ EL) {vs : List Value} {z : Int32} (ht : (∀ c ∈ text.toList, c.toNat < 256) ∧ text.toList.map (fun c => Value.int (Jvm.Lit.byteI c.toNat.toUInt16)) = vs) (hz : ¬ z < 0) (hlz : z.toNatClampNeg = vs.length) (dd : decode B pc = .ok (.ldc index, 2)) {n : Nat} (hn : 4 * text.toList.length ≤ n) (hbig : n ≤ 536870912) (hc : ce + 2 ≤ R.cells) (hl : sl + (n + 4) ≤ R.slots) (hp : pc + 2 = pc' := by rfl) :
    ∃ (a : Addr) (h' : Heap) (b : Addr) (kc : ClassId), Ext h h' ∧ Exa Z h' a "java/lang/String" ∧ Fld Z h' a "java/lang/String" "coder" "B" (.int 0) ∧ Fld Z h' a "java/lang/String" "value" "[B" (.ref b) ∧ Arv Z h' b kc .byte z vs (.int 0) ∧ (∀ x ∈ sf, x ≠ a ∧ x ≠ b) ∧ Here k R Z EL n0 y B ret h0 ws h' pc' L (.ref a :: S) (ce + 2) (sl + (n + 4)) sf := by
  subst hp
  obtain ⟨p, l, e, s, m, args, below, meth, c, start⟩ := k
  obtain ⟨T, vm0, k0, locs, X, e1, hS, hk, hZ, hown, hC, hN, hF, ⟨hx, hB, hr⟩, st⟩ := H
  obtain ⟨a, T', h', k1, b, kc, X', e2, E, hS', hk', hZ', hown', x1, x2, x3, x4, -, -, hCr, -, hsafe, st'⟩ := ldcCH X hx hZ hown w wS e1 hS hk hEL hmem hC.1 ht hz hlz (g := mkF m pc L S) rfl (Jvm.hb hB dd) hn hbig hc hl
  obtain ⟨u1, u3⟩ := updC hC hF (extKeep E) all0 hCr
  exact ⟨a, h', b, kc, E, x1, x2, x3, x4, fun x q => hsafe x (u3.2.2.2 x q).1, T', T'.vm, k1, locs, X', e2, hS', hk', hZ', hown', u1, hN, u3, ⟨hx, hB, hr⟩, fun t q => st t (st' t q)⟩
end HeapSteps
section Calls
variable {k : Ctx} {R : Room} {Z : State} {EL : List (String × Nat)} {n0 : Nat} {y z : MethodName} {B bytes : ByteArray} {ret rt : Option FieldType} {h0 h : Heap} {ws ws' sf : List Addr} {pc index mx W kc ks : Nat} {L : Array Slot} {S argsL rest : List Value} {ce sl : Nat} {a0 : Array Value} {Q : Option Value → Heap → Prop}
theorem Here.callS (H : Here k R Z EL n0 y B ret h0 ws h pc L S ce sl sf) (pc' : Nat) (w1 : (Jvm.Cond.methodLink y.cls index z).before a0 Z = true) (w2 : (Jvm.Cond.static z).before a0 Z = true) (w3 : (Jvm.Cond.initialized z.cls).before a0 Z = true) (w4 : (Jvm.Cond.code z bytes mx rt).before a0 Z = true) (hy : z.cls ≠ "java/lang/invoke/MethodHandle" ∧ z.cls ≠ "java/lang/invoke/VarHandle")
    (P : Paid k R Z EL n0 z W argsL.toArray h ws' kc ks Q) (hlen : ∀ sig, parseMethodDescriptor z.desc = some sig → argsL.length = sig.parameters.length) (hS : S = argsL.reverse ++ rest) (hW : (rest.map fun v => v.category).sum ≤ W) (dd : decode B pc = .ok (.invokestatic index, 3)) (hc : ce + kc ≤ R.cells) (hl : sl + ks ≤ R.slots) (hws : ∀ x ∈ ws', x ∈ sf) (hp : pc + 3 = pc' := by rfl) :
    ∃ (v : Option Value) (h' : Heap), Q v h' ∧ Keep h h' ws' ∧ Here k R Z EL n0 y B ret h0 ws h' pc' L (v.toList ++ rest) (ce + kc) (sl + ks) sf := by
  subst hp hS
  obtain ⟨p, l, e, s, m, args, below, meth, c, start⟩ := k
  obtain ⟨T, vm0, k0, locs, X, e1, hS, hk, hZ, hown, hC, hN, hF, ⟨hx, hB, hsz, hr⟩, st⟩ := H
  obtain ⟨v, vm1, ⟨U, lo, c1, s1⟩, -, X', hS', hg, ⟨Lx, ⟨hQ, hK, hFr⟩, l1, c1e, s1e, hCr⟩, st'⟩ := callSS X hx (own := y.cls) hown (mvT (s := s.setVm vm0) hZ w1) (mvT (s := s.setVm vm0) hZ w2) (mvT (s := s.setVm vm0) hZ w3) (mvT (s := s.setVm vm0) hZ w4) hy (P vm0 hZ hC.1 fun x q => ⟨(hF.2.2.2 x (hws x q)).1, (hF.2.2.2 x (hws x q)).2.1⟩)
    (g := mkF m pc L (argsL.reverse ++ rest)) rfl hsz hlen rfl (by show 2 * 0 + (rest.map fun v => v.category).sum ≤ W; omega) (Jvm.hb hB dd) (fun _ _ => ⟨rfl, e1, hc, hl⟩)
  dsimp only [Pt.U, Pt.locs, Pt.cells, Pt.slots] at X' hS' hg hQ hK l1 c1e s1e hCr st'
  subst l1 c1e s1e
  obtain ⟨u1, u3⟩ := updC hC hF hK hws hCr
  exact ⟨v, U.heap, hQ, hK, U, U.vm, U.heap.size, _, X', rfl, hS.trans hS' (Nat.le_trans hk hK.1), Nat.le_refl _, State.Warmed39.trans (t := s.setVm vm0) hZ hS'.1, (hS'.1.alike.findClass _ _).trans hown, u1, Fr.app hN hFr, u3, ⟨hx, hB, hsz, hr⟩, fun t q => st t (st'.trans q)⟩
theorem Here.callI (H : Here k R Z EL n0 y B ret h0 ws h pc L S ce sl sf) (pc' : Nat) (hy1 : z.name = "<init>") (w1 : (Jvm.Cond.methodLink y.cls index z).before a0 Z = true) (w2 : (Jvm.Cond.instanceMethod z).before a0 Z = true) (w4 : (Jvm.Cond.code z bytes mx none).before a0 Z = true) (hy : z.cls ≠ "java/lang/invoke/MethodHandle" ∧ z.cls ≠ "java/lang/invoke/VarHandle") {a : Addr}
    (P : Paid k R Z EL n0 z W (.ref a :: argsL).toArray h ws' kc ks Q) (hlen : ∀ sig, parseMethodDescriptor z.desc = some sig → argsL.length = sig.parameters.length) (hS : S = argsL.reverse ++ .ref a :: rest) (hW : (rest.map fun v => v.category).sum ≤ W) (dd : decode B pc = .ok (.invokespecial index, 3)) (hc : ce + kc ≤ R.cells) (hl : sl + ks ≤ R.slots) (hws : ∀ x ∈ ws', x ∈ sf) (hp : pc + 3 = pc' := by rfl) :
    ∃ (v : Option Value) (h' : Heap), Q v h' ∧ Keep h h' ws' ∧ Here k R Z EL n0 y B ret h0 ws h' pc' L (v.toList ++ rest) (ce + kc) (sl + ks) sf := by
  subst hp hS
  obtain ⟨p, l, e, s, m, args, below, meth, c, start⟩ := k
  obtain ⟨T, vm0, k0, locs, X, e1, hS, hk, hZ, hown, hC, hN, hF, ⟨hx, hB, hsz, hr⟩, st⟩ := H
  obtain ⟨v, vm1, ⟨U, lo, c1, s1⟩, -, X', hS', hg, ⟨Lx, ⟨hQ, hK, hFr⟩, l1, c1e, s1e, hCr⟩, st'⟩ := X.specialBackS hx (own := y.cls) hy1 hown (mvT (s := s.setVm vm0) hZ w1) (mvT (s := s.setVm vm0) hZ w2) (mvT (s := s.setVm vm0) hZ w4) hy (P vm0 hZ hC.1 fun x q => ⟨(hF.2.2.2 x (hws x q)).1, (hF.2.2.2 x (hws x q)).2.1⟩)
    (g := mkF m pc L (argsL.reverse ++ .ref a :: rest)) rfl hsz (Steps.refl _) (a := a) hlen rfl (by show 2 * 0 + (rest.map fun v => v.category).sum ≤ W; omega) (Jvm.hb hB dd) (fun _ _ => ⟨rfl, e1, hc, hl⟩)
  dsimp only [Pt.U, Pt.locs, Pt.cells, Pt.slots] at X' hS' hg hQ hK l1 c1e s1e hCr st'
  subst l1 c1e s1e
  obtain ⟨u1, u3⟩ := updC hC hF hK hws hCr
  exact ⟨v, U.heap, hQ, hK, U, U.vm, U.heap.size, _, X', rfl, hS.trans hS' (Nat.le_trans hk hK.1), Nat.le_refl _, State.Warmed39.trans (t := s.setVm vm0) hZ hS'.1, (hS'.1.alike.findClass _ _).trans hown, u1, Fr.app hN hFr, u3, ⟨hx, hB, hsz, hr⟩, fun t q => st t (st'.trans q)⟩
theorem Here.callV (H : Here k R Z EL n0 y B ret h0 ws h pc L S ce sl sf) (pc' : Nat) {C : String} {z1 : MethodName} (w1 : (Jvm.Cond.methodLink y.cls index z1).before a0 Z = true) (w2 : (Jvm.Cond.declares z1).before a0 Z = true) (w3 : (Jvm.Cond.selects C z1 z).before a0 Z = true) (w4 : (Jvm.Cond.instanceMethod z).before a0 Z = true) (hy : z1.cls ≠ "java/lang/invoke/MethodHandle" ∧ z1.cls ≠ "java/lang/invoke/VarHandle") {a : Addr} (E : Exa Z h a C)
    (P : Paid k R Z EL n0 z W (.ref a :: argsL).toArray h ws' kc ks Q) (hlen : ∀ sig, parseMethodDescriptor z1.desc = some sig → argsL.length = sig.parameters.length) (hS : S = argsL.reverse ++ .ref a :: rest) (hW : (rest.map fun v => v.category).sum ≤ W) (dd : decode B pc = .ok (.invokevirtual index, 3)) (hc : ce + kc ≤ R.cells) (hl : sl + ks ≤ R.slots) (hws : ∀ x ∈ ws', x ∈ sf) (hp : pc + 3 = pc' := by rfl) (hz1 : z1 = z := by rfl) :
    ∃ (v : Option Value) (h' : Heap), Q v h' ∧ Keep h h' ws' ∧ Here k R Z EL n0 y B ret h0 ws h' pc' L (v.toList ++ rest) (ce + kc) (sl + ks) sf := by
  subst hz1
  subst hp hS
  obtain ⟨p, l, e, s, m, args, below, meth, c, start⟩ := k
  obtain ⟨T, vm0, k0, locs, X, e1, hS, hk, hZ, hown, hC, hN, hF, ⟨hx, hB, hsz, hr⟩, st⟩ := H
  obtain ⟨cB, kB, i1, i2, i3⟩ := isOf (s := s.setVm vm0) hZ e1 E
  obtain ⟨v, vm1, ⟨U, lo, c1, s1⟩, -, X', hS', hg, ⟨Lx, ⟨hQ, hK, hFr⟩, l1, c1e, s1e, hCr⟩, st'⟩ := X.virtualBackS hx (own := y.cls) hown (mvT (s := s.setVm vm0) hZ w1) (mvT (s := s.setVm vm0) hZ w2) (notFace_of_selects (args := args) (mvT (s := s.setVm vm0) hZ w3)) (mvT (s := s.setVm vm0) hZ w3) (mvT (s := s.setVm vm0) hZ w4) hy (P vm0 hZ hC.1 fun x q => ⟨(hF.2.2.2 x (hws x q)).1, (hF.2.2.2 x (hws x q)).2.1⟩) i1 i3
    (g := mkF m pc L (argsL.reverse ++ .ref a :: rest)) rfl hsz (Steps.refl _) hlen rfl (by show 2 * 0 + (rest.map fun v => v.category).sum ≤ W; omega) (Jvm.hb hB dd) (fun _ _ => ⟨rfl, e1, hc, hl⟩)
  dsimp only [Pt.U, Pt.locs, Pt.cells, Pt.slots] at X' hS' hg hQ hK l1 c1e s1e hCr st'
  subst l1 c1e s1e
  obtain ⟨u1, u3⟩ := updC hC hF hK hws hCr
  exact ⟨v, U.heap, hQ, hK, U, U.vm, U.heap.size, _, X', rfl, hS.trans hS' (Nat.le_trans hk hK.1), Nat.le_refl _, State.Warmed39.trans (t := s.setVm vm0) hZ hS'.1, (hS'.1.alike.findClass _ _).trans hown, u1, Fr.app hN hFr, u3, ⟨hx, hB, hsz, hr⟩, fun t q => st t (st'.trans q)⟩
end Calls
section NotIns
variable {k : Ctx} {R : Room} {Z : State} {EL : List (String × Nat)} {n0 : Nat} {y : MethodName} {B : ByteArray} {ret : Option FieldType} {h0 h : Heap} {ws sf : List Addr} {pc : Nat} {L : Array Slot} {S : List Value} {ce sl : Nat} {a0 : Array Value} {C K O Sp : String} {n : Nat}
theorem ns_root (w : (Jvm.Cond.noSuperclass O).before a0 Z = true) (wi : (Jvm.Cond.instantiable K n).before a0 Z = true) (hn : O ≠ K) : NS Z O K := by
  obtain ⟨c, k, h1, h2, h3, -, -⟩ := Cond.noSuperclass_spec w
  obtain ⟨t, kt, g1, -⟩ := Cond.instantiable_spec wi
  have ne := ids_ne h1 g1 hn
  refine ⟨c, t, h1, g1, fun fuel => ?_⟩
  cases fuel with
  | zero => rfl
  | succ f => simp [Vm.isSubclassAux, ne, h2, h3]
def NoIns (Z : State) (C K : String) : Prop := ∃ c t, Z.vm.findClass C = some c ∧ Z.vm.findClass K = some t ∧ Z.vm.assignable c t = false
theorem ns_no (w : (Jvm.Cond.superclass C Sp).before a0 Z = true) (wi : (Jvm.Cond.instantiable K n).before a0 Z = true) (nn : NS Z C K) (hn : C ≠ K) : NoIns Z C K := by
  obtain ⟨c, t, h0, g0, n3⟩ := nn
  obtain ⟨p, k, kp, h1, h2, h3, h4, h5, -, h7⟩ := Cond.superclass_spec h0 w
  obtain ⟨t', k', g1, g2, g5, g7, -⟩ := Cond.instantiable_spec wi
  cases g0.symm.trans g1
  have g8 : k'.isInterface = false := by cases hq : k'.isInterface <;> simp [hq] at g7 ⊢
  have ne := ids_ne h0 g0 hn
  refine ⟨c, t, h0, g0, ?_⟩
  show Z.vm.assignableAux (255 + 1) c t = false
  simp [Vm.assignableAux, ne, h2, g2, h5, g5, g8, Vm.isSubclass, n3]
theorem Here.instNo (H : Here k R Z EL n0 y B ret h0 ws h pc L (.ref a :: S) ce sl sf) (pc' : Nat) {index : Nat} (w : (Jvm.Cond.classLink y.cls index K).before a0 Z = true) (E : Exa Z h a C) (F : NoIns Z C K) (dd : decode B pc = .ok (.instanceof index, 3)) (hp : pc + 3 = pc' := by rfl) : Here k R Z EL n0 y B ret h0 ws h pc' L (.int 0 :: S) ce sl sf := by
  subst hp
  exact H.goT rfl fun p l e s m args below meth c T locs ce sl X e1 hZ hown hx hB hl hs => RoadKit.instNo X hx hZ hown w e1 E F (g := mkF m pc L (.ref a :: S)) rfl rfl (Jvm.hb hB dd)
theorem Here.instNull (H : Here k R Z EL n0 y B ret h0 ws h pc L (.null :: S) ce sl sf) (pc' : Nat) {index : Nat} (dd : decode B pc = .ok (.instanceof index, 3)) (hp : pc + 3 = pc' := by rfl) : Here k R Z EL n0 y B ret h0 ws h pc' L (.int 0 :: S) ce sl sf := by
  subst hp
  exact H.goT rfl fun p l e s m args below meth c T locs ce sl X e1 hZ hown hx hB hl hs => ⟨T, X, e1, X.instanceofNull hx (g := mkF m pc L (.null :: S)) rfl rfl (Jvm.hb hB dd)⟩
end NotIns
section More
variable {k : Ctx} {R : Room} {Z : State} {EL : List (String × Nat)} {n0 : Nat} {z : MethodName} {h h' : Heap} {ws' ws : List Addr} {W kc ks kc' ks' : Nat} {as' : Array Value} {Q Q' : Option Value → Heap → Prop}
theorem Paid.more (P : Paid k R Z EL n0 z W as' h ws' kc ks Q) (hc : kc ≤ kc') (hs : ks ≤ ks') : Paid k R Z EL n0 z W as' h ws' kc' ks' Q := by
  obtain ⟨p, l, e, s, m, args, below, meth, c, start⟩ := k
  intro vm0 hZ H hsf m meth c A g ig mk a X hg hsize hdg hW hn hp
  obtain ⟨v, D, X', hS, hgr, ⟨L, q1, q2, q3, q4, q5⟩, st⟩ := P vm0 hZ H hsf m meth c A g ig mk a X hg hsize hdg hW hn ⟨hp.1, hp.2.1, by have := hp.2.2.1; omega, by have := hp.2.2.2; omega⟩
  exact ⟨v, ⟨D.U, D.locs, A.cells + kc', A.slots + ks'⟩, X'.more (by show D.cells ≤ A.cells + kc'; rw [q3]; omega) (by show D.slots ≤ A.slots + ks'; rw [q4]; omega), hS, hgr, ⟨L, q1, q2, rfl, rfl, q5⟩, st⟩
theorem Paid.mono (P : Paid k R Z EL n0 z W as' h ws' kc ks Q) (hq : ∀ v h', Q v h' → Q' v h') : Paid k R Z EL n0 z W as' h ws' kc ks Q' := by
  obtain ⟨p, l, e, s, m, args, below, meth, c, start⟩ := k
  intro vm0 hZ H hsf m meth c A g ig mk a X hg hsize hdg hW hn hp
  obtain ⟨v, D, X', hS, hgr, ⟨L, q1, q2⟩, st⟩ := P vm0 hZ H hsf m meth c A g ig mk a X hg hsize hdg hW hn hp
  exact ⟨v, D, X', hS, hgr, ⟨L, ⟨hq _ _ q1.1, q1.2⟩, q2⟩, st⟩
theorem keepExt (K : Keep h h' []) : Ext h h' := ⟨K.1, fun a c q => K.2.1 a c q nin0⟩
theorem Ext.refl' (h : Heap) : Ext h h := ⟨Nat.le_refl _, fun _ _ q => q⟩
theorem Ext.trans' {h1 : Heap} (E : Ext h h1) (F : Ext h1 h') : Ext h h' := ⟨Nat.le_trans E.1 F.1, fun a c q => F.2 a c (E.2 a c q)⟩
/-- what stood in hA stands still: only later cells were written -/
theorem Ext.keep' {hA : Heap} (E : Ext hA h) (K : Keep h h' ws) (hw : ∀ x ∈ ws, hA.size ≤ x) : Ext hA h' := ⟨Nat.le_trans E.1 K.1, fun a c q => K.2.1 a c (E.2 a c q) fun hm => absurd (Array.getElem?_eq_some_iff.mp q).1 (Nat.not_lt.mpr (hw a hm))⟩
theorem staOld {C n d : String} {v : Value} (F : Sta Z Z.heap C n d v) (O : Old Z n0 h) : Sta Z h C n d v := F.ext O.2
theorem nar_char {x : Int32} (h0 : ¬ x < 0) (h1 : ¬ 65535 < x) : nar .char x = x := by
  obtain ⟨q1, q2, q3⟩ := c_i2c x
  have e : nar .char x = x.toUInt32.toUInt16.toUInt32.toInt32 := rfl
  rw [e]
  rw [Int32.lt_iff_toInt_lt] at h0 h1
  have e0 : (0 : Int32).toInt = 0 := rfl
  have e1 : (65535 : Int32).toInt = 65535 := rfl
  exact Int32.toInt_inj.mp (by omega)
end More
end Jvm.OwnKit
/- laws to paste: Road.backV, Road.eqW, Road.chN, Road.codOf (cut by pick.py; bodies as the Statement names them) -/
namespace Jvm.Pilot.@@N@@
namespace StrChars
open Jvm Sem ClassFile Op Lib Jvm.Stand Jvm.Free.XT Jvm.Free.ALB Jvm.Free.JM Jvm.Free
open Jvm.Lib.Cold (StaticIs)
/-- a char array whose places are chars -/
def Ch (a : Addr) (A : Cell) (U : State) : Prop := Arr .char a A U ∧ Typed .char A
theorem Ch.mv {a : Addr} {A : Cell} {U U' : State} (h : Ch a A U) (hal : U.vm.Alike U'.vm) (hh : U'.heap = U.heap) : Ch a A U' := ⟨h.1.mv hal hh, h.2⟩
theorem Ch.keep {a : Addr} {A : Cell} {U U' : State} (h : Ch a A U) (hal : U.vm.Alike U'.vm) (hk : U'.heap[a]? = some A) : Ch a A U' := ⟨h.1.keep hal hk, h.2⟩
/-- what place i of a char[]'s cell holds -/
def cv (A : Cell) (i : Nat) : Int32 := match A.slots[i]? with | some (.int x) => x | _ => 0
theorem Ch.get {a : Addr} {A : Cell} {U : State} (h : Ch a A U) {i : Nat} (hi : i < A.slots.size) : A.slots[i]? = some (.int (cv A i)) := by
  have e := Array.getElem?_eq_getElem hi
  have f := h.2 i _ e
  unfold cv; rw [e]
  generalize A.slots[i] = v at f
  cases v <;> simp [fits] at f ⊢
/-- the byte that i2b leaves of a char -/
def lo8 (x : Int32) : Int32 := x.toInt8.toInt32
theorem fits_lo8 (y : Int32) : fits .byte (.int (lo8 y)) = true := by
  have h1 := y.toInt8.le_toInt
  have h2 := y.toInt8.toInt_lt
  simp only [lo8, fits, Bool.and_eq_true, decide_eq_true_eq, Int32.le_iff_toInt_le, Int8.toInt_toInt32, show (-128 : Int32).toInt = -128 from by decide, show (127 : Int32).toInt = 127 from by decide]
  omega
/-- A' is A but that each place j of lo .. hi - 1 holds f j -/
def Laid (A A' : Cell) (lo hi : Nat) (f : Nat → Value) : Prop := A'.cls = A.cls ∧ A'.vm = A.vm ∧ A'.slots.size = A.slots.size ∧ ∀ i, A'.slots[i]? = if lo ≤ i ∧ i < hi then some (f i) else A.slots[i]?
theorem Laid.zero (A : Cell) (lo : Nat) (f : Nat → Value) : Laid A A lo (lo + 0) f := ⟨rfl, rfl, rfl, fun i => by rw [if_neg (by omega)]⟩
theorem Laid.step {A Ak : Cell} {lo k : Nat} {f : Nat → Value} {v : Value} (h : Laid A Ak lo k f) (hlo : lo ≤ k) (hk : k < Ak.slots.size) (hv : v = f k) : Laid A (Ak.setSlot k v) lo (k + 1) f := by
  refine ⟨h.1, h.2.1, by simpa [Cell.setSlot] using h.2.2.1, fun i => ?_⟩
  by_cases e : k = i
  · subst e; rw [Cell.slots_setSlot_self v hk, if_pos (by omega), hv]
  · rw [Cell.slots_setSlot_ne v e, h.2.2.2 i]
    by_cases q : lo ≤ i ∧ i < k
    · rw [if_pos q, if_pos (by omega)]
    · rw [if_neg q, if_neg (by omega)]
def U16 : String := "java/lang/StringUTF16"
namespace Cmp5
def yN : MethodName := ⟨"java/lang/StringUTF16", "compress", "([CI[BII)I"⟩
abbrev yB : ByteArray := jdk_52_method_21_code
theorem d0 : decode yB 0 = .ok (.iconst 0, 1) := by decide +kernel
theorem d1 : decode yB 1 = .ok (.istore 5, 2) := by decide +kernel
theorem d3 : decode yB 3 = .ok (.iload 5, 2) := by decide +kernel
theorem d5 : decode yB 5 = .ok (.iload 4, 2) := by decide +kernel
theorem d7 : decode yB 7 = .ok (.if_icmp (.ge) 37, 3) := by decide +kernel
theorem d10 : decode yB 10 = .ok (.aload_n 0, 1) := by decide +kernel
theorem d11 : decode yB 11 = .ok (.iload_n 1, 1) := by decide +kernel
theorem d12 : decode yB 12 = .ok (.caload, 1) := by decide +kernel
theorem d13 : decode yB 13 = .ok (.istore 6, 2) := by decide +kernel
theorem d15 : decode yB 15 = .ok (.iload 6, 2) := by decide +kernel
theorem d17 : decode yB 17 = .ok (.sipush 255, 3) := by decide +kernel
theorem d20 : decode yB 20 = .ok (.if_icmp (.le) 6, 3) := by decide +kernel
theorem d26 : decode yB 26 = .ok (.aload_n 2, 1) := by decide +kernel
theorem d27 : decode yB 27 = .ok (.iload_n 3, 1) := by decide +kernel
theorem d28 : decode yB 28 = .ok (.iload 6, 2) := by decide +kernel
theorem d30 : decode yB 30 = .ok (.i2b, 1) := by decide +kernel
theorem d31 : decode yB 31 = .ok (.bastore, 1) := by decide +kernel
theorem d32 : decode yB 32 = .ok (.iinc 1 1, 3) := by decide +kernel
theorem d35 : decode yB 35 = .ok (.iinc 3 1, 3) := by decide +kernel
theorem d38 : decode yB 38 = .ok (.iinc 5 1, 3) := by decide +kernel
theorem d41 : decode yB 41 = .ok (.goto (-38), 3) := by decide +kernel
theorem d44 : decode yB 44 = .ok (.iload 4, 2) := by decide +kernel
theorem d46 : decode yB 46 = .ok (.ireturn, 1) := by decide +kernel
def site : List Cond := []
def tab : Cond := tabOf yN yB 7 (some .int) site
def P (b : Addr) (A : Cell) (d : Addr) (B : Cell) (o q len : Nat) (args : Array Value) (s : State) : Prop := args = #[.ref b, .int (Int32.ofNat o), .ref d, .int (Int32.ofNat q), .int (Int32.ofNat len)] ∧ Ch b A s ∧ Arr .byte d B s ∧ b ≠ d ∧ o + len ≤ A.slots.size ∧ q + len ≤ B.slots.size ∧ ∀ i, i < len → ¬ 255 < cv A (o + i)
def E (b : Addr) (A : Cell) (d : Addr) (B : Cell) (o q len : Nat) (r : Option Value) (s u : State) : Prop := r = some (.int (Int32.ofNat len)) ∧ ∃ B', Put d B' s u ∧ Laid B B' q (q + len) (fun j => Value.int (lo8 (cv A (o + (j - q)))))
/-- no char of the range above 255: len; the places written hold each char's low byte -/
theorem law (l : Launch) (b : Addr) (A : Cell) (d : Addr) (B : Cell) (o q len : Nat) : Law l yN 5 5 0 0 yB 7 (some .int) site (P b A d B o q len) (E b A d B o q len) (copyLocs d q len) 0 0 := by
  refine Law.of_walk (plainFor_of_name (by decide +kernel)) (by decide +kernel) (by decide +kernel) (by decide) (fun _ _ h => by rw [h.1]; rfl) (fun _ U U' hal hh h => ⟨h.1, h.2.1.mv hal hh, h.2.2.1.mv hal hh, h.2.2.2⟩) (fun r U U' V V' h1 hal h2 h => ⟨h.1, h.2.elim fun B' q => ⟨B', q.1.mv h1 h2, q.2⟩⟩) ?_
  intro p e s m args below meth c s₁ X0 hexec hbytes hml hret hlk hnm hown hh0 W hP
  obtain ⟨rfl, hA, hB, hne, l1, l2, hp⟩ := hP
  have c1 : Steps p.tables e below (s₁.setTop (entryFrame m #[.ref b, .int (Int32.ofNat o), .ref d, .int (Int32.ofNat q), .int (Int32.ofNat len)] 7)) (s₁.setTop (mkF m 0 #[.val (.ref b), .val (.int (Int32.ofNat o)), .val (.ref d), .val (.int (Int32.ofNat q)), .val (.int (Int32.ofNat len)), .unset, .unset] [])) := entry rfl
  have hA0 := hA.1.mv X0.warmed.alike hh0
  have hB0 := hB.mv X0.warmed.alike hh0
  have a31 := hA.1.2.2.2
  have c2 : Steps p.tables e below (s₁.setTop (entryFrame m #[.ref b, .int (Int32.ofNat o), .ref d, .int (Int32.ofNat q), .int (Int32.ofNat len)] 7)) (s₁.setTop (mkF m 3 #[.val (.ref b), .val (.int (Int32.ofNat o)), .val (.ref d), .val (.int (Int32.ofNat q)), .val (.int (Int32.ofNat len)), .val (.int 0), .unset] [])) := c1.trans (by
    refine iconstV X0.here hexec rfl 0 (hb hbytes d0) (by decide) ?_
    refine XS.istore X0.here hexec rfl (hb hbytes d1) rfl rfl ?_
    exact Steps.refl _)
  have loop : ∀ (r i : Nat), i + r = len → ∀ (z : Slot), (z = .unset ∨ ∃ w, z = .val w ∧ w.category = 1) → ∀ (Tl : State) (Bk : Cell), Stand p l e { frames := 0, locals := 0, cells := 0, slots := 0 } s m #[.ref b, .int (Int32.ofNat o), .ref d, .int (Int32.ofNat q), .int (Int32.ofNat len)] below meth c Tl ([] ++ copyLocs d q i) 0 0 → Put d Bk s₁ Tl → Laid B Bk q (q + i) (fun j => Value.int (lo8 (cv A (o + (j - q))))) →
      Steps p.tables e below (s₁.setTop (entryFrame m #[.ref b, .int (Int32.ofNat o), .ref d, .int (Int32.ofNat q), .int (Int32.ofNat len)] 7)) (Tl.setTop (mkF m 3 #[.val (.ref b), .val (.int (Int32.ofNat (o + i))), .val (.ref d), .val (.int (Int32.ofNat (q + i))), .val (.int (Int32.ofNat len)), .val (.int (Int32.ofNat i)), z] [])) → ∃ (T' : State) (B' : Cell) (z' : Slot), Stand p l e { frames := 0, locals := 0, cells := 0, slots := 0 } s m #[.ref b, .int (Int32.ofNat o), .ref d, .int (Int32.ofNat q), .int (Int32.ofNat len)] below meth c T' ([] ++ copyLocs d q len) 0 0 ∧ Put d B' s₁ T' ∧ Laid B B' q (q + len) (fun j => Value.int (lo8 (cv A (o + (j - q))))) ∧
      Steps p.tables e below (s₁.setTop (entryFrame m #[.ref b, .int (Int32.ofNat o), .ref d, .int (Int32.ofNat q), .int (Int32.ofNat len)] 7)) (T'.setTop (mkF m 3 #[.val (.ref b), .val (.int (Int32.ofNat (o + len))), .val (.ref d), .val (.int (Int32.ofNat (q + len))), .val (.int (Int32.ofNat len)), .val (.int (Int32.ofNat len)), z'] [])) := by
    intro r
    induction r with
    | zero =>
      intro i hi z hz Tl Bk Xl pl fl cl
      have hil : i = len := by omega
      rw [hil] at Xl fl cl
      exact ⟨Tl, Bk, z, Xl, pl, fl, cl⟩
    | succ r ih =>
      intro i hi z hz Tl Bk Xl pl fl cl
      have all := X0.warmed.alike.symm.trans Xl.warmed.alike
      have hAl := hA0.keep all (pl.other hne hA0.1)
      have hBk := hB0.like all pl.1 fl.1 fl.2.1 fl.2.2.1
      have hlt : q + i < Bk.slots.size := by rw [fl.2.2.1]; omega
      have c3 : Steps p.tables e below (s₁.setTop (entryFrame m #[.ref b, .int (Int32.ofNat o), .ref d, .int (Int32.ofNat q), .int (Int32.ofNat len)] 7)) (Tl.setTop (mkF m 12 #[.val (.ref b), .val (.int (Int32.ofNat (o + i))), .val (.ref d), .val (.int (Int32.ofNat (q + i))), .val (.int (Int32.ofNat len)), .val (.int (Int32.ofNat i)), z] [.int (Int32.ofNat (o + i)), .ref b])) := cl.trans (by
        refine XS.iload Xl.here hexec rfl (hb hbytes d3) rfl ?_
        refine XS.iload Xl.here hexec rfl (hb hbytes d5) rfl ?_
        refine XS.icmpNo Xl.here hexec rfl (hb hbytes d7) rfl (ii_ge_f (lt32 (by omega) (by omega))) ?_
        refine XS.aloadN Xl.here hexec rfl (hb hbytes d10) rfl rfl ?_
        refine XS.iloadN Xl.here hexec rfl (hb hbytes d11) rfl ?_
        exact Steps.refl _)
      have c4 : Steps p.tables e below (s₁.setTop (entryFrame m #[.ref b, .int (Int32.ofNat o), .ref d, .int (Int32.ofNat q), .int (Int32.ofNat len)] 7)) (Tl.setTop (mkF m 13 #[.val (.ref b), .val (.int (Int32.ofNat (o + i))), .val (.ref d), .val (.int (Int32.ofNat (q + i))), .val (.int (Int32.ofNat len)), .val (.int (Int32.ofNat i)), z] [.int (cv A (o + i))])) := c3.trans (by
        refine Xl.aget hexec hAl rfl (hA.get (i := o + i) (by omega)) rfl rfl (hb hbytes d12) ?_
        exact Steps.refl _)
      have c5 : Steps p.tables e below (s₁.setTop (entryFrame m #[.ref b, .int (Int32.ofNat o), .ref d, .int (Int32.ofNat q), .int (Int32.ofNat len)] 7)) (Tl.setTop (mkF m 15 #[.val (.ref b), .val (.int (Int32.ofNat (o + i))), .val (.ref d), .val (.int (Int32.ofNat (q + i))), .val (.int (Int32.ofNat len)), .val (.int (Int32.ofNat i)), .val (.int (cv A (o + i)))] [])) := c4.trans (by
        refine XS.istoreS Xl.here hexec rfl (hb hbytes d13) rfl rfl hz ?_
        exact Steps.refl _)
      have c6 : Steps p.tables e below (s₁.setTop (entryFrame m #[.ref b, .int (Int32.ofNat o), .ref d, .int (Int32.ofNat q), .int (Int32.ofNat len)] 7)) (Tl.setTop (mkF m 31 #[.val (.ref b), .val (.int (Int32.ofNat (o + i))), .val (.ref d), .val (.int (Int32.ofNat (q + i))), .val (.int (Int32.ofNat len)), .val (.int (Int32.ofNat i)), .val (.int (cv A (o + i)))] [.int (lo8 (cv A (o + i))), .int (Int32.ofNat (q + i)), .ref d])) := c5.trans (by
        refine XS.iload Xl.here hexec rfl (hb hbytes d15) rfl ?_
        refine sipushV Xl.here hexec rfl 255 (hb hbytes d17) (by decide) ?_
        refine XS.icmpYes Xl.here hexec rfl (pc0 := 20) rfl (hb hbytes d20) rfl (ii_le_t (hp i (by omega))) (by decide) rfl ?_
        refine XS.aloadN Xl.here hexec rfl (hb hbytes d26) rfl rfl ?_
        refine XS.iloadN Xl.here hexec rfl (hb hbytes d27) rfl ?_
        refine XS.iload Xl.here hexec rfl (hb hbytes d28) rfl ?_
        refine i2b Xl.here hexec rfl (hb hbytes d30) rfl ?_
        exact Steps.refl _)
      obtain ⟨T7, X7, p7, st7⟩ := Xl.aput hexec hBk rfl hlt rfl (fits_lo8 (cv A (o + i))) (g := (mkF m 31 #[.val (.ref b), .val (.int (Int32.ofNat (o + i))), .val (.ref d), .val (.int (Int32.ofNat (q + i))), .val (.int (Int32.ofNat len)), .val (.int (Int32.ofNat i)), .val (.int (cv A (o + i)))] [.int (lo8 (cv A (o + i))), .int (Int32.ofNat (q + i)), .ref d])) rfl (rest := []) rfl (hb hbytes d31)
      have c8 : Steps p.tables e below (s₁.setTop (entryFrame m #[.ref b, .int (Int32.ofNat o), .ref d, .int (Int32.ofNat q), .int (Int32.ofNat len)] 7)) (T7.setTop (mkF m 32 #[.val (.ref b), .val (.int (Int32.ofNat (o + i))), .val (.ref d), .val (.int (Int32.ofNat (q + i))), .val (.int (Int32.ofNat len)), .val (.int (Int32.ofNat i)), .val (.int (cv A (o + i)))] [])) := c6.trans (st7 _ (Steps.refl _))
      have c9 : Steps p.tables e below (s₁.setTop (entryFrame m #[.ref b, .int (Int32.ofNat o), .ref d, .int (Int32.ofNat q), .int (Int32.ofNat len)] 7)) (T7.setTop (mkF m 3 #[.val (.ref b), .val (.int (Int32.ofNat (o + i) + 1)), .val (.ref d), .val (.int (Int32.ofNat (q + i) + 1)), .val (.int (Int32.ofNat len)), .val (.int (Int32.ofNat i + 1)), .val (.int (cv A (o + i)))] [])) := c8.trans (by
        refine iincV X7.here hexec rfl 1 (hb hbytes d32) (by decide) rfl rfl ?_
        refine iincV X7.here hexec rfl 1 (hb hbytes d35) (by decide) rfl rfl ?_
        refine iincV X7.here hexec rfl 1 (hb hbytes d38) (by decide) rfl rfl ?_
        refine XS.goto X7.here hexec rfl (pc0 := 41) rfl (hb hbytes d41) (by decide) rfl ?_
        exact Steps.refl _)
      have c10 : Steps p.tables e below (s₁.setTop (entryFrame m #[.ref b, .int (Int32.ofNat o), .ref d, .int (Int32.ofNat q), .int (Int32.ofNat len)] 7)) (T7.setTop (mkF m 3 #[.val (.ref b), .val (.int (Int32.ofNat (o + (i + 1)))), .val (.ref d), .val (.int (Int32.ofNat (q + (i + 1)))), .val (.int (Int32.ofNat len)), .val (.int (Int32.ofNat (i + 1))), .val (.int (cv A (o + i)))] [])) := by
        have := c9
        rw [succ32, succ32, succ32] at this
        exact this
      exact ih (i + 1) (by omega) _ (Or.inr ⟨_, rfl, rfl⟩) T7 _ (by rw [copyLocs_step, ← List.append_assoc]; exact X7) (pl.trans p7) (fl.step (by omega) hlt (by simp)) c10
  obtain ⟨T9, B9, z9, X9, p9, f9, g9⟩ := loop len 0 (by omega) .unset (Or.inl rfl) s₁ B (by simpa [copyLocs] using X0) ⟨hB0.1, fun _ _ => rfl, rfl⟩ (Laid.zero _ _ _) c2
  have c11 : Steps p.tables e below (s₁.setTop (entryFrame m #[.ref b, .int (Int32.ofNat o), .ref d, .int (Int32.ofNat q), .int (Int32.ofNat len)] 7)) (T9.setTop (mkF m 46 #[.val (.ref b), .val (.int (Int32.ofNat (o + len))), .val (.ref d), .val (.int (Int32.ofNat (q + len))), .val (.int (Int32.ofNat len)), .val (.int (Int32.ofNat len)), z9] [.int (Int32.ofNat len)])) := g9.trans (by
    refine XS.iload X9.here hexec rfl (hb hbytes d3) rfl ?_
    refine XS.iload X9.here hexec rfl (hb hbytes d5) rfl ?_
    refine XS.icmpYes X9.here hexec rfl (pc0 := 7) rfl (hb hbytes d7) rfl (ii_ge_t (nlt32 (by omega) (Nat.le_refl _))) (by decide) rfl ?_
    refine XS.iload X9.here hexec rfl (hb hbytes d44) rfl ?_
    exact Steps.refl _)
  exact ⟨T9, some (.int (Int32.ofNat len)), _, _, _, X9, by simp, rfl, rfl, (fun h => by cases h), ⟨rfl, B9, p9.from hh0, f9⟩, fun fs hl => c11.trans (X9.ireturnOut hexec hret rfl (Or.inl rfl) (hb hbytes d46) hl)⟩
end Cmp5
namespace Cmp3
def yN : MethodName := ⟨"java/lang/StringUTF16", "compress", "([CII)[B"⟩
abbrev yB : ByteArray := jdk_52_method_16_code
theorem d0 : decode yB 0 = .ok (.iload_n 2, 1) := by decide +kernel
theorem d1 : decode yB 1 = .ok (.newarray .byte, 2) := by decide +kernel
theorem d3 : decode yB 3 = .ok (.astore_n 3, 1) := by decide +kernel
theorem d4 : decode yB 4 = .ok (.aload_n 0, 1) := by decide +kernel
theorem d5 : decode yB 5 = .ok (.iload_n 1, 1) := by decide +kernel
theorem d6 : decode yB 6 = .ok (.aload_n 3, 1) := by decide +kernel
theorem d7 : decode yB 7 = .ok (.iconst 0, 1) := by decide +kernel
theorem d8 : decode yB 8 = .ok (.iload_n 2, 1) := by decide +kernel
theorem d9 : decode yB 9 = .ok (.invokestatic 115, 3) := by decide +kernel
theorem d12 : decode yB 12 = .ok (.istore 4, 2) := by decide +kernel
theorem d14 : decode yB 14 = .ok (.iload 4, 2) := by decide +kernel
theorem d16 : decode yB 16 = .ok (.iload_n 2, 1) := by decide +kernel
theorem d17 : decode yB 17 = .ok (.if_icmp (.eq) 40, 3) := by decide +kernel
theorem d57 : decode yB 57 = .ok (.aload_n 3, 1) := by decide +kernel
theorem d58 : decode yB 58 = .ok (.areturn, 1) := by decide +kernel
def site : List Cond := [.arrayClass .byte, Cmp5.tab] ++ staticW U16 115 Cmp5.yN
def tab : Cond := tabOf yN yB 6 (some (.array .byte)) site
def P (b : Addr) (A : Cell) (o len : Nat) (args : Array Value) (s : State) : Prop := args = #[.ref b, .int (Int32.ofNat o), .int (Int32.ofNat len)] ∧ Ch b A s ∧ o + len ≤ A.slots.size ∧ len ≤ 536870912 ∧ ∀ i, i < len → ¬ 255 < cv A (o + i)
def E (b : Addr) (A : Cell) (o len : Nat) (r : Option Value) (s u : State) : Prop := NewArr .byte "[B" len (fun j => .int (lo8 (cv A (o + j)))) r s u ∧ u.heap.size = s.heap.size + 1
/-- no char of the range above 255: a new byte[] of their low bytes -/
theorem law (l : Launch) (b : Addr) (A : Cell) (o len : Nat) : Law l yN 3 3 1 18 yB 6 (some (.array .byte)) site (P b A o len) (E b A o len) [] 1 len := by
  refine Law.of_walk (plainFor_of_name (by decide +kernel)) (by decide +kernel) (by decide +kernel) (by decide) (fun _ _ h => by rw [h.1]; rfl) (fun _ U U' hal hh h => ⟨h.1, h.2.1.mv hal hh, h.2.2⟩) (fun r U U' V V' h1 hal h2 h => ⟨NewArr.mv r U U' V V' h1 hal h2 h.1, by rw [h1, h2]; exact h.2⟩) ?_
  intro p e s m args below meth c s₁ X0 hexec hbytes hml hret hlk hnm hown hh0 W hP
  obtain ⟨rfl, hA, l1, l2, hp⟩ := hP
  have a31 := hA.1.2.2.2
  have c1 : Steps p.tables e below (s₁.setTop (entryFrame m #[.ref b, .int (Int32.ofNat o), .int (Int32.ofNat len)] 6)) (s₁.setTop (mkF m 0 #[.val (.ref b), .val (.int (Int32.ofNat o)), .val (.int (Int32.ofNat len)), .unset, .unset, .unset] [])) := entry rfl
  have c2 : Steps p.tables e below (s₁.setTop (entryFrame m #[.ref b, .int (Int32.ofNat o), .int (Int32.ofNat len)] 6)) (s₁.setTop (mkF m 1 #[.val (.ref b), .val (.int (Int32.ofNat o)), .val (.int (Int32.ofNat len)), .unset, .unset, .unset] [.int (Int32.ofNat len)])) := c1.trans (by
    refine XS.iloadN X0.here hexec rfl (hb hbytes d0) rfl ?_
    exact Steps.refl _)
  obtain ⟨T3, B3, X3, ba3, bs3, bv3, bh3, bf3, st3⟩ := X0.anew hexec (atype := .byte) (wk W (.arrayClass .byte)) rfl (by show len * 1 ≤ _; omega) (by omega) (g := (mkF m 1 #[.val (.ref b), .val (.int (Int32.ofNat o)), .val (.int (Int32.ofNat len)), .unset, .unset, .unset] [.int (Int32.ofNat len)])) rfl (hb hbytes d1) (rest := []) rfl (Nat.le_refl _) (by show 0 + len ≤ len; omega)
  rw [hh0] at ba3 st3
  have kp3 : XT.Kept s T3 := (XT.Kept.of_eq hh0).push bh3
  have hA3 := hA.keep X3.warmed.alike (kp3 _ _ hA.1.1)
  have hne : b ≠ s.heap.size := hA.1.ne
  have c4 : Steps p.tables e below (s₁.setTop (entryFrame m #[.ref b, .int (Int32.ofNat o), .int (Int32.ofNat len)] 6)) (T3.setTop (mkF m 3 #[.val (.ref b), .val (.int (Int32.ofNat o)), .val (.int (Int32.ofNat len)), .unset, .unset, .unset] [.ref s.heap.size])) := c2.trans (st3 _ (Steps.refl _))
  have c5 : Steps p.tables e below (s₁.setTop (entryFrame m #[.ref b, .int (Int32.ofNat o), .int (Int32.ofNat len)] 6)) (T3.setTop (mkF m 9 #[.val (.ref b), .val (.int (Int32.ofNat o)), .val (.int (Int32.ofNat len)), .val (.ref s.heap.size), .unset, .unset] [.int (Int32.ofNat len), .int 0, .ref s.heap.size, .int (Int32.ofNat o), .ref b])) := c4.trans (by
    refine XS.astoreN X3.here hexec rfl (hb hbytes d3) rfl rfl rfl ?_
    refine XS.aloadN X3.here hexec rfl (hb hbytes d4) rfl rfl ?_
    refine XS.iloadN X3.here hexec rfl (hb hbytes d5) rfl ?_
    refine XS.aloadN X3.here hexec rfl (hb hbytes d6) rfl rfl ?_
    refine iconstV X3.here hexec rfl 0 (hb hbytes d7) (by decide) ?_
    refine XS.iloadN X3.here hexec rfl (hb hbytes d8) rfl ?_
    exact Steps.refl _)
  obtain ⟨v6, T6, X6, E6, g6⟩ := X3.callS hexec (Cmp5.law l b A s.heap.size B3 o 0 len) hown (wks W (staticW U16 115 Cmp5.yN)) (wk W Cmp5.tab) (W := 0) (Nat.le_of_ble_eq_true rfl) (Nat.le_of_ble_eq_true rfl) (Nat.le_refl _) (by show 0 + len + 0 ≤ len; omega) (g := (mkF m 9 #[.val (.ref b), .val (.int (Int32.ofNat o)), .val (.int (Int32.ofNat len)), .val (.ref s.heap.size), .unset, .unset] [.int (Int32.ofNat len), .int (Int32.ofNat 0), .ref s.heap.size, .int (Int32.ofNat o), .ref b])) rfl (by rw [hml]; rfl) c5 (argsL := [.ref b, .int (Int32.ofNat o), .ref s.heap.size, .int (Int32.ofNat 0), .int (Int32.ofNat len)]) (rest := []) rfl rfl (by show 2 * 0 + 0 ≤ _; decide) (hb hbytes d9) (⟨rfl, hA3, ba3, hne, l1, by rw [bs3]; simp, hp⟩)
  obtain ⟨rfl, B6, p6, f6⟩ := E6
  have c7 : Steps p.tables e below (s₁.setTop (entryFrame m #[.ref b, .int (Int32.ofNat o), .int (Int32.ofNat len)] 6)) (T6.setTop (mkF m 12 #[.val (.ref b), .val (.int (Int32.ofNat o)), .val (.int (Int32.ofNat len)), .val (.ref s.heap.size), .unset, .unset] [.int (Int32.ofNat len)])) := g6
  have c8 : Steps p.tables e below (s₁.setTop (entryFrame m #[.ref b, .int (Int32.ofNat o), .int (Int32.ofNat len)] 6)) (T6.setTop (mkF m 58 #[.val (.ref b), .val (.int (Int32.ofNat o)), .val (.int (Int32.ofNat len)), .val (.ref s.heap.size), .val (.int (Int32.ofNat len)), .unset] [.ref s.heap.size])) := c7.trans (by
    refine XS.istore X6.here hexec rfl (hb hbytes d12) rfl rfl ?_
    refine XS.iload X6.here hexec rfl (hb hbytes d14) rfl ?_
    refine XS.iloadN X6.here hexec rfl (hb hbytes d16) rfl ?_
    refine XS.icmpYes X6.here hexec rfl (pc0 := 17) rfl (hb hbytes d17) rfl (ii_eq_t rfl) (by decide) rfl ?_
    refine XS.aloadN X6.here hexec rfl (hb hbytes d57) rfl rfl ?_
    exact Steps.refl _)
  have X8 := X6.wide (L' := []) (cells' := 1) (slots' := len) (fun x hx hlt => by
    simp only [List.nil_append, copyLocs, List.mem_map, List.mem_range] at hx
    obtain ⟨i, -, rfl⟩ := hx
    exact absurd hlt (Nat.lt_irrefl _)) (Nat.le_refl _) (by omega)
  exact ⟨T6, some (.ref s.heap.size), _, _, _, X8, rfl, rfl, rfl, (fun h => by cases h), ⟨⟨rfl, B6, ba3.like (X3.warmed.alike.symm.trans X6.warmed.alike) p6.1 f6.1 f6.2.1 f6.2.2.1, f6.2.1.trans bv3, by rw [X6.warmed.alike.findClass, f6.1]; exact bf3, by rw [f6.2.2.1, bs3]; simp, fun j hj => by rw [f6.2.2.2 j, if_pos (by omega)]; rfl, kp3.put p6 (Nat.le_refl _)⟩, by rw [p6.2.2, bh3, hh0]; simp⟩, fun fs hl => c8.trans (X8.areturnOut hexec rfl hret rfl (hb hbytes d58) hl)⟩
end Cmp3
namespace CodL
def yN : MethodName := ⟨"java/lang/StringUTF16", "coderFromArrayLen", "([BI)B"⟩
abbrev yB : ByteArray := jdk_52_method_15_code
theorem d0 : decode yB 0 = .ok (.iload_n 1, 1) := by decide +kernel
theorem d1 : decode yB 1 = .ok (.aload_n 0, 1) := by decide +kernel
theorem d2 : decode yB 2 = .ok (.arraylength, 1) := by decide +kernel
theorem d3 : decode yB 3 = .ok (.isub, 1) := by decide +kernel
theorem d4 : decode yB 4 = .ok (.bipush 31, 2) := by decide +kernel
theorem d6 : decode yB 6 = .ok (.iushr, 1) := by decide +kernel
theorem d7 : decode yB 7 = .ok (.i2b, 1) := by decide +kernel
theorem d8 : decode yB 8 = .ok (.ireturn, 1) := by decide +kernel
def site : List Cond := []
def tab : Cond := tabOf yN yB 2 (some .byte) site
def P (d : Addr) (B : Cell) (args : Array Value) (s : State) : Prop := args = #[.ref d, .int (Int32.ofNat B.slots.size)] ∧ Arr .byte d B s
def E (r : Option Value) (s u : State) : Prop := XT.PureE (some (.int 0)) r s u
/-- an array as long as the number of chars: LATIN1 -/
theorem law (l : Launch) (d : Addr) (B : Cell) : Law l yN 2 2 0 0 yB 2 (some .byte) site (P d B) E [] 0 0 := by
  refine Law.of_walk (plainFor_of_name (by decide +kernel)) (by decide +kernel) (by decide +kernel) (by decide) (fun _ _ h => by rw [h.1]; rfl) (fun _ U U' hal hh h => ⟨h.1, h.2.mv hal hh⟩) (fun r U U' V V' h1 hal h2 h => XT.PureE.mv r U U' V V' h1 hal h2 h) ?_
  intro p e s m args below meth c s₁ X0 hexec hbytes hml hret hlk hnm hown hh0 W hP
  obtain ⟨rfl, hB⟩ := hP
  have hB0 := hB.mv X0.warmed.alike hh0
  have c1 : Steps p.tables e below (s₁.setTop (entryFrame m #[.ref d, .int (Int32.ofNat B.slots.size)] 2)) (s₁.setTop (mkF m 0 #[.val (.ref d), .val (.int (Int32.ofNat B.slots.size))] [])) := entry rfl
  have c2 : Steps p.tables e below (s₁.setTop (entryFrame m #[.ref d, .int (Int32.ofNat B.slots.size)] 2)) (s₁.setTop (mkF m 2 #[.val (.ref d), .val (.int (Int32.ofNat B.slots.size))] [.ref d, .int (Int32.ofNat B.slots.size)])) := c1.trans (by
    refine XS.iloadN X0.here hexec rfl (hb hbytes d0) rfl ?_
    refine XS.aloadN X0.here hexec rfl (hb hbytes d1) rfl rfl ?_
    exact Steps.refl _)
  have c3 : Steps p.tables e below (s₁.setTop (entryFrame m #[.ref d, .int (Int32.ofNat B.slots.size)] 2)) (s₁.setTop (mkF m 8 #[.val (.ref d), .val (.int (Int32.ofNat B.slots.size))] [.int (lo8 (ushr (Int32.ofNat B.slots.size - Int32.ofNat B.slots.size) 31))])) := c2.trans (by
    refine X0.alen hexec hB0 rfl rfl (hb hbytes d2) ?_
    refine XS.isub X0.here hexec rfl (hb hbytes d3) rfl ?_
    refine bipushV X0.here hexec rfl 31 (hb hbytes d4) (by decide) ?_
    refine iushr X0.here hexec rfl (hb hbytes d6) rfl ?_
    refine i2b X0.here hexec rfl (hb hbytes d7) rfl ?_
    exact Steps.refl _)
  have e0 : lo8 (ushr (Int32.ofNat B.slots.size - Int32.ofNat B.slots.size) 31) = 0 := by rw [Int32.sub_self]; decide
  rw [e0] at c3
  exact ⟨s₁, some (.int 0), _, _, _, X0, rfl, rfl, rfl, (fun h => by cases h), ⟨rfl, hh0⟩, fun fs hl => c3.trans (X0.ireturnOut hexec hret rfl (Or.inr (Or.inr (Or.inl rfl))) (hb hbytes d8) hl)⟩
end CodL
/-- the String at a is Latin-1 over a new byte[] (the heap's one new cell): the low bytes of the len chars of A from o on; every cell but a is kept -/
def Got (a : Addr) (D : Cell) (fV fC : Field) (A : Cell) (o len : Nat) (r : Option Value) (s u : State) : Prop := r = none ∧ ∃ D' V : Cell, Blank "java/lang/String" a D' u ∧ Same D D' [fV.slot, fC.slot] ∧ D'.slots[fV.slot]? = some (.ref s.heap.size) ∧ D'.slots[fC.slot]? = some (.int 0) ∧ Arr .byte s.heap.size V u ∧ V.vm = .none ∧ u.vm.findClass "[B" = some V.cls ∧ V.slots.size = len ∧ (∀ j, j < len → V.slots[j]? = some (.int (lo8 (cv A (o + j))))) ∧ (∀ (y : Addr) (c : Cell), y ≠ a → s.heap[y]? = some c → u.heap[y]? = some c) ∧ u.heap.size = s.heap.size + 1
theorem Got.mv {a : Addr} {D A : Cell} {fV fC : Field} {o len : Nat} : ∀ r (U U' V V' : State), U'.heap = U.heap → V.vm.Alike V'.vm → V'.heap = V.heap → Got a D fV fC A o len r U V → Got a D fV fC A o len r U' V' :=
  fun r U U' V V' h1 hal h2 ⟨e0, D', X, a1, a2, a3, a4, a5, a6, a7, a8, a9, a10, a11⟩ => ⟨e0, D', X, a1.mv hal h2, a2, by rw [h1]; exact a3, a4, by rw [h1]; exact a5.mv hal h2, a6, by rw [hal.findClass]; exact a7, a8, a9, by rw [h1, h2]; exact a10, by rw [h1, h2]; exact a11⟩
namespace New4
def yN : MethodName := ⟨"java/lang/String", "<init>", "([CIILjava/lang/Void;)V"⟩
abbrev yB : ByteArray := jdk_42_method_149_code
theorem d0 : decode yB 0 = .ok (.aload_n 0, 1) := by decide +kernel
theorem d1 : decode yB 1 = .ok (.invokespecial 1, 3) := by decide +kernel
theorem d4 : decode yB 4 = .ok (.iload_n 3, 1) := by decide +kernel
theorem d5 : decode yB 5 = .ok (.ifCond (.ne) 22, 3) := by decide +kernel
theorem d27 : decode yB 27 = .ok (.getstatic 38, 3) := by decide +kernel
theorem d30 : decode yB 30 = .ok (.ifCond (.eq) 28, 3) := by decide +kernel
theorem d33 : decode yB 33 = .ok (.aload_n 1, 1) := by decide +kernel
theorem d34 : decode yB 34 = .ok (.iload_n 2, 1) := by decide +kernel
theorem d35 : decode yB 35 = .ok (.iload_n 3, 1) := by decide +kernel
theorem d36 : decode yB 36 = .ok (.invokestatic 177, 3) := by decide +kernel
theorem d39 : decode yB 39 = .ok (.astore 5, 2) := by decide +kernel
theorem d41 : decode yB 41 = .ok (.aload_n 0, 1) := by decide +kernel
theorem d42 : decode yB 42 = .ok (.aload 5, 2) := by decide +kernel
theorem d44 : decode yB 44 = .ok (.iload_n 3, 1) := by decide +kernel
theorem d45 : decode yB 45 = .ok (.invokestatic 47, 3) := by decide +kernel
theorem d48 : decode yB 48 = .ok (.putfield 15, 3) := by decide +kernel
theorem d51 : decode yB 51 = .ok (.aload_n 0, 1) := by decide +kernel
theorem d52 : decode yB 52 = .ok (.aload 5, 2) := by decide +kernel
theorem d54 : decode yB 54 = .ok (.putfield 9, 3) := by decide +kernel
theorem d57 : decode yB 57 = .ok (.return_, 1) := by decide +kernel
def site : List Cond := [.fieldLink "java/lang/String" 38 "java/lang/String" "COMPACT_STRINGS" "Z", Cmp3.tab, CodL.tab, .laysFinal "java/lang/String" "java/lang/String" "value" "[B", .fieldLink "java/lang/String" 9 "java/lang/String" "value" "[B", .laysFinal "java/lang/String" "java/lang/String" "coder" "B", .fieldLink "java/lang/String" 15 "java/lang/String" "coder" "B"] ++ objW "java/lang/String" 1 ++ staticW "java/lang/String" 177 Cmp3.yN ++ staticW "java/lang/String" 47 CodL.yN
def tab : Cond := tabOf yN yB 6 none site
def P (a : Addr) (D : Cell) (fV fC : Field) (b : Addr) (A : Cell) (z : Int32) (o len : Nat) (args : Array Value) (s : State) : Prop := args = #[.ref a, .ref b, .int (Int32.ofNat o), .int (Int32.ofNat len), .null] ∧ Blank "java/lang/String" a D s ∧ Found "java/lang/String" "value" "[B" fV s ∧ Found "java/lang/String" "coder" "B" fC s ∧ Ch b A s ∧ StaticIs s "java/lang/String" "COMPACT_STRINGS" "Z" (.int z) ∧ ¬ z = 0 ∧ 0 < len ∧ o + len ≤ A.slots.size ∧ len ≤ 536870912 ∧ ∀ i, i < len → ¬ 255 < cv A (o + i)
def E (a : Addr) (D : Cell) (fV fC : Field) (A : Cell) (o len : Nat) (r : Option Value) (s u : State) : Prop := Got a D fV fC A o len r s u
/-- len > 0, no char of the range above 255: a Latin-1 String of their low bytes -/
theorem law (l : Launch) (a : Addr) (D : Cell) (fV fC : Field) (b : Addr) (A : Cell) (z : Int32) (o len : Nat) : Law l yN 5 4 2 35 yB 6 none site (P a D fV fC b A z o len) (E a D fV fC A o len) [⟨a, fC.slot⟩, ⟨a, fV.slot⟩] 1 len := by
  refine Law.of_walk (plainFor_of_name (by decide +kernel)) (by decide +kernel) (by decide +kernel) (by decide) (fun _ _ h => by rw [h.1]; rfl) (fun _ U U' hal hh h => ⟨h.1, h.2.1.mv hal hh, h.2.2.1.al hal, h.2.2.2.1.al hal, h.2.2.2.2.1.mv hal hh, h.2.2.2.2.2.1.there hal hh, h.2.2.2.2.2.2⟩) (fun r U U' V V' h1 hal h2 h => Got.mv r U U' V V' h1 hal h2 h) ?_
  intro p e s m args below meth c s₁ X0 hexec hbytes hml hret hlk hnm hown hh0 W hP
  obtain ⟨rfl, hB, f1, f2, hA, s1, hz, l0, l1, l2, hp⟩ := hP
  have a31 := hA.1.2.2.2
  have c1 : Steps p.tables e below (s₁.setTop (entryFrame m #[.ref a, .ref b, .int (Int32.ofNat o), .int (Int32.ofNat len), .null] 6)) (s₁.setTop (mkF m 0 #[.val (.ref a), .val (.ref b), .val (.int (Int32.ofNat o)), .val (.int (Int32.ofNat len)), .val .null, .unset] [])) := entry rfl
  have c2 : Steps p.tables e below (s₁.setTop (entryFrame m #[.ref a, .ref b, .int (Int32.ofNat o), .int (Int32.ofNat len), .null] 6)) (s₁.setTop (mkF m 1 #[.val (.ref a), .val (.ref b), .val (.int (Int32.ofNat o)), .val (.int (Int32.ofNat len)), .val .null, .unset] [.ref a])) := c1.trans (by
    refine XS.aloadN X0.here hexec rfl (hb hbytes d0) rfl rfl ?_
    exact Steps.refl _)
  obtain ⟨T3, X3, q3, st3⟩ := X0.oinit hexec hown (wks W (objW "java/lang/String" 1)) (g := (mkF m 1 #[.val (.ref a), .val (.ref b), .val (.int (Int32.ofNat o)), .val (.int (Int32.ofNat len)), .val .null, .unset] [.ref a])) rfl (by rw [hml]; rfl) (rest := []) rfl (hb hbytes d1) (W := 0) (by show 2 * 0 + 0 ≤ _; decide) (Nat.le_of_ble_eq_true rfl) (Nat.le_of_ble_eq_true rfl)
  have hh3 := q3.trans hh0
  have c4 : Steps p.tables e below (s₁.setTop (entryFrame m #[.ref a, .ref b, .int (Int32.ofNat o), .int (Int32.ofNat len), .null] 6)) (T3.setTop (mkF m 27 #[.val (.ref a), .val (.ref b), .val (.int (Int32.ofNat o)), .val (.int (Int32.ofNat len)), .val .null, .unset] [])) := (c2.trans (st3 _ (Steps.refl _))).trans (by
    refine XS.iloadN X3.here hexec rfl (hb hbytes d4) rfl ?_
    refine XS.ifYes X3.here hexec rfl (pc0 := 5) rfl (hb hbytes d5) rfl (i0_ne_t (nz32 (by omega) l0)) (by decide) rfl ?_
    exact Steps.refl _)
  obtain ⟨T5, X5, q5, st5⟩ := X3.sget hexec hown (wk W (.fieldLink "java/lang/String" 38 "java/lang/String" "COMPACT_STRINGS" "Z")) s1 (fun _ _ h => by rw [hh3]; exact h) (g := (mkF m 27 #[.val (.ref a), .val (.ref b), .val (.int (Int32.ofNat o)), .val (.int (Int32.ofNat len)), .val .null, .unset] [])) rfl (hb hbytes d27)
  have hh5 := q5.trans hh3
  have c6 : Steps p.tables e below (s₁.setTop (entryFrame m #[.ref a, .ref b, .int (Int32.ofNat o), .int (Int32.ofNat len), .null] 6)) (T5.setTop (mkF m 30 #[.val (.ref a), .val (.ref b), .val (.int (Int32.ofNat o)), .val (.int (Int32.ofNat len)), .val .null, .unset] [.int z])) := c4.trans (st5 _ (Steps.refl _))
  have c7 : Steps p.tables e below (s₁.setTop (entryFrame m #[.ref a, .ref b, .int (Int32.ofNat o), .int (Int32.ofNat len), .null] 6)) (T5.setTop (mkF m 36 #[.val (.ref a), .val (.ref b), .val (.int (Int32.ofNat o)), .val (.int (Int32.ofNat len)), .val .null, .unset] [.int (Int32.ofNat len), .int (Int32.ofNat o), .ref b])) := c6.trans (by
    refine XS.ifNo X5.here hexec rfl (hb hbytes d30) rfl (i0_eq_f hz) ?_
    refine XS.aloadN X5.here hexec rfl (hb hbytes d33) rfl rfl ?_
    refine XS.iloadN X5.here hexec rfl (hb hbytes d34) rfl ?_
    refine XS.iloadN X5.here hexec rfl (hb hbytes d35) rfl ?_
    exact Steps.refl _)
  obtain ⟨v8, T8, X8, E8, g8⟩ := X5.callS hexec (Cmp3.law l b A o len) hown (wks W (staticW "java/lang/String" 177 Cmp3.yN)) (wk W Cmp3.tab) (W := 0) (Nat.le_of_ble_eq_true rfl) (Nat.le_of_ble_eq_true rfl) (Nat.le_refl _) (by show 0 + len ≤ len; omega) (g := (mkF m 36 #[.val (.ref a), .val (.ref b), .val (.int (Int32.ofNat o)), .val (.int (Int32.ofNat len)), .val .null, .unset] [.int (Int32.ofNat len), .int (Int32.ofNat o), .ref b])) rfl (by rw [hml]; rfl) c7 (argsL := [.ref b, .int (Int32.ofNat o), .int (Int32.ofNat len)]) (rest := []) rfl rfl (by show 2 * 0 + 0 ≤ _; decide) (hb hbytes d36) (⟨rfl, hA.mv X5.warmed.alike hh5, l1, l2, hp⟩)
  obtain ⟨e8, z8⟩ := E8
  obtain ⟨rfl, N, n1, n2, n3, n4, n5, n6⟩ := NewArr.mv _ T5 s _ _ hh5.symm (Vm.Alike.refl _) rfl e8
  rw [hh5] at z8
  have hB1 := hB.keep X8.warmed.alike (n6 _ _ hB.1)
  have hne : s.heap.size ≠ a := (Nat.ne_of_lt (Array.getElem?_eq_some_iff.mp hB.1).1).symm
  have c9 : Steps p.tables e below (s₁.setTop (entryFrame m #[.ref a, .ref b, .int (Int32.ofNat o), .int (Int32.ofNat len), .null] 6)) (T8.setTop (mkF m 39 #[.val (.ref a), .val (.ref b), .val (.int (Int32.ofNat o)), .val (.int (Int32.ofNat len)), .val .null, .unset] [.ref s.heap.size])) := g8
  have c10 : Steps p.tables e below (s₁.setTop (entryFrame m #[.ref a, .ref b, .int (Int32.ofNat o), .int (Int32.ofNat len), .null] 6)) (T8.setTop (mkF m 45 #[.val (.ref a), .val (.ref b), .val (.int (Int32.ofNat o)), .val (.int (Int32.ofNat len)), .val .null, .val (.ref s.heap.size)] [.int (Int32.ofNat N.slots.size), .ref s.heap.size, .ref a])) := by
    have hc : Steps p.tables e below (s₁.setTop (entryFrame m #[.ref a, .ref b, .int (Int32.ofNat o), .int (Int32.ofNat len), .null] 6)) (T8.setTop (mkF m 45 #[.val (.ref a), .val (.ref b), .val (.int (Int32.ofNat o)), .val (.int (Int32.ofNat len)), .val .null, .val (.ref s.heap.size)] [.int (Int32.ofNat len), .ref s.heap.size, .ref a])) := c9.trans (by
      refine XS.astore X8.here hexec rfl (hb hbytes d39) rfl rfl rfl ?_
      refine XS.aloadN X8.here hexec rfl (hb hbytes d41) rfl rfl ?_
      refine XS.aload X8.here hexec rfl (hb hbytes d42) rfl rfl ?_
      refine XS.iloadN X8.here hexec rfl (hb hbytes d44) rfl ?_
      exact Steps.refl _)
    rw [n4]; exact hc
  obtain ⟨v11, T11, X11, E11, g11⟩ := X8.callS hexec (CodL.law l s.heap.size N) hown (wks W (staticW "java/lang/String" 47 CodL.yN)) (wk W CodL.tab) (W := 1) (Nat.le_of_ble_eq_true rfl) (Nat.le_of_ble_eq_true rfl) (Nat.le_refl _) (by show 0 + len + 0 ≤ len; omega) (g := (mkF m 45 #[.val (.ref a), .val (.ref b), .val (.int (Int32.ofNat o)), .val (.int (Int32.ofNat len)), .val .null, .val (.ref s.heap.size)] [.int (Int32.ofNat N.slots.size), .ref s.heap.size, .ref a])) rfl (by rw [hml]; rfl) c10 (argsL := [.ref s.heap.size, .int (Int32.ofNat N.slots.size)]) (rest := [.ref a]) rfl rfl (by show 2 * 0 + (1 + 0) ≤ _; decide) (hb hbytes d45) (⟨rfl, n1⟩)
  obtain ⟨rfl, q11⟩ := E11
  have hB11 := hB1.mv (X8.warmed.alike.symm.trans X11.warmed.alike) q11
  have c12 : Steps p.tables e below (s₁.setTop (entryFrame m #[.ref a, .ref b, .int (Int32.ofNat o), .int (Int32.ofNat len), .null] 6)) (T11.setTop (mkF m 48 #[.val (.ref a), .val (.ref b), .val (.int (Int32.ofNat o)), .val (.int (Int32.ofNat len)), .val .null, .val (.ref s.heap.size)] [.int 0, .ref a])) := g11
  obtain ⟨T13, X13, p13, bl13, sl13, st13⟩ := X11.finit hexec hown (wk W (.fieldLink "java/lang/String" 15 "java/lang/String" "coder" "B")) (Or.inr ⟨_, (wk W (.laysFinal "java/lang/String" "java/lang/String" "coder" "B"))⟩) (Or.inl ⟨rfl, hnm⟩) f2 (Or.inl rfl) hB11 (t := .byte) (by decide +kernel) rfl (g := (mkF m 48 #[.val (.ref a), .val (.ref b), .val (.int (Int32.ofNat o)), .val (.int (Int32.ofNat len)), .val .null, .val (.ref s.heap.size)] [.int 0, .ref a])) rfl (rest := []) rfl (hb hbytes d48)
  have c14 : Steps p.tables e below (s₁.setTop (entryFrame m #[.ref a, .ref b, .int (Int32.ofNat o), .int (Int32.ofNat len), .null] 6)) (T13.setTop (mkF m 54 #[.val (.ref a), .val (.ref b), .val (.int (Int32.ofNat o)), .val (.int (Int32.ofNat len)), .val .null, .val (.ref s.heap.size)] [.ref s.heap.size, .ref a])) := (c12.trans (st13 _ (Steps.refl _))).trans (by
    refine XS.aloadN X13.here hexec rfl (hb hbytes d51) rfl rfl ?_
    refine XS.aload X13.here hexec rfl (hb hbytes d52) rfl rfl ?_
    exact Steps.refl _)
  obtain ⟨T15, X15, p15, bl15, sl15, st15⟩ := X13.finit hexec hown (wk W (.fieldLink "java/lang/String" 9 "java/lang/String" "value" "[B")) (Or.inr ⟨_, (wk W (.laysFinal "java/lang/String" "java/lang/String" "value" "[B"))⟩) (Or.inl ⟨rfl, hnm⟩) f1 (Or.inl rfl) bl13 (t := (.array .byte)) (by decide +kernel) rfl (g := (mkF m 54 #[.val (.ref a), .val (.ref b), .val (.int (Int32.ofNat o)), .val (.int (Int32.ofNat len)), .val .null, .val (.ref s.heap.size)] [.ref s.heap.size, .ref a])) rfl (rest := []) rfl (hb hbytes d54)
  have c16 : Steps p.tables e below (s₁.setTop (entryFrame m #[.ref a, .ref b, .int (Int32.ofNat o), .int (Int32.ofNat len), .null] 6)) (T15.setTop (mkF m 57 #[.val (.ref a), .val (.ref b), .val (.int (Int32.ofNat o)), .val (.int (Int32.ofNat len)), .val .null, .val (.ref s.heap.size)] [])) := c14.trans (st15 _ (Steps.refl _))
  have ap := apart (Or.inr ⟨_, (wk W (.laysFinal "java/lang/String" "java/lang/String" "value" "[B"))⟩) (Or.inr ⟨_, (wk W (.laysFinal "java/lang/String" "java/lang/String" "coder" "B"))⟩) f1 f2 (t₁ := .array .byte) (t₂ := .byte) (by decide +kernel) (by decide +kernel) (by decide)
  have al := X8.warmed.alike.symm.trans X15.warmed.alike
  have n7 : T11.heap[s.heap.size]? = some N := by rw [q11]; exact n1.1
  exact ⟨T15, none, _, _, _, X15, by simp, rfl, by omega, (fun _ => rfl), ⟨rfl, _, N, bl15, ((Same.refl D _).set _ (by simp)).set _ (by simp), sl15, (Cell.slots_setSlot_ne _ ap).trans sl13, n1.keep al (p15.other hne (p13.other hne n7)), n2, by rw [al.findClass]; exact n3, n4, n5, fun y c h1 h2 => p15.other h1 (p13.other h1 (by rw [q11]; exact n6 y c h2)), by rw [p15.2.2, p13.2.2, q11]; exact z8⟩, fun fs hl => c16.trans (X15.returnOut hexec hret (hb hbytes d57) hl)⟩
end New4
namespace New1
def yN : MethodName := ⟨"java/lang/String", "<init>", "([C)V"⟩
abbrev yB : ByteArray := jdk_42_method_3_code
theorem d0 : decode yB 0 = .ok (.aload_n 0, 1) := by decide +kernel
theorem d1 : decode yB 1 = .ok (.aload_n 1, 1) := by decide +kernel
theorem d2 : decode yB 2 = .ok (.iconst 0, 1) := by decide +kernel
theorem d3 : decode yB 3 = .ok (.aload_n 1, 1) := by decide +kernel
theorem d4 : decode yB 4 = .ok (.arraylength, 1) := by decide +kernel
theorem d5 : decode yB 5 = .ok (.aconst_null, 1) := by decide +kernel
theorem d6 : decode yB 6 = .ok (.invokespecial 27, 3) := by decide +kernel
theorem d9 : decode yB 9 = .ok (.return_, 1) := by decide +kernel
def site : List Cond := [New4.tab] ++ initW "java/lang/String" 27 New4.yN
def tab : Cond := tabOf yN yB 2 none site
def P (a : Addr) (D : Cell) (fV fC : Field) (b : Addr) (A : Cell) (z : Int32) (args : Array Value) (s : State) : Prop := args = #[.ref a, .ref b] ∧ Blank "java/lang/String" a D s ∧ Found "java/lang/String" "value" "[B" fV s ∧ Found "java/lang/String" "coder" "B" fC s ∧ Ch b A s ∧ StaticIs s "java/lang/String" "COMPACT_STRINGS" "Z" (.int z) ∧ ¬ z = 0 ∧ 0 < A.slots.size ∧ A.slots.size ≤ 536870912 ∧ ∀ i, i < A.slots.size → ¬ 255 < cv A i
def E (a : Addr) (D : Cell) (fV fC : Field) (A : Cell) (r : Option Value) (s u : State) : Prop := Got a D fV fC A 0 A.slots.size r s u
/-- new String(chars), not empty, no char above 255: a Latin-1 String of their low bytes -/
theorem law (l : Launch) (a : Addr) (D : Cell) (fV fC : Field) (b : Addr) (A : Cell) (z : Int32) : Law l yN 2 1 3 52 yB 2 none site (P a D fV fC b A z) (E a D fV fC A) [⟨a, fC.slot⟩, ⟨a, fV.slot⟩] 1 A.slots.size := by
  refine Law.of_walk (plainFor_of_name (by decide +kernel)) (by decide +kernel) (by decide +kernel) (by decide) (fun _ _ h => by rw [h.1]; rfl) (fun _ U U' hal hh h => ⟨h.1, h.2.1.mv hal hh, h.2.2.1.al hal, h.2.2.2.1.al hal, h.2.2.2.2.1.mv hal hh, h.2.2.2.2.2.1.there hal hh, h.2.2.2.2.2.2⟩) (fun r U U' V V' h1 hal h2 h => Got.mv r U U' V V' h1 hal h2 h) ?_
  intro p e s m args below meth c s₁ X0 hexec hbytes hml hret hlk hnm hown hh0 W hP
  obtain ⟨rfl, hB, f1, f2, hA, s1, hz, l0, l2, hp⟩ := hP
  have c1 : Steps p.tables e below (s₁.setTop (entryFrame m #[.ref a, .ref b] 2)) (s₁.setTop (mkF m 0 #[.val (.ref a), .val (.ref b)] [])) := entry rfl
  have c2 : Steps p.tables e below (s₁.setTop (entryFrame m #[.ref a, .ref b] 2)) (s₁.setTop (mkF m 6 #[.val (.ref a), .val (.ref b)] [.null, .int (Int32.ofNat A.slots.size), .int 0, .ref b, .ref a])) := c1.trans (by
    refine XS.aloadN X0.here hexec rfl (hb hbytes d0) rfl rfl ?_
    refine XS.aloadN X0.here hexec rfl (hb hbytes d1) rfl rfl ?_
    refine iconstV X0.here hexec rfl 0 (hb hbytes d2) (by decide) ?_
    refine XS.aloadN X0.here hexec rfl (hb hbytes d3) rfl rfl ?_
    refine X0.alen hexec (hA.1.mv X0.warmed.alike hh0) rfl rfl (hb hbytes d4) ?_
    refine XS.aconstNull X0.here hexec rfl (hb hbytes d5) ?_
    exact Steps.refl _)
  obtain ⟨v3, T3, X3, E3, g3⟩ := X0.callN hexec (New4.law l a D fV fC b A z 0 A.slots.size) rfl hown (wks W (initW "java/lang/String" 27 New4.yN)) (W New4.tab (by simp only [site, List.mem_cons, List.mem_append, true_or, or_true])) (W := 0) (Nat.le_of_ble_eq_true rfl) (Nat.le_of_ble_eq_true rfl) (Nat.le_refl _) (by show 0 + A.slots.size ≤ A.slots.size; omega) (g := (mkF m 6 #[.val (.ref a), .val (.ref b)] [.null, .int (Int32.ofNat A.slots.size), .int (Int32.ofNat 0), .ref b, .ref a])) rfl (by rw [hml]; rfl) c2 (argsL := [.ref b, .int (Int32.ofNat 0), .int (Int32.ofNat A.slots.size), .null]) (rest := []) rfl rfl (by show 2 * 0 + 0 ≤ _; decide) (hb hbytes d6) (⟨rfl, hB.mv X0.warmed.alike hh0, f1.al X0.warmed.alike, f2.al X0.warmed.alike, hA.mv X0.warmed.alike hh0, s1.there X0.warmed.alike hh0, hz, l0, by omega, l2, fun i hi => by rw [Nat.zero_add]; exact hp i hi⟩)
  have e0 := Got.mv _ s₁ s _ _ hh0.symm (Vm.Alike.refl _) rfl E3
  obtain rfl := e0.1
  have c4 : Steps p.tables e below (s₁.setTop (entryFrame m #[.ref a, .ref b] 2)) (T3.setTop (mkF m 9 #[.val (.ref a), .val (.ref b)] [])) := g3
  exact ⟨T3, none, _, _, _, X3, by simp, rfl, by omega, (fun _ => rfl), e0, fun fs hl => c4.trans (X3.returnOut hexec hret (hb hbytes d9) hl)⟩
theorem pays {l : Launch} {R : Room} {p : Program} {e : Env} {below : List Frame} {s : State} {sargs : Array Value} {len W : Nat} (a : Addr) (D : Cell) (fV fC : Field) (b : Addr) (A : Cell) (z : Int32) (htab : tab.before sargs s = true) (hfr : 4 ≤ R.frames) (hlo : W + 65 ≤ R.locals) :
    Back l R p e below s sargs yN len W (fun A₁ a₁ => A₁.cells + 1 ≤ R.cells ∧ A₁.slots + A.slots.size ≤ R.slots ∧ P a D fV fC b A z a₁ A₁.U) (fun A₁ _ v₁ B₁ => E a D fV fC A v₁ A₁.U B₁.U ∧ B₁.locs = A₁.locs ++ [⟨a, fC.slot⟩, ⟨a, fV.slot⟩] ∧ B₁.cells = A₁.cells + 1 ∧ B₁.slots = A₁.slots + A.slots.size) :=
  (law l a D fV fC b A z).pays htab hfr (by omega)
end New1
/-- the byte, read back as charAt reads it, is the char -/
theorem lo8_mask {x : Int32} (h0 : ¬ x < 0) (h1 : ¬ 255 < x) : lo8 x &&& 255 = x := by
  have t : ∀ k : Fin 256, lo8 (Int32.ofNat k.val) &&& 255 = Int32.ofNat k.val := by decide +kernel
  rw [Int32.lt_iff_toInt_lt] at h0 h1
  have e0 : (0 : Int32).toInt = 0 := rfl
  have e1 : (255 : Int32).toInt = 255 := rfl
  obtain ⟨k, hk⟩ : ∃ k : Nat, x.toInt = k := ⟨x.toInt.toNat, by omega⟩
  have hx : x = Int32.ofNat k := Int32.toInt_inj.mp (by rw [hk, Int32.toInt_ofNat_small (by omega)])
  rw [hx]
  exact t ⟨k, by omega⟩
end StrChars
namespace StrChars.Road
open Jvm Sem ClassFile Op Lib Jvm.Stand Jvm.Free Jvm.Free.XT
open Jvm.Lib.Cold (StaticIs)
abbrev ST : String := "java/lang/String"
/-- every table word that New1's law asks, flat -/
abbrev words : List Jvm.Cond := [.code New1.yN New1.yB 2 none, .initialized ST, .methodLink ST 27 New4.yN, .instanceMethod New4.yN,
  .code New4.yN New4.yB 6 none, .fieldLink ST 38 ST "COMPACT_STRINGS" "Z", .laysFinal ST ST "value" "[B", .fieldLink ST 9 ST "value" "[B", .laysFinal ST ST "coder" "B", .fieldLink ST 15 ST "coder" "B",
  .methodLink ST 1 Lib.objectInit, .instanceMethod Lib.objectInit, .code Lib.objectInit ⟨#[0xb1]⟩ 1 none, .methodLink ST 177 Cmp3.yN, .static Cmp3.yN, .methodLink ST 47 CodL.yN, .static CodL.yN,
  .code Cmp3.yN Cmp3.yB 6 (some (.array .byte)), .initialized U16, .arrayClass .byte, .methodLink U16 115 Cmp5.yN, .static Cmp5.yN, .code Cmp5.yN Cmp5.yB 7 (some .int), .code CodL.yN CodL.yB 2 (some .byte)]
theorem tab_of {a : Array Value} {s : State} (h : ∀ w ∈ words, w.before a s = true) : New1.tab.before a s = true := by
  have h5 : Cmp5.tab.before a s = true := unparts (wk h (.code Cmp5.yN Cmp5.yB 7 (some .int))) (wks h (.initialized Cmp5.yN.cls :: Cmp5.site))
  have hc : CodL.tab.before a s = true := unparts (wk h (.code CodL.yN CodL.yB 2 (some .byte))) (wks h (.initialized CodL.yN.cls :: CodL.site))
  have q5 : ∀ w ∈ Cmp5.tab :: words, w.before a s = true := fun w hw => (List.mem_cons.mp hw).elim (fun e => e ▸ h5) (h w)
  have h3 : Cmp3.tab.before a s = true := unparts (wk q5 (.code Cmp3.yN Cmp3.yB 6 (some (.array .byte)))) (wks q5 (.initialized Cmp3.yN.cls :: Cmp3.site))
  have q3 : ∀ w ∈ Cmp3.tab :: CodL.tab :: words, w.before a s = true := fun w hw => (List.mem_cons.mp hw).elim (fun e => e ▸ h3) fun hw => (List.mem_cons.mp hw).elim (fun e => e ▸ hc) (h w)
  have h4 : New4.tab.before a s = true := unparts (wk q3 (.code New4.yN New4.yB 6 none)) (wks q3 (.initialized New4.yN.cls :: New4.site))
  have q4 : ∀ w ∈ New4.tab :: words, w.before a s = true := fun w hw => (List.mem_cons.mp hw).elim (fun e => e ▸ h4) (h w)
  exact unparts (wk q4 (.code New1.yN New1.yB 2 none)) (wks q4 (.initialized New1.yN.cls :: New1.site))
/-- the words ride from the start Z to the walk's own state -/
theorem moved {Z s : State} {a0 args : Array Value} (hZ : Z.Warmed39 s.vm) (hw : ∀ d ∈ words, d.before a0 Z = true) : ∀ d ∈ words, d.before args s = true := fun d hd => by
  have q := hw d hd
  have t : ∀ d ∈ words, d = .arrayClass .byte ∨ (d.onTables && d.keepsFace) = true := by decide +kernel
  rcases t d hd with rfl | t
  · exact RoadKit.mvA hZ q
  · exact RoadKit.mv hZ q t
/-- WHAT COMES BACK, over the tables of the start Z: h the heap at the call, h' behind it -/
def Q (Z : State) (x : Addr) (A : Cell) (h : Heap) (v : Option Value) (h' : Heap) (L : List Loc) : Prop := v = none ∧ (∀ y ∈ L, y.base = x) ∧ RoadKit.Keep h h' [x] ∧ h'.size = h.size + 1 ∧ RoadKit.Exa Z h' x ST ∧ RoadKit.Fld Z h' x ST "value" "[B" (.ref h.size) ∧ RoadKit.Fld Z h' x ST "coder" "B" (.int 0) ∧
  (∃ V : Cell, RoadKit.Arr Z h' h.size V .byte ∧ V.vm = .none ∧ Z.vm.findClass "[B" = some V.cls ∧ V.slots.size = A.slots.size ∧ ∀ j, j < A.slots.size → V.slots[j]? = some (.int (lo8 (cv A j)))) ∧
  ∀ (O n d : String) (w : Value), RoadKit.Fld Z h x O n d w → RoadKit.slotOf Z O n d ≠ RoadKit.slotOf Z ST "value" "[B" → RoadKit.slotOf Z O n d ≠ RoadKit.slotOf Z ST "coder" "B" → RoadKit.Fld Z h' x O n d w
/-- **new String(chars) AT A CALL, IN THE ROAD'S FORM**: for specialBack behind newO: x the fresh String, b the char[] with the cell A -/
theorem back {p : Program} {l : Launch} {e : Env} {R : Room} {s : State} {args : Array Value} {below : List Frame} {len W : Nat} {Z : State} {a0 : Array Value} {h : Heap} (hZ : Z.Warmed39 s.vm) (hw : ∀ d ∈ words, d.before a0 Z = true) {kI : Nat} (wi : (Jvm.Cond.instantiable ST kI).before a0 Z = true)
    {x b : Addr} {A : Cell} {z : Int32} {v0 c0 : Value} (E : RoadKit.Exa Z h x ST) (V : RoadKit.Fld Z h x ST "value" "[B" v0) (C : RoadKit.Fld Z h x ST "coder" "B" c0) (K : RoadKit.Arr Z h b A .char) (hty : Typed .char A) (S : RoadKit.Sta Z h ST "COMPACT_STRINGS" "Z" (.int z)) (hz : ¬ z = 0)
    (l0 : 0 < A.slots.size) (l2 : A.slots.size ≤ 536870912) (hp : ∀ i, i < A.slots.size → ¬ 255 < cv A i) (hfr : 4 ≤ R.frames) (hlo : W + 65 ≤ R.locals) :
    Back l R p e below s args New1.yN len W (fun P a => a = #[.ref x, .ref b] ∧ P.U.heap = h ∧ P.cells + 1 ≤ R.cells ∧ P.slots + A.slots.size ≤ R.slots)
      (fun P _ v B => ∃ L, Q Z x A h v B.U.heap L ∧ B.locs = P.locs ++ L ∧ B.cells = P.cells + 1 ∧ B.slots = P.slots + A.slots.size) := by
  intro m meth c P g ig mk a X hg hsize hdg hW hn hp'
  obtain ⟨rfl, rfl, r1, r2⟩ := hp'
  have al : Z.vm.Alike P.U.vm := hZ.alike.trans X.warmed.alike
  obtain ⟨D, cfV, kV, iV, fV, hD, gV, stV, knV, obV, asV, slV⟩ := id V
  obtain ⟨D', cfC, kC, iC, fC, hD', gC, stC, -, -, asC, slC⟩ := id C
  cases hD.symm.trans hD'
  obtain ⟨D2, kD, e1, e2, e3, e4, e5⟩ := id E
  cases hD.symm.trans e1
  obtain ⟨c2, k2, i1, i2, i3, -⟩ := Cond.instantiable_spec wi
  cases e2.symm.trans i1
  cases e3.symm.trans i2
  obtain ⟨kU, u1, u2⟩ := al.2.2 _ _ e3
  have hB : Blank ST x D P.U := ⟨hD, ⟨knV, fun q hq => by rw [hq] at obV; cases obV⟩, by rw [al.findClass]; exact e2, kU, u1, by rw [u2]; exact i3, by rw [u2]; exact e5 i3⟩
  have F1 : Found ST "value" "[B" fV P.U := ⟨SBG.found_only al ⟨cfV, kV, iV, gV⟩, stV⟩
  have F2 : Found ST "coder" "B" fC P.U := ⟨SBG.found_only al ⟨cfC, kC, iC, gC⟩, stC⟩
  have hA : Ch b A P.U := ⟨⟨K.1, State.isArrayOf_alike al K.2.1, K.2.2, by omega⟩, hty⟩
  have hS : StaticIs P.U ST "COMPACT_STRINGS" "Z" (.int z) := by
    obtain ⟨cfS, iS, kS, fS, st, cS, t1, t2, t3, t4, t5, t6, t7⟩ := S
    exact StaticIs.there (s := { Z with heap := P.U.heap }) ⟨cfS, iS, kS, fS, st, cS, t1, t2, t3, t4, t5, (fun q => by rw [q] at t6; cases t6), t7⟩ al rfl
  obtain ⟨v, B, X', ⟨⟨hv, E', V', q1, q2, q3, q4, q5, q6, q7, q8, q9, q10, q11⟩, hl, hc, hs⟩, st⟩ := New1.pays x D fV fC b A z (tab_of (moved hZ hw)) hfr hlo m meth c P g ig mk _ X hg hsize hdg hW hn ⟨r1, r2, rfl, hB, F1, F2, hA, hS, hz, l0, l2, hp⟩
  have al' : Z.vm.Alike B.U.vm := hZ.alike.trans X'.warmed.alike
  have hsz : E'.slots.size = D.slots.size := by
    obtain ⟨-, -, -, kB, w1, w2, w3⟩ := q1
    obtain ⟨kB', y1, y2⟩ := al'.2.2 _ _ e3
    rw [q2.2.1] at w1
    cases w1.symm.trans y1
    rw [w3, e5 i3, y2]
  refine ⟨v, B, X', ⟨_, ⟨hv, ?_, ⟨by omega, fun y cy hy hn' => q10 y cy (by simpa using hn') hy, fun y cy hy => ?_⟩, q11, ⟨E', _, q1.1, by rw [q2.2.1]; exact e2, by rw [q2.2.1]; exact e3, by rw [q2.1]; exact obV, fun _ => by rw [hsz]; exact e5 i3⟩,
    ⟨E', cfV, kV, iV, fV, q1.1, gV, stV, by rw [q2.1]; exact knV, by rw [q2.1]; exact obV, by rw [q2.2.1]; exact asV, q3⟩, ⟨E', cfC, kC, iC, fC, q1.1, gC, stC, by rw [q2.1]; exact knV, by rw [q2.1]; exact obV, by rw [q2.2.1]; exact asC, q4⟩,
    ⟨V', ⟨q5.1, State.isArrayOf_alike al'.symm q5.2.1, q5.2.2.1⟩, q6, by rw [← al'.findClass]; exact q7, q8, fun j hj => by have := q9 j hj; rwa [Nat.zero_add] at this⟩, fun O n d w F n1 n2 => ?_⟩, hl, hc, hs⟩, st⟩
  · intro y hy
    simp only [List.mem_cons, List.not_mem_nil, or_false] at hy
    rcases hy with rfl | rfl <;> rfl
  · by_cases q : y = x
    · subst q
      cases hD.symm.trans hy
      exact ⟨E', q1.1, q2.2.1, q2.1, hsz⟩
    · exact ⟨cy, q10 y cy q hy, rfl, rfl, rfl⟩
  · obtain ⟨D3, cf, k, i, f, g1, g2, g3, g4, g5, g6, g7⟩ := F
    cases hD.symm.trans g1
    simp only [RoadKit.slotOf, g2, gV, gC, Option.map_some, Option.getD_some] at n1 n2
    exact ⟨E', cf, k, i, f, q1.1, g2, g3, by rw [q2.1]; exact g4, by rw [q2.1]; exact g5, by rw [q2.2.1]; exact g6, by rw [q2.2.2 f.slot (by simp [n1, n2])]; exact g7⟩
end StrChars.Road
namespace StrChars.Road
open Jvm Sem ClassFile Op Lib Jvm.Stand Jvm.Free Jvm.Free.XT
/-- WHAT COMES BACK, the byte[] as a list of values -/
def QA (Z : State) (x : Addr) (zn : Int32) (cs : List Int32) (h : Heap) (v : Option Value) (h' : Heap) (L : List Loc) : Prop := v = none ∧ (∀ y ∈ L, y.base = x) ∧ RoadKit.Keep h h' [x] ∧ h'.size = h.size + 1 ∧ RoadKit.Exa Z h' x ST ∧ RoadKit.Fld Z h' x ST "value" "[B" (.ref h.size) ∧ RoadKit.Fld Z h' x ST "coder" "B" (.int 0) ∧
  (∃ kb, Z.vm.findClass "[B" = some kb ∧ RoadKit.Arv Z h' h.size kb .byte zn (cs.map fun c => .int (lo8 c)) (.int 0)) ∧
  ∀ (O n d : String) (w : Value), RoadKit.Fld Z h x O n d w → RoadKit.slotOf Z O n d ≠ RoadKit.slotOf Z ST "value" "[B" → RoadKit.slotOf Z O n d ≠ RoadKit.slotOf Z ST "coder" "B" → RoadKit.Fld Z h' x O n d w
/-- **new String(chars) AT A CALL, THE ARRAYS AS LISTS**: the char[] at b holds cs, not empty, no char above 255 -/
theorem backArv {p : Program} {l : Launch} {e : Env} {R : Room} {s : State} {args : Array Value} {below : List Frame} {len W : Nat} {Z : State} {a0 : Array Value} {h : Heap} (hZ : Z.Warmed39 s.vm) (hw : ∀ d ∈ words, d.before a0 Z = true) {kI : Nat} (wi : (Jvm.Cond.instantiable ST kI).before a0 Z = true)
    {x b : Addr} {k : ClassId} {zn z : Int32} {cs : List Int32} {dv v0 c0 : Value} (E : RoadKit.Exa Z h x ST) (V : RoadKit.Fld Z h x ST "value" "[B" v0) (C : RoadKit.Fld Z h x ST "coder" "B" c0) (K : RoadKit.Arv Z h b k .char zn (cs.map Value.int) dv) (S : RoadKit.Sta Z h ST "COMPACT_STRINGS" "Z" (.int z)) (hz : ¬ z = 0)
    (hlen : zn.toNatClampNeg = cs.length) (h0 : 0 < cs.length) (hbig : cs.length ≤ 536870912) (hall : ∀ c ∈ cs, ¬ 255 < c) (hfr : 4 ≤ R.frames) (hlo : W + 65 ≤ R.locals) :
    Back l R p e below s args New1.yN len W (fun P a => a = #[.ref x, .ref b] ∧ P.U.heap = h ∧ P.cells + 1 ≤ R.cells ∧ P.slots + cs.length ≤ R.slots)
      (fun P _ v B => ∃ L, QA Z x zn cs h v B.U.heap L ∧ B.locs = P.locs ++ L ∧ B.cells = P.cells + 1 ∧ B.slots = P.slots + cs.length) := by
  obtain ⟨A, K1, K2, K3, K4, K5, K6⟩ := K
  have e : A.slots.size = cs.length := K3.trans hlen
  have hat : ∀ (i : Nat) (hi : i < cs.length), A.slots[i]? = some (.int cs[i]) := fun i hi => by rw [K5 i (by omega)]; simp [List.getD_eq_getElem?_getD, hi]
  have hcv : ∀ (i : Nat) (hi : i < cs.length), cv A i = cs[i] := fun i hi => by unfold cv; rw [hat i hi]
  have hty : Typed .char A := fun i v hv => by
    have hi : i < A.slots.size := (Array.getElem?_eq_some_iff.mp hv).1
    have q := K5 i hi
    rw [hv] at q
    rw [Option.some.inj q]
    exact K6 i hi
  refine Back.mono (back hZ hw wi E V C K1 hty S hz (by omega) (by omega) (fun i hi => by rw [hcv i (by omega)]; exact hall _ (List.getElem_mem _)) hfr hlo) (fun P a hp => ⟨hp.1, hp.2.1, hp.2.2.1, by rw [e]; exact hp.2.2.2⟩) (fun P a v B hp hq => ?_)
  obtain ⟨L, ⟨q1, q2, q3, q4, q5, q6, q7, ⟨V', v1, v2, v3, v4, v5⟩, q9⟩, hl, hc, hs⟩ := hq
  refine ⟨L, ⟨q1, q2, q3, q4, q5, q6, q7, ⟨V'.cls, v3, V', v1, rfl, by rw [v4, e, hlen], K4, fun i hi => ?_, fun i hi => ?_⟩, q9⟩, hl, hc, by rw [hs, e]⟩
  · have hi' : i < cs.length := by omega
    rw [v5 i (by omega), hcv i hi']; simp [List.getD_eq_getElem?_getD, hi']
  · have hi' : i < cs.length := by omega
    simp only [List.getD_eq_getElem?_getD, List.getElem?_map, List.getElem?_eq_getElem hi', Option.map_some, Option.getD_some]
    exact fits_lo8 _
end StrChars.Road
namespace StrChars.Road
open Jvm Sem ClassFile Op Lib Jvm.Stand Jvm.Free Jvm.Free.XT
/-- WHAT COMES BACK, in the writer's own shape -/
def QV (Z : State) (x : Addr) (N : Int32) (bs : List Int32) (h : Heap) (n0 : Nat) (v : Option Value) (h' : Heap) (L : List Loc) : Prop := v = none ∧ RoadKit.Fr n0 L ∧ RoadKit.Keep h h' [x] ∧ RoadKit.Exa Z h' x ST ∧ RoadKit.Fld Z h' x ST "coder" "B" (.int 0) ∧
  ∃ (t : Addr) (kb : ClassId), n0 ≤ t ∧ h.size ≤ t ∧ ¬ t = x ∧ RoadKit.Fld Z h' x ST "value" "[B" (.ref t) ∧ RoadKit.Arv Z h' t kb .byte N (bs.map Value.int) (.int 0)
/-- **new String(chars) AT A CALL, FOR THE WRITER**: a char[] of n known ints, each 0 to 255 -/
theorem backV {p : Program} {l : Launch} {e : Env} {R : Room} {s : State} {args : Array Value} {below : List Frame} {len W : Nat} {Z : State} {a0 : Array Value} {h : Heap} (hZ : Z.Warmed39 s.vm) (hw : ∀ d ∈ words, d.before a0 Z = true) {kI : Nat} (wi : (Jvm.Cond.instantiable ST kI).before a0 Z = true)
    {x b : Addr} {kC : ClassId} {cs bs : List Int32} {d v0 c0 : Value} {z N : Int32} {n n0 : Nat} (hx0 : n0 ≤ x) (hh0 : n0 ≤ h.size) (E : RoadKit.Exa Z h x ST) (V : RoadKit.Fld Z h x ST "value" "[B" v0) (C : RoadKit.Fld Z h x ST "coder" "B" c0) (K : RoadKit.Arv Z h b kC .char N (cs.map Value.int) d) (S : RoadKit.Sta Z h ST "COMPACT_STRINGS" "Z" (.int z)) (hz : ¬ z = 0)
    (hn : cs.length = n) (hN : N = Int32.ofNat n) (l0 : 0 < n) (l2 : n ≤ 4000) (hp : ∀ c ∈ cs, ¬ c < 0 ∧ ¬ (255 : Int32) < c) (hb : bs = cs.map (fun c => c.toInt8.toInt32)) (hfr : 4 ≤ R.frames) (hlo : W + 65 ≤ R.locals) :
    Back l R p e below s args (⟨"java/lang/String", "<init>", "([C)V"⟩ : MethodName) len W (fun P a => a = #[.ref x, .ref b] ∧ P.U.heap = h ∧ P.cells + 1 ≤ R.cells ∧ P.slots + n ≤ R.slots)
      (fun P _ v B => ∃ L, QV Z x N bs h n0 v B.U.heap L ∧ B.locs = P.locs ++ L ∧ B.cells = P.cells + 1 ∧ B.slots = P.slots + n) := by
  subst hn hN hb
  refine Back.mono (backArv hZ hw wi E V C K S hz (n32 (by omega)) l0 (by omega) (fun c hc => (hp c hc).2) hfr hlo) (fun P a hp => hp) (fun P a v B hp hq => ?_)
  obtain ⟨L, ⟨q1, q2, q3, q4, q5, q6, q7, ⟨kb, v1, v2⟩, q9⟩, hl, hc, hs⟩ := hq
  exact ⟨L, ⟨q1, fun y hy => by rw [q2 y hy]; exact hx0, q3, q5, q7, h.size, kb, hh0, Nat.le_refl _, Nat.ne_of_gt E.lt, q6, by rw [List.map_map]; exact v2⟩, hl, hc, hs⟩
end StrChars.Road
namespace StrChars
open Jvm Sem ClassFile Op Lib Jvm.Stand Jvm.Free.XT Jvm.Free.ALB Jvm.Free.JM Jvm.Free
open Jvm.Lib.Cold (StaticIs)
def hi8 (x : Int32) : Int32 := lo8 (x >>> ((8 : Int32) &&& 31))
/-- what StringUTF16.getChar makes of two bytes -/
def pairCh (u v : Int32) : Int32 := (((u &&& 255) <<< ((0 : Int32) &&& 31)) ||| ((v &&& 255) <<< ((8 : Int32) &&& 31))).toUInt32.toUInt16.toUInt32.toInt32
theorem lo8_and (x : Int32) : (lo8 x &&& 255).toBitVec.toNat = x.toBitVec.toNat % 256 := by
  have h : (lo8 x).toBitVec = (x.toBitVec.signExtend 8).signExtend 32 := by rw [lo8, Int8.toBitVec_toInt32, Int32.toBitVec_toInt8]
  rw [Int32.toBitVec_and, BitVec.toNat_and, h]
  have e : ((x.toBitVec.signExtend 8).signExtend 32).toNat % 256 = x.toBitVec.toNat % 256 := by
    rw [BitVec.toNat_signExtend]
    have hlt := x.toBitVec.isLt
    simp only [BitVec.toNat_setWidth, BitVec.toNat_signExtend]
    split <;> split <;> omega
  rw [← e]
  exact Nat.and_two_pow_sub_one_eq_mod _ 8
theorem pair_says {c : Int32} (h0 : ¬ c < 0) (h1 : ¬ 65535 < c) : pairCh (lo8 c) (hi8 c) = c := by
  rw [Int32.lt_iff_toInt_lt] at h0 h1
  have e0 : (0 : Int32).toInt = 0 := rfl
  have e1 : (65535 : Int32).toInt = 65535 := rfl
  have hc : c.toInt = c.toBitVec.toNat := by
    have := c.toBitVec.isLt
    have e : c.toInt = c.toBitVec.toInt := rfl
    rw [e] at h0 h1
    rw [e]
    rw [BitVec.toInt_eq_toNat_cond] at h0 h1 ⊢
    split at h0 <;> split <;> omega
  have hn : c.toBitVec.toNat < 65536 := by omega
  have a1 := lo8_and c
  have a2 : (hi8 c &&& 255).toBitVec.toNat = c.toBitVec.toNat / 256 := by
    rw [hi8, lo8_and]
    have e : ((8 : Int32) &&& 31) = 8 := by decide
    rw [e, Int32.toBitVec_shiftRight]
    have e2 : ((8 : Int32).toBitVec.smod 32) = 8#32 := by decide
    rw [e2, BitVec.sshiftRight_eq', BitVec.toNat_sshiftRight_of_msb_false (by rw [BitVec.msb_eq_false_iff_two_mul_lt]; omega)]
    show c.toBitVec.toNat >>> 8 % 256 = _
    rw [Nat.shiftRight_eq_div_pow]
    omega
  unfold pairCh
  apply Int32.toBitVec_inj.mp
  apply BitVec.eq_of_toNat_eq
  have f0 : ((0 : Int32) &&& 31) = 0 := by decide
  have f8 : ((8 : Int32) &&& 31) = 8 := by decide
  rw [f0, f8]
  have g : (((lo8 c &&& 255) <<< (0 : Int32)) ||| ((hi8 c &&& 255) <<< (8 : Int32))).toBitVec.toNat = c.toBitVec.toNat := by
    rw [Int32.toBitVec_or, Int32.toBitVec_shiftLeft, Int32.toBitVec_shiftLeft]
    have s0 : ((0 : Int32).toBitVec.smod 32) = 0#32 := by decide
    have s8 : ((8 : Int32).toBitVec.smod 32) = 8#32 := by decide
    rw [s0, s8, BitVec.toNat_or]
    simp only [BitVec.shiftLeft_eq', BitVec.toNat_shiftLeft, a1, a2]
    show (c.toBitVec.toNat % 256) <<< 0 % 2 ^ 32 ||| (c.toBitVec.toNat / 256) <<< 8 % 2 ^ 32 = _
    rw [Nat.shiftLeft_zero, Nat.mod_eq_of_lt (show c.toBitVec.toNat % 256 < 2 ^ 32 by omega), Nat.mod_eq_of_lt (show (c.toBitVec.toNat / 256) <<< 8 < 2 ^ 32 by rw [Nat.shiftLeft_eq]; omega), Nat.or_comm, ← Nat.shiftLeft_add_eq_or_of_lt (by omega), Nat.shiftLeft_eq]
    omega
  show BitVec.toNat (((((lo8 c &&& 255) <<< (0 : Int32)) ||| ((hi8 c &&& 255) <<< (8 : Int32))).toBitVec.setWidth 16).setWidth 32) = _
  rw [BitVec.toNat_setWidth, BitVec.toNat_setWidth, g]
  omega
end StrChars
namespace StrChars
open Jvm Sem ClassFile Op Lib Jvm.Stand Jvm.Free.XT Jvm.Free.ALB Jvm.Free.JM Jvm.Free
open Jvm.Lib.Cold (StaticIs)
/-- charAt's cast of a byte read back -/
def chr8 (u : Int32) : Int32 := (u &&& 255).toUInt32.toUInt16.toUInt32.toInt32
theorem chr8_lo8 {c : Int32} (h0 : ¬ c < 0) (h1 : ¬ 255 < c) : chr8 (lo8 c) = c := by
  have t : ∀ k : Fin 256, (Int32.ofNat k.val).toUInt32.toUInt16.toUInt32.toInt32 = Int32.ofNat k.val := by decide +kernel
  unfold chr8
  rw [lo8_mask h0 h1]
  rw [Int32.lt_iff_toInt_lt] at h0 h1
  have e0 : (0 : Int32).toInt = 0 := rfl
  have e1 : (255 : Int32).toInt = 255 := rfl
  obtain ⟨k, hk⟩ : ∃ k : Nat, c.toInt = k := ⟨c.toInt.toNat, by omega⟩
  have hx : c = Int32.ofNat k := Int32.toInt_inj.mp (by rw [hk, Int32.toInt_ofNat_small (by omega)])
  rw [hx]
  exact t ⟨k, by omega⟩
theorem narrow_ch {c : Int32} (h0 : ¬ c < 0) (h1 : ¬ 65535 < c) : narrow .char (.int c) = .int c := by
  have q : narrow .char (.int (pairCh (lo8 c) (hi8 c))) = .int (pairCh (lo8 c) (hi8 c)) := narrow_c _
  rwa [pair_says h0 h1] at q
/-- the array's cell V codes the n chars f 0 .. f (n - 1) by the coder cd, as the JDK does: coder 1 just where some char is above 255 -/
def Cod (cd : Int32) (n : Nat) (f : Nat → Int32) (V : Cell) : Prop := (cd = 0 ∧ V.slots.size = n ∧ ∀ j, j < n → V.slots[j]? = some (.int (lo8 (f j))) ∧ ¬ 255 < f j) ∨ (cd = 1 ∧ V.slots.size = 2 * n ∧ (∀ j, j < n → V.slots[2 * j]? = some (.int (lo8 (f j))) ∧ V.slots[2 * j + 1]? = some (.int (hi8 (f j)))) ∧ ∃ j, j < n ∧ 255 < f j)
theorem Cod.cd {cd : Int32} {n : Nat} {f : Nat → Int32} {V : Cell} (h : Cod cd n f V) : cd = 0 ∨ cd = 1 := h.imp (fun q => q.1) fun q => q.1
/-- **x is a String of the n chars f 0 .. f (n - 1)**, Latin-1 or UTF-16; its array at t has the cell V -/
def Txt (x t : Addr) (V : Cell) (cd : Int32) (n : Nat) (f : Nat → Int32) (U : State) : Prop := Exact "java/lang/String" x U ∧ Has x "java/lang/String" "value" "[B" (.ref t) U ∧ Has x "java/lang/String" "coder" "B" (.int cd) U ∧ XT.Arr .byte t V U ∧ Cod cd n f V ∧ ∀ j, j < n → ¬ f j < 0 ∧ ¬ 65535 < f j
theorem Txt.mv {x t : Addr} {V : Cell} {cd : Int32} {n : Nat} {f : Nat → Int32} {U U' : State} (h : Txt x t V cd n f U) (hal : U.vm.Alike U'.vm) (hh : U'.heap = U.heap) : Txt x t V cd n f U' := ⟨h.1.mv hal hh, h.2.1.mv hal hh, h.2.2.1.mv hal hh, h.2.2.2.1.mv hal hh, h.2.2.2.2⟩
namespace IsL
def yN : MethodName := ⟨"java/lang/String", "isLatin1", "()Z"⟩
abbrev yB : ByteArray := jdk_42_method_154_code
theorem d0 : decode yB 0 = .ok (.getstatic 38, 3) := by decide +kernel
theorem d3 : decode yB 3 = .ok (.ifCond (.eq) 14, 3) := by decide +kernel
theorem d6 : decode yB 6 = .ok (.aload_n 0, 1) := by decide +kernel
theorem d7 : decode yB 7 = .ok (.getfield 15, 3) := by decide +kernel
theorem d10 : decode yB 10 = .ok (.ifCond (.ne) 7, 3) := by decide +kernel
theorem d13 : decode yB 13 = .ok (.iconst 1, 1) := by decide +kernel
theorem d14 : decode yB 14 = .ok (.goto 4, 3) := by decide +kernel
theorem d17 : decode yB 17 = .ok (.iconst 0, 1) := by decide +kernel
theorem d18 : decode yB 18 = .ok (.ireturn, 1) := by decide +kernel
def site : List Cond := [.fieldLink "java/lang/String" 38 "java/lang/String" "COMPACT_STRINGS" "Z", .fieldLink "java/lang/String" 15 "java/lang/String" "coder" "B"]
def tab : Cond := tabOf yN yB 1 (some .boolean) site
def P (x : Addr) (cd z : Int32) (args : Array Value) (s : State) : Prop := args = #[.ref x] ∧ Has x "java/lang/String" "coder" "B" (.int cd) s ∧ (cd = 0 ∨ cd = 1) ∧ StaticIs s "java/lang/String" "COMPACT_STRINGS" "Z" (.int z) ∧ ¬ z = 0
def E (cd : Int32) (r : Option Value) (s u : State) : Prop := XT.PureE (some (.int (1 - cd))) r s u
theorem law (l : Launch) (x : Addr) (cd z : Int32) : Law l yN 1 0 0 0 yB 1 (some .boolean) site (P x cd z) (E cd) [] 0 0 := by
  refine Law.of_walk (plainFor_of_name (by decide +kernel)) (by decide +kernel) (by decide +kernel) (by decide) (fun _ _ h => by rw [h.1]; rfl) (fun _ U U' hal hh h => ⟨h.1, h.2.1.mv hal hh, h.2.2.1, h.2.2.2.1.there hal hh, h.2.2.2.2⟩) (fun r U U' V V' h1 hal h2 h => XT.PureE.mv r U U' V V' h1 hal h2 h) ?_
  intro p e s m args below meth c s₁ X0 hexec hbytes hml hret hlk hnm hown hh0 W hP
  obtain ⟨rfl, hx, hc, s1, hz⟩ := hP
  have c1 : Steps p.tables e below (s₁.setTop (entryFrame m #[.ref x] 1)) (s₁.setTop (mkF m 0 #[.val (.ref x)] [])) := entry rfl
  obtain ⟨T2, X2, q2, st2⟩ := X0.sget hexec hown (wk W (.fieldLink "java/lang/String" 38 "java/lang/String" "COMPACT_STRINGS" "Z")) s1 (fun _ _ h => by rw [hh0]; exact h) (g := (mkF m 0 #[.val (.ref x)] [])) rfl (hb hbytes d0)
  have hh2 := q2.trans hh0
  have c3 : Steps p.tables e below (s₁.setTop (entryFrame m #[.ref x] 1)) (T2.setTop (mkF m 7 #[.val (.ref x)] [.ref x])) := (c1.trans (st2 _ (Steps.refl _))).trans (by
    refine XS.ifNo X2.here hexec rfl (hb hbytes d3) rfl (i0_eq_f hz) ?_
    refine XS.aloadN X2.here hexec rfl (hb hbytes d6) rfl rfl ?_
    exact Steps.refl _)
  obtain ⟨T4, X4, q4, st4⟩ := X2.hget hexec hown (wk W (.fieldLink "java/lang/String" 15 "java/lang/String" "coder" "B")) (hx.mv X2.warmed.alike hh2) (g := (mkF m 7 #[.val (.ref x)] [.ref x])) rfl (rest := []) rfl (hb hbytes d7)
  have c5 : Steps p.tables e below (s₁.setTop (entryFrame m #[.ref x] 1)) (T4.setTop (mkF m 10 #[.val (.ref x)] [.int cd])) := c3.trans (st4 _ (Steps.refl _))
  have c6 : Steps p.tables e below (s₁.setTop (entryFrame m #[.ref x] 1)) (T4.setTop (mkF m 18 #[.val (.ref x)] [.int (1 - cd)])) := by
    rcases hc with rfl | rfl
    · exact c5.trans (by
        refine XS.ifNo X4.here hexec rfl (hb hbytes d10) rfl (i0_ne_f rfl) ?_
        refine iconstV X4.here hexec rfl 1 (hb hbytes d13) (by decide) ?_
        refine XS.goto X4.here hexec rfl (pc0 := 14) rfl (hb hbytes d14) (by decide) rfl ?_
        exact Steps.refl _)
    · exact c5.trans (by
        refine XS.ifYes X4.here hexec rfl (pc0 := 10) rfl (hb hbytes d10) rfl (i0_ne_t (by decide)) (by decide) rfl ?_
        refine iconstV X4.here hexec rfl 0 (hb hbytes d17) (by decide) ?_
        exact Steps.refl _)
  exact ⟨T4, some (.int (1 - cd)), _, _, _, X4, rfl, rfl, rfl, (fun h => by cases h), ⟨rfl, q4.trans hh2⟩, fun fs hl => c6.trans (X4.ireturnOut hexec hret (by rcases hc with rfl | rfl <;> rfl) (Or.inr (Or.inl rfl)) (hb hbytes d18) hl)⟩
end IsL
namespace LChA
def yN : MethodName := ⟨"java/lang/StringLatin1", "charAt", "([BI)C"⟩
abbrev yB : ByteArray := jdk_43_method_2_code
theorem d0 : decode yB 0 = .ok (.iload_n 1, 1) := by decide +kernel
theorem d1 : decode yB 1 = .ok (.aload_n 0, 1) := by decide +kernel
theorem d2 : decode yB 2 = .ok (.arraylength, 1) := by decide +kernel
theorem d3 : decode yB 3 = .ok (.invokestatic 9, 3) := by decide +kernel
theorem d6 : decode yB 6 = .ok (.aload_n 0, 1) := by decide +kernel
theorem d7 : decode yB 7 = .ok (.iload_n 1, 1) := by decide +kernel
theorem d8 : decode yB 8 = .ok (.baload, 1) := by decide +kernel
theorem d9 : decode yB 9 = .ok (.sipush 255, 3) := by decide +kernel
theorem d12 : decode yB 12 = .ok (.iand, 1) := by decide +kernel
theorem d13 : decode yB 13 = .ok (.i2c, 1) := by decide +kernel
theorem d14 : decode yB 14 = .ok (.ireturn, 1) := by decide +kernel
def site : List Cond := [JO.Str_checkIndex.tab] ++ staticW "java/lang/StringLatin1" 9 JO.Str_checkIndex.yN
def tab : Cond := tabOf yN yB 2 (some .char) site
def P (t : Addr) (V : Cell) (i : Nat) (u : Int32) (fm : Value) (args : Array Value) (s : State) : Prop := args = #[.ref t, .int (Int32.ofNat i)] ∧ XT.Arr .byte t V s ∧ V.slots[i]? = some (.int u) ∧ (StaticIs s "jdk/internal/util/Preconditions" "SIOOBE_FORMATTER" "Ljava/util/function/BiFunction;" fm ∧ fm.isRef = true)
def E (u : Int32) (r : Option Value) (s w : State) : Prop := XT.PureE (some (.int (chr8 u))) r s w
theorem law (l : Launch) (t : Addr) (V : Cell) (i : Nat) (u : Int32) (fm : Value) : Law l yN 2 2 2 27 yB 2 (some .char) site (P t V i u fm) (E u) [] 0 0 := by
  refine Law.of_walk (plainFor_of_name (by decide +kernel)) (by decide +kernel) (by decide +kernel) (by decide) (fun _ _ h => by rw [h.1]; rfl) (fun _ U U' hal hh h => ⟨h.1, h.2.1.mv hal hh, h.2.2.1, h.2.2.2.1.there hal hh, h.2.2.2.2⟩) (fun r U U' V V' h1 hal h2 h => XT.PureE.mv r U U' V V' h1 hal h2 h) ?_
  intro p e s m args below meth c s₁ X0 hexec hbytes hml hret hlk hnm hown hh0 W hP
  obtain ⟨rfl, hV, hu, s1, rf⟩ := hP
  have v31 := hV.2.2.2
  have hi : i < V.slots.size := (Array.getElem?_eq_some_iff.mp hu).1
  have c1 : Steps p.tables e below (s₁.setTop (entryFrame m #[.ref t, .int (Int32.ofNat i)] 2)) (s₁.setTop (mkF m 0 #[.val (.ref t), .val (.int (Int32.ofNat i))] [])) := entry rfl
  have c2 : Steps p.tables e below (s₁.setTop (entryFrame m #[.ref t, .int (Int32.ofNat i)] 2)) (s₁.setTop (mkF m 3 #[.val (.ref t), .val (.int (Int32.ofNat i))] [.int (Int32.ofNat V.slots.size), .int (Int32.ofNat i)])) := c1.trans (by
    refine XS.iloadN X0.here hexec rfl (hb hbytes d0) rfl ?_
    refine XS.aloadN X0.here hexec rfl (hb hbytes d1) rfl rfl ?_
    refine X0.alen hexec (hV.mv X0.warmed.alike hh0) rfl rfl (hb hbytes d2) ?_
    exact Steps.refl _)
  obtain ⟨v3, T3, X3, E3, g3⟩ := X0.callS hexec (JO.Str_checkIndex.law l (Int32.ofNat i) (Int32.ofNat V.slots.size) fm) hown (wks W (staticW "java/lang/StringLatin1" 9 JO.Str_checkIndex.yN)) (wk W JO.Str_checkIndex.tab) (W := 0) (Nat.le_of_ble_eq_true rfl) (Nat.le_of_ble_eq_true rfl) (Nat.le_refl _) (Nat.le_refl _) (g := (mkF m 3 #[.val (.ref t), .val (.int (Int32.ofNat i))] [.int (Int32.ofNat V.slots.size), .int (Int32.ofNat i)])) rfl (by rw [hml]; rfl) c2 (argsL := [.int (Int32.ofNat i), .int (Int32.ofNat V.slots.size)]) (rest := []) rfl rfl (by show 2 * 0 + 0 ≤ _; decide) (hb hbytes d3) (⟨rfl, rf, s1.there X0.warmed.alike hh0, Int32.ofNat_not_neg (by omega), lt32 v31 hi⟩)
  obtain ⟨rfl, q3⟩ := E3
  have hh3 := q3.trans hh0
  have c4 : Steps p.tables e below (s₁.setTop (entryFrame m #[.ref t, .int (Int32.ofNat i)] 2)) (T3.setTop (mkF m 14 #[.val (.ref t), .val (.int (Int32.ofNat i))] [.int (chr8 u)])) := Steps.trans g3 (by
    refine XS.aloadN X3.here hexec rfl (hb hbytes d6) rfl rfl ?_
    refine XS.iloadN X3.here hexec rfl (hb hbytes d7) rfl ?_
    refine X3.aget hexec (hV.mv X3.warmed.alike hh3) rfl hu rfl rfl (hb hbytes d8) ?_
    refine sipushV X3.here hexec rfl 255 (hb hbytes d9) (by decide) ?_
    refine XS.iand X3.here hexec rfl (hb hbytes d12) rfl ?_
    refine i2c X3.here hexec rfl (hb hbytes d13) rfl ?_
    exact Steps.refl _)
  exact ⟨T3, some (.int (chr8 u)), _, _, _, X3, rfl, rfl, rfl, (fun h => by cases h), ⟨rfl, hh3⟩, fun fs hl => c4.trans (X3.ireturnOut hexec hret (narrow_c _) (Or.inr (Or.inr (Or.inr (Or.inl rfl)))) (hb hbytes d14) hl)⟩
end LChA
end StrChars
namespace StrChars.Road
open Jvm Sem ClassFile Op Lib Jvm.Stand Jvm.Free Jvm.Free.XT
open Jvm.Lib.Cold (StaticIs)
theorem consq {a : Array Value} {s : State} {c : Jvm.Cond} {L : List Jvm.Cond} (h0 : c.before a s = true) (h : ∀ w ∈ L, w.before a s = true) : ∀ w ∈ c :: L, w.before a s = true := fun w hw => (List.mem_cons.mp hw).elim (fun e => e ▸ h0) (h w)
/-- the bytes of the chars cs, low before high -/
def wideBytes : List Int32 → List Value
  | [] => []
  | c :: cs => .int (lo8 c) :: .int (hi8 c) :: wideBytes cs
theorem wide_lo (d : Value) : ∀ (cs : List Int32) (j : Nat), j < cs.length → (wideBytes cs).getD (2 * j) d = .int (lo8 (cs.getD j 0))
  | [], j, h => absurd h (Nat.not_lt_zero j)
  | c :: cs, 0, _ => rfl
  | c :: cs, j + 1, h => by
    have q := wide_lo d cs j (by simpa using h)
    rw [show 2 * (j + 1) = 2 * j + 1 + 1 from by omega]
    simpa [wideBytes] using q
theorem wide_hi (d : Value) : ∀ (cs : List Int32) (j : Nat), j < cs.length → (wideBytes cs).getD (2 * j + 1) d = .int (hi8 (cs.getD j 0))
  | [], j, h => absurd h (Nat.not_lt_zero j)
  | c :: cs, 0, _ => rfl
  | c :: cs, j + 1, h => by
    have q := wide_hi d cs j (by simpa using h)
    rw [show 2 * (j + 1) + 1 = 2 * j + 1 + 1 + 1 from by omega]
    simpa [wideBytes] using q
theorem low_at (d : Value) (cs : List Int32) (j : Nat) (h : j < cs.length) : (cs.map fun c => Value.int (lo8 c)).getD j d = .int (lo8 (cs.getD j 0)) := by
  simp [List.getD_eq_getElem?_getD, h]
/-- an array of N2 bytes vs codes the chars cs by the coder cd -/
def CodA (cs : List Int32) (cd N2 : Int32) (vs : List Value) : Prop := (cd = 0 ∧ N2 = Int32.ofNat cs.length ∧ vs = (cs.map fun c => Value.int (lo8 c)) ∧ ∀ c ∈ cs, ¬ 255 < c) ∨ (cd = 1 ∧ N2 = Int32.ofNat (2 * cs.length) ∧ vs = wideBytes cs ∧ ∃ c ∈ cs, 255 < c)
theorem CodA.cod {cs : List Int32} {cd N2 : Int32} {vs : List Value} {V : Cell} (h : CodA cs cd N2 vs) (hn : 2 * cs.length < 2 ^ 31) (hs : V.slots.size = N2.toNatClampNeg) (hv : RoadKit.Has V vs (.int 0)) : Cod cd cs.length (fun j => cs.getD j 0) V := by
  rcases h with ⟨rfl, rfl, rfl, h⟩ | ⟨rfl, rfl, rfl, c, hc, hw⟩
  · rw [n32 (by omega)] at hs
    exact Or.inl ⟨rfl, hs, fun j hj => ⟨by rw [hv j (by omega), low_at _ _ _ hj], by
      have e : cs.getD j 0 = cs[j] := by simp [List.getD_eq_getElem?_getD, hj]
      show ¬ 255 < cs.getD j 0
      rw [e]; exact h _ (List.getElem_mem _)⟩⟩
  · rw [n32 (by omega)] at hs
    obtain ⟨j, hj, rfl⟩ := List.getElem_of_mem hc
    exact Or.inr ⟨rfl, hs, fun j hj => ⟨by rw [hv _ (by omega), wide_lo _ _ _ hj], by rw [hv _ (by omega), wide_hi _ _ _ hj]⟩, j, hj, by
      have e : cs.getD j 0 = cs[j] := by simp [List.getD_eq_getElem?_getD, hj]
      show 255 < cs.getD j 0
      rw [e]; exact hw⟩
/-- an object of exactly java/lang/String, its two fields found: as the laws ask it -/
theorem strObj {Z U : State} {a0 : Array Value} {kI : Nat} (wi : (Jvm.Cond.instantiable ST kI).before a0 Z = true) (al : Z.vm.Alike U.vm) {x : Addr} {v0 c0 : Value} (E : RoadKit.Exa Z U.heap x ST) (V : RoadKit.Fld Z U.heap x ST "value" "[B" v0) (C : RoadKit.Fld Z U.heap x ST "coder" "B" c0) :
    ∃ (D : Cell) (fV fC : Field), Blank ST x D U ∧ Found ST "value" "[B" fV U ∧ Found ST "coder" "B" fC U ∧ D.slots[fV.slot]? = some v0 ∧ D.slots[fC.slot]? = some c0 ∧ RoadKit.slotOf Z ST "value" "[B" = fV.slot ∧ RoadKit.slotOf Z ST "coder" "B" = fC.slot := by
  obtain ⟨D, cfV, kV, iV, fV, hD, gV, stV, knV, obV, asV, slV⟩ := V
  obtain ⟨D', cfC, kC, iC, fC, hD', gC, stC, -, -, asC, slC⟩ := C
  cases hD.symm.trans hD'
  obtain ⟨D2, kD, e1, e2, e3, e4, e5⟩ := E
  cases hD.symm.trans e1
  obtain ⟨c2, k2, i1, i2, i3, -⟩ := Cond.instantiable_spec wi
  cases e2.symm.trans i1
  cases e3.symm.trans i2
  obtain ⟨kU, u1, u2⟩ := al.2.2 _ _ e3
  exact ⟨D, fV, fC, ⟨hD, ⟨knV, fun q hq => by rw [hq] at obV; cases obV⟩, by rw [al.findClass]; exact e2, kU, u1, by rw [u2]; exact i3, by rw [u2]; exact e5 i3⟩, ⟨SBG.found_only al ⟨cfV, kV, iV, gV⟩, stV⟩, ⟨SBG.found_only al ⟨cfC, kC, iC, gC⟩, stC⟩, slV, slC, by simp [RoadKit.slotOf, gV], by simp [RoadKit.slotOf, gC]⟩
theorem sta_is {Z U : State} (al : Z.vm.Alike U.vm) {C n d : String} {v : Value} (S : RoadKit.Sta Z U.heap C n d v) : StaticIs U C n d v := by
  obtain ⟨cfS, iS, kS, fS, st, cS, t1, t2, t3, t4, t5, t6, t7⟩ := S
  exact StaticIs.there (s := { Z with heap := U.heap }) ⟨cfS, iS, kS, fS, st, cS, t1, t2, t3, t4, t5, (fun q => by rw [q] at t6; cases t6), t7⟩ al rfl
end StrChars.Road
namespace StrChars
open Jvm Sem ClassFile Op Lib Jvm.Stand Jvm.Free.XT Jvm.Free.ALB Jvm.Free.JM Jvm.Free
open Jvm.Lib.Cold (StaticIs)
/-- what place i of a byte[]'s cell holds -/
def yv (A : Cell) (i : Nat) : Int32 := match A.slots[i]? with | some (.int x) => x | _ => 0
theorem yv_get {a : Addr} {A : Cell} {U : State} (h : XT.Arr .byte a A U) (ht : Typed .byte A) {i : Nat} (hi : i < A.slots.size) : A.slots[i]? = some (.int (yv A i)) := by
  have e := Array.getElem?_eq_getElem hi
  have f := ht i _ e
  unfold yv; rw [e]
  generalize A.slots[i] = v at f
  cases v <;> simp [fits] at f ⊢
/-- the two arrays are equal, place for place -/
def EqC (A B : Cell) : Prop := A.slots.size = B.slots.size ∧ ∀ i, i < A.slots.size → yv A i = yv B i
/-- a boolean that says whether p -/
def Says01 (q : Prop) (r : Option Value) (s u : State) : Prop := ∃ v : Int32, r = some (.int v) ∧ u.heap = s.heap ∧ ((v = 1 ∧ q) ∨ (v = 0 ∧ ¬ q))
theorem Says01.mv {q : Prop} : ∀ r (U U' V V' : State), U'.heap = U.heap → V.vm.Alike V'.vm → V'.heap = V.heap → Says01 q r U V → Says01 q r U' V' :=
  fun r U U' V V' h1 _ h2 ⟨v, a, b, c⟩ => ⟨v, a, by rw [h1, h2]; exact b, c⟩
namespace LEq
def yN : MethodName := ⟨"java/lang/StringLatin1", "equals", "([B[B)Z"⟩
abbrev yB : ByteArray := jdk_43_method_13_code
theorem d0 : decode yB 0 = .ok (.aload_n 0, 1) := by decide +kernel
theorem d1 : decode yB 1 = .ok (.arraylength, 1) := by decide +kernel
theorem d2 : decode yB 2 = .ok (.aload_n 1, 1) := by decide +kernel
theorem d3 : decode yB 3 = .ok (.arraylength, 1) := by decide +kernel
theorem d4 : decode yB 4 = .ok (.if_icmp (.ne) 30, 3) := by decide +kernel
theorem d7 : decode yB 7 = .ok (.iconst 0, 1) := by decide +kernel
theorem d8 : decode yB 8 = .ok (.istore_n 2, 1) := by decide +kernel
theorem d9 : decode yB 9 = .ok (.iload_n 2, 1) := by decide +kernel
theorem d10 : decode yB 10 = .ok (.aload_n 0, 1) := by decide +kernel
theorem d11 : decode yB 11 = .ok (.arraylength, 1) := by decide +kernel
theorem d12 : decode yB 12 = .ok (.if_icmp (.ge) 20, 3) := by decide +kernel
theorem d15 : decode yB 15 = .ok (.aload_n 0, 1) := by decide +kernel
theorem d16 : decode yB 16 = .ok (.iload_n 2, 1) := by decide +kernel
theorem d17 : decode yB 17 = .ok (.baload, 1) := by decide +kernel
theorem d18 : decode yB 18 = .ok (.aload_n 1, 1) := by decide +kernel
theorem d19 : decode yB 19 = .ok (.iload_n 2, 1) := by decide +kernel
theorem d20 : decode yB 20 = .ok (.baload, 1) := by decide +kernel
theorem d21 : decode yB 21 = .ok (.if_icmp (.eq) 5, 3) := by decide +kernel
theorem d24 : decode yB 24 = .ok (.iconst 0, 1) := by decide +kernel
theorem d25 : decode yB 25 = .ok (.ireturn, 1) := by decide +kernel
theorem d26 : decode yB 26 = .ok (.iinc 2 1, 3) := by decide +kernel
theorem d29 : decode yB 29 = .ok (.goto (-20), 3) := by decide +kernel
theorem d32 : decode yB 32 = .ok (.iconst 1, 1) := by decide +kernel
theorem d33 : decode yB 33 = .ok (.ireturn, 1) := by decide +kernel
theorem d34 : decode yB 34 = .ok (.iconst 0, 1) := by decide +kernel
theorem d35 : decode yB 35 = .ok (.ireturn, 1) := by decide +kernel
def site : List Cond := []
def tab : Cond := tabOf yN yB 3 (some .boolean) site
def P (a : Addr) (A : Cell) (b : Addr) (B : Cell) (args : Array Value) (s : State) : Prop := args = #[.ref a, .ref b] ∧ XT.Arr .byte a A s ∧ Typed .byte A ∧ XT.Arr .byte b B s ∧ Typed .byte B
/-- whether two byte[] are equal, place for place -/
theorem law (l : Launch) (a : Addr) (A : Cell) (b : Addr) (B : Cell) : Law l yN 2 2 0 0 yB 3 (some .boolean) site (P a A b B) (Says01 (EqC A B)) [] 0 0 := by
  refine Law.of_walk (plainFor_of_name (by decide +kernel)) (by decide +kernel) (by decide +kernel) (by decide) (fun _ _ h => by rw [h.1]; rfl) (fun _ U U' hal hh h => ⟨h.1, h.2.1.mv hal hh, h.2.2.1, h.2.2.2.1.mv hal hh, h.2.2.2.2⟩) (fun r U U' V V' h1 hal h2 h => Says01.mv r U U' V V' h1 hal h2 h) ?_
  intro p e s m args below meth c s₁ X0 hexec hbytes hml hret hlk hnm hown hh0 W hP
  obtain ⟨rfl, hA, tA, hB, tB⟩ := hP
  have a31 := hA.2.2.2
  have b31 := hB.2.2.2
  have hA0 := hA.mv X0.warmed.alike hh0
  have hB0 := hB.mv X0.warmed.alike hh0
  have c1 : Steps p.tables e below (s₁.setTop (entryFrame m #[.ref a, .ref b] 3)) (s₁.setTop (mkF m 0 #[.val (.ref a), .val (.ref b), .unset] [])) := entry rfl
  have c2 : Steps p.tables e below (s₁.setTop (entryFrame m #[.ref a, .ref b] 3)) (s₁.setTop (mkF m 4 #[.val (.ref a), .val (.ref b), .unset] [.int (Int32.ofNat B.slots.size), .int (Int32.ofNat A.slots.size)])) := c1.trans (by
    refine XS.aloadN X0.here hexec rfl (hb hbytes d0) rfl rfl ?_
    refine X0.alen hexec hA0 rfl rfl (hb hbytes d1) ?_
    refine XS.aloadN X0.here hexec rfl (hb hbytes d2) rfl rfl ?_
    refine X0.alen hexec hB0 rfl rfl (hb hbytes d3) ?_
    exact Steps.refl _)
  by_cases hs : A.slots.size = B.slots.size
  · have c3 : Steps p.tables e below (s₁.setTop (entryFrame m #[.ref a, .ref b] 3)) (s₁.setTop (mkF m 9 #[.val (.ref a), .val (.ref b), .val (.int 0)] [])) := c2.trans (by
      refine XS.icmpNo X0.here hexec rfl (hb hbytes d4) rfl (ii_ne_f (by rw [hs])) ?_
      refine iconstV X0.here hexec rfl 0 (hb hbytes d7) (by decide) ?_
      refine XS.istoreN X0.here hexec rfl (hb hbytes d8) rfl rfl ?_
      exact Steps.refl _)
    have loop : ∀ (r i : Nat), i + r = A.slots.size → (∀ j, j < i → yv A j = yv B j) → Steps p.tables e below (s₁.setTop (entryFrame m #[.ref a, .ref b] 3)) (s₁.setTop (mkF m 9 #[.val (.ref a), .val (.ref b), .val (.int (Int32.ofNat i))] [])) → ∃ (pc : Nat) (Ls : Array Slot) (v : Int32), (pc = 25 ∨ pc = 33) ∧ ((v = 1 ∧ EqC A B) ∨ (v = 0 ∧ ¬ EqC A B)) ∧ Steps p.tables e below (s₁.setTop (entryFrame m #[.ref a, .ref b] 3)) (s₁.setTop (mkF m pc Ls [.int v])) := by
      intro r
      induction r with
      | zero =>
        intro i hi he cl
        exact ⟨33, _, 1, Or.inr rfl, Or.inl ⟨rfl, hs, fun j hj => he j (by omega)⟩, cl.trans (by
          refine XS.iloadN X0.here hexec rfl (hb hbytes d9) rfl ?_
          refine XS.aloadN X0.here hexec rfl (hb hbytes d10) rfl rfl ?_
          refine X0.alen hexec hA0 rfl rfl (hb hbytes d11) ?_
          refine XS.icmpYes X0.here hexec rfl (pc0 := 12) rfl (hb hbytes d12) rfl (ii_ge_t (nlt32 (by omega) (by omega))) (by decide) rfl ?_
          refine iconstV X0.here hexec rfl 1 (hb hbytes d32) (by decide) ?_
          exact Steps.refl _)⟩
      | succ r ih =>
        intro i hi he cl
        have c4 : Steps p.tables e below (s₁.setTop (entryFrame m #[.ref a, .ref b] 3)) (s₁.setTop (mkF m 21 #[.val (.ref a), .val (.ref b), .val (.int (Int32.ofNat i))] [.int (yv B i), .int (yv A i)])) := cl.trans (by
          refine XS.iloadN X0.here hexec rfl (hb hbytes d9) rfl ?_
          refine XS.aloadN X0.here hexec rfl (hb hbytes d10) rfl rfl ?_
          refine X0.alen hexec hA0 rfl rfl (hb hbytes d11) ?_
          refine XS.icmpNo X0.here hexec rfl (hb hbytes d12) rfl (ii_ge_f (lt32 (by omega) (by omega))) ?_
          refine XS.aloadN X0.here hexec rfl (hb hbytes d15) rfl rfl ?_
          refine XS.iloadN X0.here hexec rfl (hb hbytes d16) rfl ?_
          refine X0.aget hexec hA0 rfl (yv_get hA tA (i := i) (by omega)) rfl rfl (hb hbytes d17) ?_
          refine XS.aloadN X0.here hexec rfl (hb hbytes d18) rfl rfl ?_
          refine XS.iloadN X0.here hexec rfl (hb hbytes d19) rfl ?_
          refine X0.aget hexec hB0 rfl (yv_get hB tB (i := i) (by omega)) rfl rfl (hb hbytes d20) ?_
          exact Steps.refl _)
        by_cases hv : yv A i = yv B i
        · have c5 : Steps p.tables e below (s₁.setTop (entryFrame m #[.ref a, .ref b] 3)) (s₁.setTop (mkF m 9 #[.val (.ref a), .val (.ref b), .val (.int (Int32.ofNat i + 1))] [])) := c4.trans (by
            refine XS.icmpYes X0.here hexec rfl (pc0 := 21) rfl (hb hbytes d21) rfl (ii_eq_t hv) (by decide) rfl ?_
            refine iincV X0.here hexec rfl 1 (hb hbytes d26) (by decide) rfl rfl ?_
            refine XS.goto X0.here hexec rfl (pc0 := 29) rfl (hb hbytes d29) (by decide) rfl ?_
            exact Steps.refl _)
          rw [succ32] at c5
          exact ih (i + 1) (by omega) (fun j hj => by
            by_cases e : j = i
            · rw [e]; exact hv
            · exact he j (by omega)) c5
        · exact ⟨25, _, 0, Or.inl rfl, Or.inr ⟨rfl, fun q => hv (q.2 i (by omega))⟩, c4.trans (by
            refine XS.icmpNo X0.here hexec rfl (hb hbytes d21) rfl (ii_eq_f hv) ?_
            refine iconstV X0.here hexec rfl 0 (hb hbytes d24) (by decide) ?_
            exact Steps.refl _)⟩
    obtain ⟨pc, Ls, v, hpc, hv, cz⟩ := loop A.slots.size 0 (by omega) (fun j hj => absurd hj (Nat.not_lt_zero j)) c3
    have nv : narrow .boolean (.int v) = .int v := by rcases hv with ⟨rfl, -⟩ | ⟨rfl, -⟩ <;> rfl
    rcases hpc with rfl | rfl
    · exact ⟨s₁, some (.int v), _, _, _, X0, rfl, rfl, rfl, (fun h => by cases h), ⟨v, rfl, hh0, hv⟩, fun fs hl => cz.trans (X0.ireturnOut hexec hret nv (Or.inr (Or.inl rfl)) (hb hbytes d25) hl)⟩
    · exact ⟨s₁, some (.int v), _, _, _, X0, rfl, rfl, rfl, (fun h => by cases h), ⟨v, rfl, hh0, hv⟩, fun fs hl => cz.trans (X0.ireturnOut hexec hret nv (Or.inr (Or.inl rfl)) (hb hbytes d33) hl)⟩
  · have c3 : Steps p.tables e below (s₁.setTop (entryFrame m #[.ref a, .ref b] 3)) (s₁.setTop (mkF m 35 #[.val (.ref a), .val (.ref b), .unset] [.int 0])) := c2.trans (by
      refine XS.icmpYes X0.here hexec rfl (pc0 := 4) rfl (hb hbytes d4) rfl (ii_ne_t (ne32 a31 b31 hs)) (by decide) rfl ?_
      refine iconstV X0.here hexec rfl 0 (hb hbytes d34) (by decide) ?_
      exact Steps.refl _)
    exact ⟨s₁, some (.int 0), _, _, _, X0, rfl, rfl, rfl, (fun h => by cases h), ⟨0, rfl, hh0, Or.inr ⟨rfl, fun q => hs q.1⟩⟩, fun fs hl => c3.trans (X0.ireturnOut hexec hret rfl (Or.inr (Or.inl rfl)) (hb hbytes d35) hl)⟩
end LEq
theorem Cod.ty {cd : Int32} {n : Nat} {f : Nat → Int32} {V : Cell} (h : Cod cd n f V) : Typed .byte V := fun i v hv => by
  have hi : i < V.slots.size := (Array.getElem?_eq_some_iff.mp hv).1
  rcases h with ⟨-, k1, k2⟩ | ⟨-, k1, k2, -⟩
  · rw [(k2 i (by omega)).1] at hv; cases hv; exact fits_lo8 _
  · rcases Nat.mod_two_eq_zero_or_one i with e | e
    · obtain ⟨j, rfl⟩ : ∃ j, i = 2 * j := ⟨i / 2, by omega⟩
      rw [(k2 j (by omega)).1] at hv; cases hv; exact fits_lo8 _
    · obtain ⟨j, rfl⟩ : ∃ j, i = 2 * j + 1 := ⟨i / 2, by omega⟩
      rw [(k2 j (by omega)).2] at hv; cases hv; exact fits_lo8 _
/-- the same text -/
def SameT (n : Nat) (f : Nat → Int32) (k : Nat) (g : Nat → Int32) : Prop := n = k ∧ ∀ j, j < n → f j = g j
theorem lo8_inj {x y : Int32} (h0 : ¬ x < 0) (h1 : ¬ 255 < x) (k0 : ¬ y < 0) (k1 : ¬ 255 < y) (h : lo8 x = lo8 y) : x = y := by
  rw [← lo8_mask h0 h1, ← lo8_mask k0 k1, h]
/-- arrays coded by one coder are equal just where the texts are -/
theorem Cod.eqv {cd : Int32} {n k : Nat} {f g : Nat → Int32} {V V' : Cell} (h : Cod cd n f V) (h' : Cod cd k g V') (hf : ∀ j, j < n → ¬ f j < 0 ∧ ¬ 65535 < f j) (hg : ∀ j, j < k → ¬ g j < 0 ∧ ¬ 65535 < g j) : EqC V V' ↔ SameT n f k g := by
  have yvv : ∀ {W : Cell} {i : Nat} {x : Int32}, W.slots[i]? = some (.int x) → yv W i = x := fun q => by unfold yv; rw [q]
  rcases h with ⟨rfl, k1, k2⟩ | ⟨rfl, k1, k2, -⟩
  · rcases h' with ⟨-, m1, m2⟩ | ⟨e, -⟩
    · constructor
      · rintro ⟨e1, e2⟩
        refine ⟨by omega, fun j hj => ?_⟩
        have q := e2 j (by omega)
        rw [yvv (k2 j hj).1, yvv (m2 j (by omega)).1] at q
        exact lo8_inj (hf j hj).1 (k2 j hj).2 (hg j (by omega)).1 (m2 j (by omega)).2 q
      · rintro ⟨rfl, e2⟩
        refine ⟨by omega, fun j hj => ?_⟩
        rw [yvv (k2 j (by omega)).1, yvv (m2 j (by omega)).1, e2 j (by omega)]
    · exact absurd e (by decide)
  · rcases h' with ⟨e, -⟩ | ⟨-, m1, m2, -⟩
    · exact absurd e (by decide)
    · constructor
      · rintro ⟨e1, e2⟩
        refine ⟨by omega, fun j hj => ?_⟩
        have q1 := e2 (2 * j) (by omega)
        have q2 := e2 (2 * j + 1) (by omega)
        rw [yvv (k2 j hj).1, yvv (m2 j (by omega)).1] at q1
        rw [yvv (k2 j hj).2, yvv (m2 j (by omega)).2] at q2
        rw [← pair_says (hf j hj).1 (hf j hj).2, ← pair_says (hg j (by omega)).1 (hg j (by omega)).2, q1, q2]
      · rintro ⟨rfl, e2⟩
        refine ⟨by omega, fun i hi => ?_⟩
        rcases Nat.mod_two_eq_zero_or_one i with e | e
        · obtain ⟨j, rfl⟩ : ∃ j, i = 2 * j := ⟨i / 2, by omega⟩
          rw [yvv (k2 j (by omega)).1, yvv (m2 j (by omega)).1, e2 j (by omega)]
        · obtain ⟨j, rfl⟩ : ∃ j, i = 2 * j + 1 := ⟨i / 2, by omega⟩
          rw [yvv (k2 j (by omega)).2, yvv (m2 j (by omega)).2, e2 j (by omega)]
/-- two codings differ: so do the texts -/
theorem Cod.dif {cd cd' : Int32} {n k : Nat} {f g : Nat → Int32} {V V' : Cell} (h : Cod cd n f V) (h' : Cod cd' k g V') (hne : ¬ cd = cd') : ¬ SameT n f k g := by
  rintro ⟨rfl, e⟩
  rcases h with ⟨rfl, -, k2⟩ | ⟨rfl, -, -, j, hj, hw⟩
  · rcases h' with ⟨rfl, -⟩ | ⟨-, -, -, j, hj, hw⟩
    · exact hne rfl
    · exact (k2 j hj).2 (by rw [e j hj]; exact hw)
  · rcases h' with ⟨-, -, m2⟩ | ⟨rfl, -⟩
    · exact (m2 j hj).2 (by rw [← e j hj]; exact hw)
    · exact hne rfl
/-- an object of exactly C is an instance of C -/
theorem cinst {p : Program} {l : Launch} {e : Env} {R : Room} {s : State} {m : MethodId} {args : Array Value} {below : List Frame} {meth : Method} {c : Code} {T : State} {locs : List Loc} {cells slots : Nat} (X : Stand p l e R s m args below meth c T locs cells slots) (hexec : p.tables.exec = Jvm.exec) {own C : String} {index : Nat} (hown : s.vm.findClass own = some m.cls) (hlink : (Cond.classLink own index C).before args s = true) {a : Addr} (hE : Exact C a T)
    {g : JFrame} (hg : g.method = m) {rest : List Value} (hstack : g.stack = .ref a :: rest) (hdg : decode c.code g.pc = .ok (.instanceof index, 3)) :
    ∃ T', Stand p l e R s m args below meth c T' locs cells slots ∧ T'.heap = T.heap ∧ ∀ target, Steps p.tables e below (T'.setTop { g with pc := g.pc + 3, stack := .int 1 :: rest }) target → Steps p.tables e below (T.setTop g) target := by
  obtain ⟨cB, h1, D, h2, h3, h4⟩ := hE
  have h1' : s.vm.findClass C = some cB := by rw [← X.warmed.alike.findClass]; exact h1
  obtain ⟨vm', X', st⟩ := X.instanceofYes hexec hown hlink h2 h4 h1' (by rw [h3]; exact Jvm.Free.SB.assignable_self _ _) hg hstack hdg
  exact ⟨_, X', rfl, st⟩
theorem cself {p : Program} {l : Launch} {e : Env} {R : Room} {s : State} {m : MethodId} {args : Array Value} {below : List Frame} {meth : Method} {c : Code} {T : State} {locs : List Loc} {cells slots : Nat} (X : Stand p l e R s m args below meth c T locs cells slots) (hexec : p.tables.exec = Jvm.exec) {own C : String} {index : Nat} (hown : s.vm.findClass own = some m.cls) (hlink : (Cond.classLink own index C).before args s = true) {a : Addr} (hE : Exact C a T)
    {g : JFrame} (hg : g.method = m) {rest : List Value} (hstack : g.stack = .ref a :: rest) (hdg : decode c.code g.pc = .ok (.checkcast index, 3)) :
    ∃ T', Stand p l e R s m args below meth c T' locs cells slots ∧ T'.heap = T.heap ∧ ∀ target, Steps p.tables e below (T'.setTop { g with pc := g.pc + 3, stack := .ref a :: rest }) target → Steps p.tables e below (T.setTop g) target := by
  obtain ⟨cB, h1, D, h2, h3, h4⟩ := hE
  have h1' : s.vm.findClass C = some cB := by rw [← X.warmed.alike.findClass]; exact h1
  obtain ⟨vm', X', st⟩ := X.checkcastYes hexec hown hlink h2 h4 h1' (by rw [h3]; exact Jvm.Free.SB.assignable_self _ _) hg hstack hdg
  exact ⟨_, X', rfl, fun t h => st t (by rw [← hstack] at h; exact h)⟩
namespace SEq
def yN : MethodName := ⟨"java/lang/String", "equals", "(Ljava/lang/Object;)Z"⟩
abbrev yB : ByteArray := jdk_42_method_66_code
theorem d0 : decode yB 0 = .ok (.aload_n 0, 1) := by decide +kernel
theorem d1 : decode yB 1 = .ok (.aload_n 1, 1) := by decide +kernel
theorem d2 : decode yB 2 = .ok (.if_acmp (.ne) 5, 3) := by decide +kernel
theorem d5 : decode yB 5 = .ok (.iconst 1, 1) := by decide +kernel
theorem d6 : decode yB 6 = .ok (.ireturn, 1) := by decide +kernel
theorem d7 : decode yB 7 = .ok (.aload_n 1, 1) := by decide +kernel
theorem d8 : decode yB 8 = .ok (.instanceof 10, 3) := by decide +kernel
theorem d11 : decode yB 11 = .ok (.ifCond (.eq) 43, 3) := by decide +kernel
theorem d14 : decode yB 14 = .ok (.aload_n 1, 1) := by decide +kernel
theorem d15 : decode yB 15 = .ok (.checkcast 10, 3) := by decide +kernel
theorem d18 : decode yB 18 = .ok (.astore_n 2, 1) := by decide +kernel
theorem d19 : decode yB 19 = .ok (.getstatic 38, 3) := by decide +kernel
theorem d22 : decode yB 22 = .ok (.ifCond (.eq) 14, 3) := by decide +kernel
theorem d25 : decode yB 25 = .ok (.aload_n 0, 1) := by decide +kernel
theorem d26 : decode yB 26 = .ok (.getfield 15, 3) := by decide +kernel
theorem d29 : decode yB 29 = .ok (.aload_n 2, 1) := by decide +kernel
theorem d30 : decode yB 30 = .ok (.getfield 15, 3) := by decide +kernel
theorem d33 : decode yB 33 = .ok (.if_icmp (.ne) 21, 3) := by decide +kernel
theorem d36 : decode yB 36 = .ok (.aload_n 0, 1) := by decide +kernel
theorem d37 : decode yB 37 = .ok (.getfield 9, 3) := by decide +kernel
theorem d40 : decode yB 40 = .ok (.aload_n 2, 1) := by decide +kernel
theorem d41 : decode yB 41 = .ok (.getfield 9, 3) := by decide +kernel
theorem d44 : decode yB 44 = .ok (.invokestatic 541, 3) := by decide +kernel
theorem d47 : decode yB 47 = .ok (.ifCond (.eq) 7, 3) := by decide +kernel
theorem d50 : decode yB 50 = .ok (.iconst 1, 1) := by decide +kernel
theorem d51 : decode yB 51 = .ok (.goto 4, 3) := by decide +kernel
theorem d54 : decode yB 54 = .ok (.iconst 0, 1) := by decide +kernel
theorem d55 : decode yB 55 = .ok (.ireturn, 1) := by decide +kernel
def site : List Cond := [.classLink "java/lang/String" 10 "java/lang/String", .fieldLink "java/lang/String" 38 "java/lang/String" "COMPACT_STRINGS" "Z", .fieldLink "java/lang/String" 15 "java/lang/String" "coder" "B", .fieldLink "java/lang/String" 9 "java/lang/String" "value" "[B", LEq.tab] ++ staticW "java/lang/String" 541 LEq.yN
def tab : Cond := tabOf yN yB 3 (some .boolean) site
def P (x t : Addr) (V : Cell) (cd : Int32) (n : Nat) (f : Nat → Int32) (y t' : Addr) (V' : Cell) (cd' : Int32) (k : Nat) (g : Nat → Int32) (z : Int32) (args : Array Value) (s : State) : Prop := args = #[.ref x, .ref y] ∧ Txt x t V cd n f s ∧ Txt y t' V' cd' k g s ∧ StaticIs s "java/lang/String" "COMPACT_STRINGS" "Z" (.int z) ∧ ¬ z = 0
/-- equals(Object) of two Strings: whether the texts are the same -/
theorem law (l : Launch) (x t : Addr) (V : Cell) (cd : Int32) (n : Nat) (f : Nat → Int32) (y t' : Addr) (V' : Cell) (cd' : Int32) (k : Nat) (g : Nat → Int32) (z : Int32) : Law l yN 2 1 1 14 yB 3 (some .boolean) site (P x t V cd n f y t' V' cd' k g z) (Says01 (SameT n f k g)) [] 0 0 := by
  refine Law.of_walk (plainFor_of_name (by decide +kernel)) (by decide +kernel) (by decide +kernel) (by decide) (fun _ _ h => by rw [h.1]; rfl) (fun _ U U' hal hh h => ⟨h.1, h.2.1.mv hal hh, h.2.2.1.mv hal hh, h.2.2.2.1.there hal hh, h.2.2.2.2⟩) (fun r U U' V V' h1 hal h2 h => Says01.mv r U U' V V' h1 hal h2 h) ?_
  intro p e s m args below meth c s₁ X0 hexec hbytes hml hret hlk hnm hown hh0 W hP
  obtain ⟨rfl, hx, hy, s1, hz⟩ := hP
  have c1 : Steps p.tables e below (s₁.setTop (entryFrame m #[.ref x, .ref y] 3)) (s₁.setTop (mkF m 2 #[.val (.ref x), .val (.ref y), .unset] [.ref y, .ref x])) := Steps.trans (entry rfl) (by
    show Steps p.tables e below (s₁.setTop (mkF m 0 #[.val (.ref x), .val (.ref y), .unset] [])) _
    refine XS.aloadN X0.here hexec rfl (hb hbytes d0) rfl rfl ?_
    refine XS.aloadN X0.here hexec rfl (hb hbytes d1) rfl rfl ?_
    exact Steps.refl _)
  by_cases hxy : x = y
  · have c2 : Steps p.tables e below (s₁.setTop (entryFrame m #[.ref x, .ref y] 3)) (s₁.setTop (mkF m 6 #[.val (.ref x), .val (.ref y), .unset] [.int 1])) := c1.trans (by
      refine acmpNo X0.here hexec rfl (hb hbytes d2) rfl rfl rfl (by simp [acmp, hxy]) ?_
      refine iconstV X0.here hexec rfl 1 (hb hbytes d5) (by decide) ?_
      exact Steps.refl _)
    subst hxy
    have ec : cd = cd' := by
      obtain ⟨D, fd, a1, a2, a3⟩ := hx.2.2.1
      obtain ⟨D', fd', b1, b2, b3⟩ := hy.2.2.1
      cases a1.symm.trans b1
      obtain ⟨q1, q2, q3, q4⟩ := a2.1
      obtain ⟨r1, r2, r3, r4⟩ := b2.1
      cases q4.symm.trans r4
      cases a3.symm.trans b3; rfl
    have et : t = t' := by
      obtain ⟨D, fd, a1, a2, a3⟩ := hx.2.1
      obtain ⟨D', fd', b1, b2, b3⟩ := hy.2.1
      cases a1.symm.trans b1
      obtain ⟨q1, q2, q3, q4⟩ := a2.1
      obtain ⟨r1, r2, r3, r4⟩ := b2.1
      cases q4.symm.trans r4
      cases a3.symm.trans b3; rfl
    subst ec et
    have ev : V = V' := by cases hx.2.2.2.1.1.symm.trans hy.2.2.2.1.1; rfl
    subst ev
    have hs : SameT n f k g := (Cod.eqv hx.2.2.2.2.1 hy.2.2.2.2.1 hx.2.2.2.2.2 hy.2.2.2.2.2).mp ⟨rfl, fun _ _ => rfl⟩
    exact ⟨s₁, some (.int 1), _, _, _, X0, rfl, rfl, rfl, (fun h => by cases h), ⟨1, rfl, hh0, Or.inl ⟨rfl, hs⟩⟩, fun fs hl => c2.trans (X0.ireturnOut hexec hret rfl (Or.inr (Or.inl rfl)) (hb hbytes d6) hl)⟩
  · have c2 : Steps p.tables e below (s₁.setTop (entryFrame m #[.ref x, .ref y] 3)) (s₁.setTop (mkF m 8 #[.val (.ref x), .val (.ref y), .unset] [.ref y])) := c1.trans (by
      refine acmpYes X0.here hexec rfl (pc0 := 2) rfl (hb hbytes d2) rfl rfl rfl (by simp [acmp, hxy]) (by decide) rfl ?_
      refine XS.aloadN X0.here hexec rfl (hb hbytes d7) rfl rfl ?_
      exact Steps.refl _)
    obtain ⟨T3, X3, q3, st3⟩ := cinst X0 hexec hown (wk W (.classLink "java/lang/String" 10 "java/lang/String")) (hy.mv X0.warmed.alike hh0).1 (g := (mkF m 8 #[.val (.ref x), .val (.ref y), .unset] [.ref y])) rfl (rest := []) rfl (hb hbytes d8)
    have hh3 := q3.trans hh0
    have c4 : Steps p.tables e below (s₁.setTop (entryFrame m #[.ref x, .ref y] 3)) (T3.setTop (mkF m 15 #[.val (.ref x), .val (.ref y), .unset] [.ref y])) := (c2.trans (st3 _ (Steps.refl _))).trans (by
      refine XS.ifNo X3.here hexec rfl (hb hbytes d11) rfl (i0_eq_f (by decide)) ?_
      refine XS.aloadN X3.here hexec rfl (hb hbytes d14) rfl rfl ?_
      exact Steps.refl _)
    obtain ⟨T5, X5, q5, st5⟩ := cself X3 hexec hown (wk W (.classLink "java/lang/String" 10 "java/lang/String")) (hy.mv X3.warmed.alike hh3).1 (g := (mkF m 15 #[.val (.ref x), .val (.ref y), .unset] [.ref y])) rfl (rest := []) rfl (hb hbytes d15)
    have hh5 := q5.trans hh3
    have c6 : Steps p.tables e below (s₁.setTop (entryFrame m #[.ref x, .ref y] 3)) (T5.setTop (mkF m 19 #[.val (.ref x), .val (.ref y), .val (.ref y)] [])) := (c4.trans (st5 _ (Steps.refl _))).trans (by
      refine XS.astoreN X5.here hexec rfl (hb hbytes d18) rfl rfl rfl ?_
      exact Steps.refl _)
    obtain ⟨T7, X7, q7, st7⟩ := X5.sget hexec hown (wk W (.fieldLink "java/lang/String" 38 "java/lang/String" "COMPACT_STRINGS" "Z")) s1 (fun _ _ h => by rw [hh5]; exact h) (g := (mkF m 19 #[.val (.ref x), .val (.ref y), .val (.ref y)] [])) rfl (hb hbytes d19)
    have hh7 := q7.trans hh5
    have c8 : Steps p.tables e below (s₁.setTop (entryFrame m #[.ref x, .ref y] 3)) (T7.setTop (mkF m 26 #[.val (.ref x), .val (.ref y), .val (.ref y)] [.ref x])) := (c6.trans (st7 _ (Steps.refl _))).trans (by
      refine XS.ifNo X7.here hexec rfl (hb hbytes d22) rfl (i0_eq_f hz) ?_
      refine XS.aloadN X7.here hexec rfl (hb hbytes d25) rfl rfl ?_
      exact Steps.refl _)
    obtain ⟨T9, X9, q9, st9⟩ := X7.hget hexec hown (wk W (.fieldLink "java/lang/String" 15 "java/lang/String" "coder" "B")) (hx.mv X7.warmed.alike hh7).2.2.1 (g := (mkF m 26 #[.val (.ref x), .val (.ref y), .val (.ref y)] [.ref x])) rfl (rest := []) rfl (hb hbytes d26)
    have hh9 := q9.trans hh7
    have c10 : Steps p.tables e below (s₁.setTop (entryFrame m #[.ref x, .ref y] 3)) (T9.setTop (mkF m 30 #[.val (.ref x), .val (.ref y), .val (.ref y)] [.ref y, .int cd])) := (c8.trans (st9 _ (Steps.refl _))).trans (by
      refine XS.aloadN X9.here hexec rfl (hb hbytes d29) rfl rfl ?_
      exact Steps.refl _)
    obtain ⟨T11, X11, q11, st11⟩ := X9.hget hexec hown (wk W (.fieldLink "java/lang/String" 15 "java/lang/String" "coder" "B")) (hy.mv X9.warmed.alike hh9).2.2.1 (g := (mkF m 30 #[.val (.ref x), .val (.ref y), .val (.ref y)] [.ref y, .int cd])) rfl (rest := [.int cd]) rfl (hb hbytes d30)
    have hh11 := q11.trans hh9
    have c12 : Steps p.tables e below (s₁.setTop (entryFrame m #[.ref x, .ref y] 3)) (T11.setTop (mkF m 33 #[.val (.ref x), .val (.ref y), .val (.ref y)] [.int cd', .int cd])) := c10.trans (st11 _ (Steps.refl _))
    by_cases hcd : cd = cd'
    · subst hcd
      have c13 : Steps p.tables e below (s₁.setTop (entryFrame m #[.ref x, .ref y] 3)) (T11.setTop (mkF m 37 #[.val (.ref x), .val (.ref y), .val (.ref y)] [.ref x])) := c12.trans (by
        refine XS.icmpNo X11.here hexec rfl (hb hbytes d33) rfl (ii_ne_f rfl) ?_
        refine XS.aloadN X11.here hexec rfl (hb hbytes d36) rfl rfl ?_
        exact Steps.refl _)
      obtain ⟨T14, X14, q14, st14⟩ := X11.hget hexec hown (wk W (.fieldLink "java/lang/String" 9 "java/lang/String" "value" "[B")) (hx.mv X11.warmed.alike hh11).2.1 (g := (mkF m 37 #[.val (.ref x), .val (.ref y), .val (.ref y)] [.ref x])) rfl (rest := []) rfl (hb hbytes d37)
      have hh14 := q14.trans hh11
      have c15 : Steps p.tables e below (s₁.setTop (entryFrame m #[.ref x, .ref y] 3)) (T14.setTop (mkF m 41 #[.val (.ref x), .val (.ref y), .val (.ref y)] [.ref y, .ref t])) := (c13.trans (st14 _ (Steps.refl _))).trans (by
        refine XS.aloadN X14.here hexec rfl (hb hbytes d40) rfl rfl ?_
        exact Steps.refl _)
      obtain ⟨T16, X16, q16, st16⟩ := X14.hget hexec hown (wk W (.fieldLink "java/lang/String" 9 "java/lang/String" "value" "[B")) (hy.mv X14.warmed.alike hh14).2.1 (g := (mkF m 41 #[.val (.ref x), .val (.ref y), .val (.ref y)] [.ref y, .ref t])) rfl (rest := [.ref t]) rfl (hb hbytes d41)
      have hh16 := q16.trans hh14
      have c17 : Steps p.tables e below (s₁.setTop (entryFrame m #[.ref x, .ref y] 3)) (T16.setTop (mkF m 44 #[.val (.ref x), .val (.ref y), .val (.ref y)] [.ref t', .ref t])) := c15.trans (st16 _ (Steps.refl _))
      obtain ⟨v18, T18, X18, E18, g18⟩ := X16.callS hexec (LEq.law l t V t' V') hown (wks W (staticW "java/lang/String" 541 LEq.yN)) (wk W LEq.tab) (W := 0) (Nat.le_of_ble_eq_true rfl) (Nat.le_of_ble_eq_true rfl) (Nat.le_refl _) (Nat.le_refl _) (g := (mkF m 44 #[.val (.ref x), .val (.ref y), .val (.ref y)] [.ref t', .ref t])) rfl (by rw [hml]; rfl) c17 (argsL := [.ref t, .ref t']) (rest := []) rfl rfl (by show 2 * 0 + 0 ≤ _; decide) (hb hbytes d44) (⟨rfl, hx.2.2.2.1.mv X16.warmed.alike hh16, hx.2.2.2.2.1.ty, hy.2.2.2.1.mv X16.warmed.alike hh16, hy.2.2.2.2.1.ty⟩)
      obtain ⟨v, rfl, q18, hv⟩ := E18
      have iff := Cod.eqv hx.2.2.2.2.1 hy.2.2.2.2.1 hx.2.2.2.2.2 hy.2.2.2.2.2
      rcases hv with ⟨rfl, he⟩ | ⟨rfl, he⟩
      · have c19 : Steps p.tables e below (s₁.setTop (entryFrame m #[.ref x, .ref y] 3)) (T18.setTop (mkF m 55 #[.val (.ref x), .val (.ref y), .val (.ref y)] [.int 1])) := Steps.trans g18 (by
          refine XS.ifNo X18.here hexec rfl (hb hbytes d47) rfl (i0_eq_f (by decide)) ?_
          refine iconstV X18.here hexec rfl 1 (hb hbytes d50) (by decide) ?_
          refine XS.goto X18.here hexec rfl (pc0 := 51) rfl (hb hbytes d51) (by decide) rfl ?_
          exact Steps.refl _)
        exact ⟨T18, some (.int 1), _, _, _, X18, rfl, rfl, rfl, (fun h => by cases h), ⟨1, rfl, q18.trans hh16, Or.inl ⟨rfl, iff.mp he⟩⟩, fun fs hl => c19.trans (X18.ireturnOut hexec hret rfl (Or.inr (Or.inl rfl)) (hb hbytes d55) hl)⟩
      · have c19 : Steps p.tables e below (s₁.setTop (entryFrame m #[.ref x, .ref y] 3)) (T18.setTop (mkF m 55 #[.val (.ref x), .val (.ref y), .val (.ref y)] [.int 0])) := Steps.trans g18 (by
          refine XS.ifYes X18.here hexec rfl (pc0 := 47) rfl (hb hbytes d47) rfl (i0_eq_t rfl) (by decide) rfl ?_
          refine iconstV X18.here hexec rfl 0 (hb hbytes d54) (by decide) ?_
          exact Steps.refl _)
        exact ⟨T18, some (.int 0), _, _, _, X18, rfl, rfl, rfl, (fun h => by cases h), ⟨0, rfl, q18.trans hh16, Or.inr ⟨rfl, fun q => he (iff.mpr q)⟩⟩, fun fs hl => c19.trans (X18.ireturnOut hexec hret rfl (Or.inr (Or.inl rfl)) (hb hbytes d55) hl)⟩
    · have c13 : Steps p.tables e below (s₁.setTop (entryFrame m #[.ref x, .ref y] 3)) (T11.setTop (mkF m 55 #[.val (.ref x), .val (.ref y), .val (.ref y)] [.int 0])) := c12.trans (by
        refine XS.icmpYes X11.here hexec rfl (pc0 := 33) rfl (hb hbytes d33) rfl (ii_ne_t hcd) (by decide) rfl ?_
        refine iconstV X11.here hexec rfl 0 (hb hbytes d54) (by decide) ?_
        exact Steps.refl _)
      exact ⟨T11, some (.int 0), _, _, _, X11, rfl, rfl, rfl, (fun h => by cases h), ⟨0, rfl, hh11, Or.inr ⟨rfl, Cod.dif hx.2.2.2.2.1 hy.2.2.2.2.1 hcd⟩⟩, fun fs hl => c13.trans (X11.ireturnOut hexec hret rfl (Or.inr (Or.inl rfl)) (hb hbytes d55) hl)⟩
theorem pays {l : Launch} {R : Room} {p : Program} {e : Env} {below : List Frame} {s : State} {sargs : Array Value} {len W : Nat} (x t : Addr) (V : Cell) (cd : Int32) (n : Nat) (f : Nat → Int32) (y t' : Addr) (V' : Cell) (cd' : Int32) (k : Nat) (g : Nat → Int32) (z : Int32) (htab : tab.before sargs s = true) (hfr : 2 ≤ R.frames) (hlo : W + 28 ≤ R.locals) :
    Back l R p e below s sargs yN len W (fun A₁ a₁ => A₁.cells + 0 ≤ R.cells ∧ A₁.slots + 0 ≤ R.slots ∧ P x t V cd n f y t' V' cd' k g z a₁ A₁.U) (fun A₁ _ v₁ B₁ => Says01 (SameT n f k g) v₁ A₁.U B₁.U ∧ B₁.locs = A₁.locs ++ [] ∧ B₁.cells = A₁.cells + 0 ∧ B₁.slots = A₁.slots + 0) :=
  (law l x t V cd n f y t' V' cd' k g z).pays htab hfr (by omega)
end SEq
end StrChars
namespace StrChars.Road
open Jvm Sem ClassFile Op Lib Jvm.Stand Jvm.Free Jvm.Free.XT
open Jvm.Lib.Cold (StaticIs)
/-- the words of String.equals(Object) -/
abbrev wordsEq : List Jvm.Cond := [.code SEq.yN SEq.yB 3 (some .boolean), .initialized ST, .classLink ST 10 ST, .fieldLink ST 38 ST "COMPACT_STRINGS" "Z", .fieldLink ST 15 ST "coder" "B", .fieldLink ST 9 ST "value" "[B", .methodLink ST 541 LEq.yN, .static LEq.yN, .code LEq.yN LEq.yB 3 (some .boolean), .initialized "java/lang/StringLatin1"]
theorem tabEq_of {a : Array Value} {s : State} (h : ∀ w ∈ wordsEq, w.before a s = true) : SEq.tab.before a s = true := by
  have hl : LEq.tab.before a s = true := unparts (wk h (.code LEq.yN LEq.yB 3 (some .boolean))) (wks h (.initialized LEq.yN.cls :: LEq.site))
  have q := consq hl h
  exact unparts (wk q (.code SEq.yN SEq.yB 3 (some .boolean))) (wks q (.initialized SEq.yN.cls :: SEq.site))
theorem movedEq {Z s : State} {a0 args : Array Value} (hZ : Z.Warmed39 s.vm) (hw : ∀ d ∈ wordsEq, d.before a0 Z = true) : ∀ d ∈ wordsEq, d.before args s = true := fun d hd => by
  have t : ∀ d ∈ wordsEq, (d.onTables && d.keepsFace) = true := by decide +kernel
  exact RoadKit.mv hZ (hw d hd) (t d hd)
/-- the road's facts of a String, as the laws ask it -/
theorem txt_of {Z U : State} {a0 : Array Value} {kI : Nat} (wi : (Jvm.Cond.instantiable ST kI).before a0 Z = true) (al : Z.vm.Alike U.vm) {x t : Addr} {kb : ClassId} {cs : List Int32} {cd N2 : Int32} {vs : List Value} (E : RoadKit.Exa Z U.heap x ST) (V : RoadKit.Fld Z U.heap x ST "value" "[B" (.ref t)) (C : RoadKit.Fld Z U.heap x ST "coder" "B" (.int cd)) (K : RoadKit.Arv Z U.heap t kb .byte N2 vs (.int 0)) (hc : CodA cs cd N2 vs) (hb : ∀ c ∈ cs, ¬ c < 0 ∧ ¬ (65535 : Int32) < c) (l2 : cs.length ≤ 4000) :
    ∃ A, Txt x t A cd cs.length (fun j => cs.getD j 0) U := by
  obtain ⟨A, K1, K2, K3, K4, K5, K6⟩ := K
  have hcod := hc.cod (by omega) K3 K5
  obtain ⟨D, fV, fC, hB, F1, F2, g1, g2, -, -⟩ := strObj wi al E V C
  exact ⟨A, ⟨_, hB.2.2.1, D, hB.1, rfl, by cases q : D.vm <;> first | rfl | exact absurd q (hB.2.1.2 _)⟩, Has.of hB F1 g1, Has.of hB F2 g2, ⟨K1.1, State.isArrayOf_alike al K1.2.1, K1.2.2, by rcases hcod with ⟨-, q, -⟩ | ⟨-, q, -⟩ <;> omega⟩, hcod, fun j hj => by
    have e : cs.getD j 0 = cs[j] := by simp [List.getD_eq_getElem?_getD, hj]
    show ¬ cs.getD j 0 < 0 ∧ ¬ 65535 < cs.getD j 0
    rw [e]; exact hb _ (List.getElem_mem _)⟩
theorem same_list (cs ds : List Int32) : SameT cs.length (fun j => cs.getD j 0) ds.length (fun j => ds.getD j 0) ↔ cs = ds := by
  constructor
  · rintro ⟨e, q⟩
    refine List.ext_getElem e fun j h1 h2 => ?_
    have := q j h1
    simpa [List.getD_eq_getElem?_getD, h1, h2] using this
  · rintro rfl
    exact ⟨rfl, fun _ _ => rfl⟩
/-- **equals(Object) OF TWO SUCH STRINGS**: 1 just where the chars are the same -/
theorem eqW {p : Program} {l : Launch} {e : Env} {R : Room} {s : State} {args : Array Value} {below : List Frame} {len W : Nat} {Z : State} {a0 : Array Value} {h : Heap} (hZ : Z.Warmed39 s.vm) (hw : ∀ d ∈ wordsEq, d.before a0 Z = true) {kI : Nat} (wi : (Jvm.Cond.instantiable ST kI).before a0 Z = true)
    {x t : Addr} {kb : ClassId} {cs : List Int32} {cd N2 : Int32} {vs : List Value} (E : RoadKit.Exa Z h x ST) (V : RoadKit.Fld Z h x ST "value" "[B" (.ref t)) (C : RoadKit.Fld Z h x ST "coder" "B" (.int cd)) (K : RoadKit.Arv Z h t kb .byte N2 vs (.int 0)) (hc : CodA cs cd N2 vs) (hb : ∀ c ∈ cs, ¬ c < 0 ∧ ¬ (65535 : Int32) < c) (l2 : cs.length ≤ 4000)
    {y t' : Addr} {kb' : ClassId} {ds : List Int32} {cd' N2' : Int32} {vs' : List Value} (E' : RoadKit.Exa Z h y ST) (V' : RoadKit.Fld Z h y ST "value" "[B" (.ref t')) (C' : RoadKit.Fld Z h y ST "coder" "B" (.int cd')) (K' : RoadKit.Arv Z h t' kb' .byte N2' vs' (.int 0)) (hc' : CodA ds cd' N2' vs') (hb' : ∀ c ∈ ds, ¬ c < 0 ∧ ¬ (65535 : Int32) < c) (l2' : ds.length ≤ 4000)
    {z : Int32} (S : RoadKit.Sta Z h ST "COMPACT_STRINGS" "Z" (.int z)) (hz : ¬ z = 0) (hfr : 2 ≤ R.frames) (hlo : W + 28 ≤ R.locals) :
    Back l R p e below s args (⟨"java/lang/String", "equals", "(Ljava/lang/Object;)Z"⟩ : MethodName) len W (fun P a => a = #[.ref x, .ref y] ∧ P.U.heap = h ∧ P.cells + 0 ≤ R.cells ∧ P.slots + 0 ≤ R.slots)
      (fun P _ v B => ∃ L, (((v = some (.int 1) ∧ cs = ds) ∨ (v = some (.int 0) ∧ ¬ cs = ds)) ∧ L = [] ∧ B.U.heap = h) ∧ B.locs = P.locs ++ L ∧ B.cells = P.cells + 0 ∧ B.slots = P.slots + 0) := by
  intro m meth c P g ig mk a X hg hsize hdg hW hn hp'
  obtain ⟨rfl, rfl, r1, r2⟩ := hp'
  have al : Z.vm.Alike P.U.vm := hZ.alike.trans X.warmed.alike
  obtain ⟨A, hx⟩ := txt_of wi al E V C K hc hb l2
  obtain ⟨A', hy⟩ := txt_of wi al E' V' C' K' hc' hb' l2'
  obtain ⟨v, B, X', ⟨⟨w, hv, hh, hq⟩, hl, hk, hs⟩, st⟩ := SEq.pays x t A cd cs.length (fun j => cs.getD j 0) y t' A' cd' ds.length (fun j => ds.getD j 0) z (tabEq_of (movedEq hZ hw)) hfr hlo m meth c P g ig mk _ X hg hsize hdg hW hn ⟨r1, r2, rfl, hx, hy, sta_is al S, hz⟩
  refine ⟨v, B, X', ⟨[], ⟨?_, rfl, hh⟩, hl, hk, hs⟩, st⟩
  rcases hq with ⟨rfl, q⟩ | ⟨rfl, q⟩
  · exact Or.inl ⟨hv, (same_list cs ds).mp q⟩
  · exact Or.inr ⟨hv, fun e => q ((same_list cs ds).mpr e)⟩
end StrChars.Road
namespace StrChars
open Jvm Sem ClassFile Op Lib Jvm.Stand Jvm.Free.XT Jvm.Free.ALB Jvm.Free.JM Jvm.Free
open Jvm.Lib.Cold (StaticIs)
namespace ChN
def yN : MethodName := ⟨"java/lang/String", "charAt", "(I)C"⟩
abbrev yB : ByteArray := jdk_42_method_56_code
theorem d0 : decode yB 0 = .ok (.aload_n 0, 1) := by decide +kernel
theorem d1 : decode yB 1 = .ok (.invokevirtual 492, 3) := by decide +kernel
theorem d4 : decode yB 4 = .ok (.ifCond (.eq) 12, 3) := by decide +kernel
theorem d7 : decode yB 7 = .ok (.aload_n 0, 1) := by decide +kernel
theorem d8 : decode yB 8 = .ok (.getfield 9, 3) := by decide +kernel
theorem d11 : decode yB 11 = .ok (.iload_n 1, 1) := by decide +kernel
theorem d12 : decode yB 12 = .ok (.invokestatic 495, 3) := by decide +kernel
theorem d15 : decode yB 15 = .ok (.ireturn, 1) := by decide +kernel
def site : List Cond := [.fieldLink "java/lang/String" 9 "java/lang/String" "value" "[B", IsL.tab, LChA.tab] ++ virtW "java/lang/String" 492 "java/lang/String" IsL.yN IsL.yN ++ staticW "java/lang/String" 495 LChA.yN
def tab : Cond := tabOf yN yB 2 (some .char) site
def P (x t : Addr) (V : Cell) (n : Nat) (f : Nat → Int32) (z : Int32) (fm : Value) (i : Nat) (args : Array Value) (s : State) : Prop := args = #[.ref x, .int (Int32.ofNat i)] ∧ Txt x t V 0 n f s ∧ i < n ∧ StaticIs s "java/lang/String" "COMPACT_STRINGS" "Z" (.int z) ∧ ¬ z = 0 ∧ StaticIs s "jdk/internal/util/Preconditions" "SIOOBE_FORMATTER" "Ljava/util/function/BiFunction;" fm ∧ fm.isRef = true
def E (f : Nat → Int32) (i : Nat) (r : Option Value) (s u : State) : Prop := XT.PureE (some (.int (f i))) r s u
/-- charAt(i) of a Latin-1 String of n chars, i < n: f i -/
theorem law (l : Launch) (x t : Addr) (V : Cell) (n : Nat) (f : Nat → Int32) (z : Int32) (fm : Value) (i : Nat) : Law l yN 2 1 3 40 yB 2 (some .char) site (P x t V n f z fm i) (E f i) [] 0 0 := by
  refine Law.of_walk (plainFor_of_name (by decide +kernel)) (by decide +kernel) (by decide +kernel) (by decide) (fun _ _ h => by rw [h.1]; rfl) (fun _ U U' hal hh h => ⟨h.1, h.2.1.mv hal hh, h.2.2.1, h.2.2.2.1.there hal hh, h.2.2.2.2.1, h.2.2.2.2.2.1.there hal hh, h.2.2.2.2.2.2⟩) (fun r U U' V V' h1 hal h2 h => XT.PureE.mv r U U' V V' h1 hal h2 h) ?_
  intro p e s m args below meth c s₁ X0 hexec hbytes hml hret hlk hnm hown hh0 W hP
  obtain ⟨rfl, hx, hi, s1, hz, s3, rf⟩ := hP
  have v31 := hx.2.2.2.1.2.2.2
  have hr := hx.2.2.2.2.2 i hi
  have hx0 := hx.mv X0.warmed.alike hh0
  have c1 : Steps p.tables e below (s₁.setTop (entryFrame m #[.ref x, .int (Int32.ofNat i)] 2)) (s₁.setTop (mkF m 1 #[.val (.ref x), .val (.int (Int32.ofNat i))] [.ref x])) := Steps.trans (entry rfl) (by
    show Steps p.tables e below (s₁.setTop (mkF m 0 #[.val (.ref x), .val (.int (Int32.ofNat i))] [])) _
    refine XS.aloadN X0.here hexec rfl (hb hbytes d0) rfl rfl ?_
    exact Steps.refl _)
  obtain ⟨v2, T2, X2, E2, g2⟩ := X0.callV hexec (IsL.law l x 0 z) hown (wks W (virtW "java/lang/String" 492 "java/lang/String" IsL.yN IsL.yN)) rfl (by decide) (wk W IsL.tab) (W := 0) (Nat.le_of_ble_eq_true rfl) (Nat.le_of_ble_eq_true rfl) (Nat.le_refl _) (Nat.le_refl _) (hx0.1.fc X0.warmed.alike) hx0.1.is (g := (mkF m 1 #[.val (.ref x), .val (.int (Int32.ofNat i))] [.ref x])) rfl (by rw [hml]; rfl) c1 (argsL := []) (rest := []) rfl rfl (by show 2 * 0 + 0 ≤ _; decide) (hb hbytes d1) (⟨rfl, hx0.2.2.1, hx.2.2.2.2.1.cd, s1.there X0.warmed.alike hh0, hz⟩)
  obtain ⟨rfl, q2⟩ := E2
  have hh2 := q2.trans hh0
  have hx2 := hx.mv X2.warmed.alike hh2
  obtain ⟨-, k1, k2⟩ | ⟨k0, -⟩ := hx.2.2.2.2.1
  · have c3 : Steps p.tables e below (s₁.setTop (entryFrame m #[.ref x, .int (Int32.ofNat i)] 2)) (T2.setTop (mkF m 8 #[.val (.ref x), .val (.int (Int32.ofNat i))] [.ref x])) := Steps.trans g2 (by
      refine XS.ifNo X2.here hexec rfl (hb hbytes d4) rfl (i0_eq_f (by decide)) ?_
      refine XS.aloadN X2.here hexec rfl (hb hbytes d7) rfl rfl ?_
      exact Steps.refl _)
    obtain ⟨T4, X4, q4, st4⟩ := X2.hget hexec hown (wk W (.fieldLink "java/lang/String" 9 "java/lang/String" "value" "[B")) hx2.2.1 (g := (mkF m 8 #[.val (.ref x), .val (.int (Int32.ofNat i))] [.ref x])) rfl (rest := []) rfl (hb hbytes d8)
    have hh4 := q4.trans hh2
    have c5 : Steps p.tables e below (s₁.setTop (entryFrame m #[.ref x, .int (Int32.ofNat i)] 2)) (T4.setTop (mkF m 12 #[.val (.ref x), .val (.int (Int32.ofNat i))] [.int (Int32.ofNat i), .ref t])) := (c3.trans (st4 _ (Steps.refl _))).trans (by
      refine XS.iloadN X4.here hexec rfl (hb hbytes d11) rfl ?_
      exact Steps.refl _)
    obtain ⟨v6, T6, X6, E6, g6⟩ := X4.callS hexec (LChA.law l t V i (lo8 (f i)) fm) hown (wks W (staticW "java/lang/String" 495 LChA.yN)) (wk W LChA.tab) (W := 0) (Nat.le_of_ble_eq_true rfl) (Nat.le_of_ble_eq_true rfl) (Nat.le_refl _) (Nat.le_refl _) (g := (mkF m 12 #[.val (.ref x), .val (.int (Int32.ofNat i))] [.int (Int32.ofNat i), .ref t])) rfl (by rw [hml]; rfl) c5 (argsL := [.ref t, .int (Int32.ofNat i)]) (rest := []) rfl rfl (by show 2 * 0 + 0 ≤ _; decide) (hb hbytes d12) (⟨rfl, hx.2.2.2.1.mv X4.warmed.alike hh4, (k2 i hi).1, s3.there X4.warmed.alike hh4, rf⟩)
    obtain ⟨rfl, q6⟩ := E6
    rw [chr8_lo8 hr.1 (k2 i hi).2] at g6
    exact ⟨T6, some (.int (f i)), _, _, _, X6, rfl, rfl, rfl, (fun h => by cases h), ⟨rfl, q6.trans hh4⟩, fun fs hl => Steps.trans g6 (X6.ireturnOut hexec hret (narrow_ch hr.1 hr.2) (Or.inr (Or.inr (Or.inr (Or.inl rfl)))) (hb hbytes d15) hl)⟩
  · exact absurd k0 (by decide)
theorem pays {l : Launch} {R : Room} {p : Program} {e : Env} {below : List Frame} {s : State} {sargs : Array Value} {len W : Nat} (x t : Addr) (V : Cell) (n : Nat) (f : Nat → Int32) (z : Int32) (fm : Value) (i : Nat) (htab : tab.before sargs s = true) (hfr : 4 ≤ R.frames) (hlo : W + 53 ≤ R.locals) :
    Back l R p e below s sargs yN len W (fun A₁ a₁ => A₁.cells + 0 ≤ R.cells ∧ A₁.slots + 0 ≤ R.slots ∧ P x t V n f z fm i a₁ A₁.U) (fun A₁ _ v₁ B₁ => E f i v₁ A₁.U B₁.U ∧ B₁.locs = A₁.locs ++ [] ∧ B₁.cells = A₁.cells + 0 ∧ B₁.slots = A₁.slots + 0) :=
  (law l x t V n f z fm i).pays htab hfr (by omega)
end ChN
end StrChars
namespace StrChars.Road
open Jvm Sem ClassFile Op Lib Jvm.Stand Jvm.Free Jvm.Free.XT
open Jvm.Lib.Cold (StaticIs)
/-- the words of String.charAt(int), the Latin-1 road alone -/
abbrev wordsChN : List Jvm.Cond := [.code ChN.yN ChN.yB 2 (some .char), .initialized ST, .fieldLink ST 9 ST "value" "[B", .fieldLink ST 38 ST "COMPACT_STRINGS" "Z", .fieldLink ST 15 ST "coder" "B", .code IsL.yN IsL.yB 1 (some .boolean), .methodLink ST 492 IsL.yN, .declares IsL.yN, .selects ST IsL.yN IsL.yN, .instanceMethod IsL.yN,
  .methodLink ST 495 LChA.yN, .static LChA.yN, .code LChA.yN LChA.yB 2 (some .char), .initialized "java/lang/StringLatin1", .methodLink "java/lang/StringLatin1" 9 JO.Str_checkIndex.yN, .static JO.Str_checkIndex.yN, .code JO.Str_checkIndex.yN JO.Str_checkIndex.yB 2 none,
  .fieldLink ST 1053 "jdk/internal/util/Preconditions" "SIOOBE_FORMATTER" "Ljava/util/function/BiFunction;", .methodLink ST 1059 JC.PreCheck.yN, .static JC.PreCheck.yN, .code JC.PreCheck.yN JC.PreCheck.yB 3 (some .int), .initialized "jdk/internal/util/Preconditions"]
theorem tabChN_of {a : Array Value} {s : State} (h : ∀ w ∈ wordsChN, w.before a s = true) : ChN.tab.before a s = true := by
  have hp : JC.PreCheck.tab.before a s = true := unparts (wk h (.code JC.PreCheck.yN JC.PreCheck.yB 3 (some .int))) (wks h (.initialized JC.PreCheck.yN.cls :: JC.PreCheck.site))
  have qk := consq hp h
  have hk : JO.Str_checkIndex.tab.before a s = true := unparts (wk qk (.code JO.Str_checkIndex.yN JO.Str_checkIndex.yB 2 none)) (wks qk (.initialized JO.Str_checkIndex.yN.cls :: JO.Str_checkIndex.site))
  have ql := consq hk h
  have hl : LChA.tab.before a s = true := unparts (wk ql (.code LChA.yN LChA.yB 2 (some .char))) (wks ql (.initialized LChA.yN.cls :: LChA.site))
  have hi : IsL.tab.before a s = true := unparts (wk h (.code IsL.yN IsL.yB 1 (some .boolean))) (wks h (.initialized IsL.yN.cls :: IsL.site))
  have q := consq hi (consq hl h)
  exact unparts (wk q (.code ChN.yN ChN.yB 2 (some .char))) (wks q (.initialized ChN.yN.cls :: ChN.site))
theorem movedChN {Z s : State} {a0 args : Array Value} (hZ : Z.Warmed39 s.vm) (hw : ∀ d ∈ wordsChN, d.before a0 Z = true) : ∀ d ∈ wordsChN, d.before args s = true := fun d hd => by
  have t : ∀ d ∈ wordsChN, (d.onTables && d.keepsFace) = true := by decide +kernel
  exact RoadKit.mv hZ (hw d hd) (t d hd)
/-- **charAt(i) OF A LATIN-1 STRING**, i < n: the char -/
theorem chN {p : Program} {l : Launch} {e : Env} {R : Room} {s : State} {args : Array Value} {below : List Frame} {len W : Nat} {Z : State} {a0 : Array Value} {h : Heap} (hZ : Z.Warmed39 s.vm) (hw : ∀ d ∈ wordsChN, d.before a0 Z = true) {kI : Nat} (wi : (Jvm.Cond.instantiable ST kI).before a0 Z = true)
    {x t : Addr} {kb : ClassId} {cs : List Int32} {N2 z : Int32} {vs : List Value} {fm : Value} {i : Nat} {j : Int32} (E : RoadKit.Exa Z h x ST) (V : RoadKit.Fld Z h x ST "value" "[B" (.ref t)) (C : RoadKit.Fld Z h x ST "coder" "B" (.int 0)) (K : RoadKit.Arv Z h t kb .byte N2 vs (.int 0)) (hc : CodA cs 0 N2 vs) (hb : ∀ c ∈ cs, ¬ c < 0 ∧ ¬ (65535 : Int32) < c)
    (S : RoadKit.Sta Z h ST "COMPACT_STRINGS" "Z" (.int z)) (hz : ¬ z = 0) (F : RoadKit.Sta Z h "jdk/internal/util/Preconditions" "SIOOBE_FORMATTER" "Ljava/util/function/BiFunction;" fm) (rf : fm.isRef = true) (l2 : cs.length ≤ 4000) (hi : i < cs.length) (hj : j = Int32.ofNat i) (hfr : 4 ≤ R.frames) (hlo : W + 53 ≤ R.locals) :
    Back l R p e below s args (⟨"java/lang/String", "charAt", "(I)C"⟩ : MethodName) len W (fun P a => a = #[.ref x, .int j] ∧ P.U.heap = h ∧ P.cells + 0 ≤ R.cells ∧ P.slots + 0 ≤ R.slots)
      (fun P _ v B => ∃ L, (v = some (.int (cs.getD i 0)) ∧ L = [] ∧ B.U.heap = h) ∧ B.locs = P.locs ++ L ∧ B.cells = P.cells + 0 ∧ B.slots = P.slots + 0) := by
  subst hj
  intro m meth c P g ig mk a X hg hsize hdg hW hn hp'
  obtain ⟨rfl, rfl, r1, r2⟩ := hp'
  have al : Z.vm.Alike P.U.vm := hZ.alike.trans X.warmed.alike
  obtain ⟨A, hx⟩ := txt_of wi al E V C K hc hb l2
  obtain ⟨v, B, X', ⟨⟨hv, hh⟩, hl, hk, hs⟩, st⟩ := ChN.pays x t A cs.length (fun j => cs.getD j 0) z fm i (tabChN_of (movedChN hZ hw)) hfr hlo m meth c P g ig mk _ X hg hsize hdg hW hn ⟨r1, r2, rfl, hx, hi, sta_is al S, hz, sta_is al F, rf⟩
  exact ⟨v, B, X', ⟨[], ⟨hv, rfl, hh⟩, hl, hk, hs⟩, st⟩
/-- what backV says of its String, as the contracts of this text ask it: cs's low bytes, coder 0 -/
theorem codOf {cs : List Int32} {n : Nat} (hn : cs.length = n) (hb : ∀ c ∈ cs, ¬ 255 < c) : CodA cs 0 (Int32.ofNat n) ((cs.map lo8).map Value.int) := Or.inl ⟨rfl, by rw [hn], by simp [List.map_map, Function.comp_def], hb⟩
end StrChars.Road
end Jvm.Pilot.@@N@@
namespace Jvm.Pilot.@@N@@
namespace OwnS
open Jvm Jvm.ClassFile Sem Op Lib Jvm.Free Jvm.Stand Jvm.LawKit Jvm.RoadKit Bundle Jvm.OwnKit
abbrev ST : String := "java/lang/String"
/-- a String that spells cs -/
def Str (Z : State) (h : Heap) (x : Addr) (cs : List Int32) : Prop := Exa Z h x ST ∧ ∃ (t : Addr) (kb : ClassId) (cd N2 : Int32) (vs : List Value), Fld Z h x ST "value" "[B" (.ref t) ∧ Fld Z h x ST "coder" "B" (.int cd) ∧ Arv Z h t kb .byte N2 vs (.int 0) ∧ StrChars.Road.CodA cs cd N2 vs ∧ (∀ c ∈ cs, ¬ c < 0 ∧ ¬ (65535 : Int32) < c) ∧ cs.length ≤ 4000
section A
variable {k : Ctx} {R : Room} {Z : State} {EL : List (String × Nat)} {n0 n W : Nat} {h h' : Heap} {x b x' : Addr} {cs ds : List Int32} {a0 : Array Value} {kC : ClassId} {d v0 c0 : Value} {z N : Int32}
theorem Str.ext (S : Str Z h x cs) (E : Ext h h') : Str Z h' x cs := by
  obtain ⟨e, t, kb, cd, N2, vs, v, c, a, r⟩ := S
  exact ⟨e.ext E, t, kb, cd, N2, vs, v.ext E, c.ext E, a.ext E, r⟩
theorem old_le (hO : Old Z n0 h) : n0 ≤ h.size := hO.1 ▸ hO.2.1
theorem payV (hEL : EW Z a0 EL) (hws : ∀ d ∈ StrChars.Road.words, d.before a0 Z = true) (wi : (Jvm.Cond.instantiable ST 4).before a0 Z = true) (hO : Old Z n0 h) (hx0 : n0 ≤ x) (E : Exa Z h x ST) (V : Fld Z h x ST "value" "[B" v0) (C : Fld Z h x ST "coder" "B" c0) (K : Arv Z h b kC .char N (cs.map Value.int) d) (S : Sta Z Z.heap ST "COMPACT_STRINGS" "Z" (.int z)) (hz : ¬ z = 0)
    (hn : cs.length = n) (hN : N = Int32.ofNat n) (l0 : 0 < n) (l2 : n ≤ 4000) (hp : ∀ c ∈ cs, ¬ c < 0 ∧ ¬ (255 : Int32) < c) (hfr : 4 ≤ R.frames) (hlo : W + 65 ≤ R.locals) :
    Paid k R Z EL n0 (⟨"java/lang/String", "<init>", "([C)V"⟩ : MethodName) W #[.ref x, .ref b] h [x] 1 n (fun v h' => v = none ∧ Str Z h' x cs) :=
  Paid.of_back hEL (fun p l e s args below hZ => StrChars.Road.backV hZ hws wi hx0 (old_le hO) E V C K (S.ext hO.2) hz hn hN l0 l2 hp rfl hfr hlo) (fun v h' L q => by
    obtain ⟨q1, q2, q3, q4, q5, t, kb, -, -, -, q6, q7⟩ := q
    subst hN
    refine ⟨⟨q1, q4, t, kb, 0, _, _, q6, q5, q7, StrChars.Road.codOf hn (fun c hc => (hp c hc).2), fun c hc => ⟨(hp c hc).1, fun q => (hp c hc).2 ?_⟩, by omega⟩, q3, q2⟩
    rw [Int32.lt_iff_toInt_lt] at q ⊢
    have e0 : (255 : Int32).toInt = 255 := rfl
    have e1 : (65535 : Int32).toInt = 65535 := rfl
    omega)
end A
/-! the empty String -/
section Emp0
variable {k : Ctx} {R : Room} {Z : State} {EL : List (String × Nat)} {n0 n W : Nat} {h h' : Heap} {x b : Addr} {cs : List Int32} {a0 : Array Value} {kC : ClassId} {d v0 c0 : Value} {z N : Int32}
theorem e4_8 : decode StrChars.New4.yB 8 = .ok (.aload_n 0, 1) := by decide +kernel
theorem e4_9 : decode StrChars.New4.yB 9 = .ok (.ldc 7, 2) := by decide +kernel
theorem e4_11 : decode StrChars.New4.yB 11 = .ok (.getfield 9, 3) := by decide +kernel
theorem e4_14 : decode StrChars.New4.yB 14 = .ok (.putfield 9, 3) := by decide +kernel
theorem e4_17 : decode StrChars.New4.yB 17 = .ok (.aload_n 0, 1) := by decide +kernel
theorem e4_18 : decode StrChars.New4.yB 18 = .ok (.ldc 7, 2) := by decide +kernel
theorem e4_20 : decode StrChars.New4.yB 20 = .ok (.getfield 15, 3) := by decide +kernel
theorem e4_23 : decode StrChars.New4.yB 23 = .ok (.putfield 15, 3) := by decide +kernel
theorem e4_26 : decode StrChars.New4.yB 26 = .ok (.return_, 1) := by decide +kernel
theorem pnST : plainName "java/lang/String" = true := by first | (simp [plainName, overriddenIn]; done) | decide +kernel
theorem pd4 : parseMethodDescriptor "([CIILjava/lang/Void;)V" = some ⟨[.array .char, .int, .int, .object "java/lang/Void"], none⟩ := by decide +kernel
abbrev rm4 : Room := { frames := 1, cells := 4, slots := 8, locals := 12 }
abbrev rm1 : Room := { frames := 2, cells := 4, slots := 8, locals := 29 }
/-- the words that the empty road asks beside StrChars.Road.words -/
abbrev wordsE : List Jvm.Cond := [.stringLink ST 7 "", .instantiable ST 4, .soleField ST "value", .soleField ST "coder"]
theorem atomsOf (hws : ∀ d ∈ StrChars.Road.words, d.before a0 Z = true) (wi : (Jvm.Cond.instantiable ST 4).before a0 Z = true) (w1 : (Jvm.Cond.soleField ST "value").before a0 Z = true) (w2 : (Jvm.Cond.soleField ST "coder").before a0 Z = true) : ∀ a ∈ Bundle.stringAtoms, a.before a0 Z = true := fun a ha => by
  simp only [Bundle.stringAtoms, Bundle.sN, List.mem_cons, List.not_mem_nil, or_false] at ha
  rcases ha with rfl | rfl | rfl | rfl | rfl | rfl | rfl
  · exact hws _ (by decide +kernel)
  · exact wi
  · exact hws _ (by decide +kernel)
  · exact hws _ (by decide +kernel)
  · exact hws _ (by decide +kernel)
  · exact w1
  · exact w2
set_option maxRecDepth 65536 in
set_option maxHeartbeats 4000000 in
theorem met4 (hEL : EW Z a0 EL) (hmem : (ST, 7) ∈ EL) (hws : ∀ d ∈ StrChars.Road.words, d.before a0 Z = true) (hwe : ∀ d ∈ wordsE, d.before a0 Z = true) (hO : Old Z n0 h) (hx0 : n0 ≤ x) (E : Exa Z h x ST) (V : Fld Z h x ST "value" "[B" v0) (C : Fld Z h x ST "coder" "B" c0) :
    Met Z EL n0 StrChars.New4.yN StrChars.New4.yB 6 none rm4 #[.ref x, .ref b, .int 0, .int 0, .null] h [x] (fun v h' => v = none ∧ Str Z h' x []) := by
  have wi := hwe (.instantiable ST 4) (by decide +kernel)
  have wl := hwe (.stringLink ST 7 "") (by decide +kernel)
  have wS := atomsOf hws wi (hwe _ (by decide +kernel)) (hwe _ (by decide +kernel))
  have wfv := hws (.fieldLink ST 9 ST "value" "[B") (by decide +kernel)
  have wfc := hws (.fieldLink ST 15 ST "coder" "B") (by decide +kernel)
  have wlv := hws (.laysFinal ST ST "value" "[B") (by decide +kernel)
  have wlc := hws (.laysFinal ST ST "coder" "B") (by decide +kernel)
  refine Met.of_walk (a0 := a0) pnST hEL hO (allS ⟨E.lt, hx0⟩ all0) (L0 := #[.val (.ref x), .val (.ref b), .val (.int 0), .val (.int 0), .val .null, .unset]) (fun m => by first | (simp [entryFrame, mkF, argsToLocals, Value.category]; done) | rfl) rfl ?_
  intro k H0
  have H1 := H0.aloadN 1 StrChars.New4.d0 rfl
  have H2 := H1.initO 4 (hws (.methodLink ST 1 Lib.objectInit) (by decide +kernel)) (hws (.instanceMethod Lib.objectInit) (by decide +kernel)) (hws (.code Lib.objectInit ⟨#[0xb1]⟩ 1 none) (by decide +kernel)) StrChars.New4.d1 (by decide) (W := 0) (by decide) (by decide)
  have H3 := H2.iloadN 5 StrChars.New4.d4 rfl
  have H4 := H3.ifNo 8 StrChars.New4.d5 rfl
  have H5 := H4.aloadN 9 e4_8 rfl
  obtain ⟨a1, h1, b1, k1, E1, A1, C1, V1, K1, N1, H6⟩ := H5.ldcR 11 wl wS hEL hmem (vs := []) (z := 0) ⟨by simp, rfl⟩ (by decide) rfl e4_9 (n := 0) (by decide) (by decide) (by decide) (by decide)
  have H7 := H6.getF 14 wfv V1 e4_11
  obtain ⟨h2, W2, K2, E2, F2, H8⟩ := H7.putF 17 wfv (V.ext E1) (E.ext E1) (Or.inr ⟨wlv, rfl, rfl⟩) wi (ty := .array .byte) (by decide) rfl rfl e4_14 (List.mem_cons_self ..)
  have nvc : RoadKit.slotOf Z ST "coder" "B" ≠ RoadKit.slotOf Z ST "value" "[B" := slot_ne (Or.inr wlc) (Or.inr wlv) (by decide) (t := .byte) (by decide) (t' := .array .byte) (by decide)
  have C2 : Fld Z h2 x ST "coder" "B" c0 := (C.ext E1).other W2 (Or.inr nvc)
  have H9 := H8.aloadN 18 e4_17 rfl
  obtain ⟨a3, h3, b3, k3, E3, A3, C3, V3, K3, N3, H10⟩ := H9.ldcR 20 wl wS hEL hmem (vs := []) (z := 0) ⟨by simp, rfl⟩ (by decide) rfl e4_18 (n := 0) (by decide) (by decide) (by decide) (by decide)
  have H11 := H10.getF 23 wfc C3 e4_20
  obtain ⟨h4, W4, K4, E4, F4, H12⟩ := H11.putF 26 wfc (C2.ext E3) (E2.ext E3) (Or.inr ⟨wlc, rfl, rfl⟩) wi (ty := .byte) (by decide) rfl rfl e4_23 (List.mem_cons_self ..)
  have nx : b1 ∉ [x] := ninS (fun q => (N1 x (List.mem_cons_self ..)).2 q.symm) nin0
  refine H12.retV rfl e4_26 (by decide) (by decide) ⟨rfl, E4, b1, k1, 0, 0, [], (F2.ext E3).other W4 (Or.inr (Ne.symm nvc)), F4, ((K1.keep K2 nx).ext E3).keep K4 nx, Or.inl ⟨rfl, rfl, rfl, by simp⟩, by simp, by simp⟩
set_option maxRecDepth 65536 in
set_option maxHeartbeats 4000000 in
theorem met1 (hEL : EW Z a0 EL) (hmem : (ST, 7) ∈ EL) (hws : ∀ d ∈ StrChars.Road.words, d.before a0 Z = true) (hwe : ∀ d ∈ wordsE, d.before a0 Z = true) (hO : Old Z n0 h) (hx0 : n0 ≤ x) (E : Exa Z h x ST) (V : Fld Z h x ST "value" "[B" v0) (C : Fld Z h x ST "coder" "B" c0) {vs : List Value} (K : Arv Z h b kC .char 0 vs d) :
    Met Z EL n0 StrChars.New1.yN StrChars.New1.yB 2 none rm1 #[.ref x, .ref b] h [x] (fun v h' => v = none ∧ Str Z h' x []) := by
  refine Met.of_walk (a0 := a0) pnST hEL hO (allS ⟨E.lt, hx0⟩ all0) (L0 := #[.val (.ref x), .val (.ref b)]) (fun m => by first | (simp [entryFrame, mkF, argsToLocals, Value.category]; done) | rfl) rfl ?_
  intro k H0
  have H1 := H0.aloadN 1 StrChars.New1.d0 rfl
  have H2 := H1.aloadN 2 StrChars.New1.d1 rfl
  have H3 := H2.iconst 3 0 StrChars.New1.d2
  have H4 := H3.aloadN 4 StrChars.New1.d3 rfl
  have H5 := H4.alen 5 K StrChars.New1.d4
  have H6 := H5.anull 6 StrChars.New1.d5
  obtain ⟨v, h', ⟨rfl, hQ⟩, hK, H7⟩ := H6.callI 9 (z := StrChars.New4.yN) rfl (hws (.methodLink ST 27 StrChars.New4.yN) (by decide +kernel)) (hws (.instanceMethod StrChars.New4.yN) (by decide +kernel)) (hws (.code StrChars.New4.yN StrChars.New4.yB 6 none) (by decide +kernel)) (by decide) (a := x) (argsL := [.ref b, .int 0, .int 0, .null]) (rest := [])
    (Paid.of_met (W := 0) (met4 (b := b) hEL hmem hws hwe hO hx0 E V C) (hws (.code StrChars.New4.yN StrChars.New4.yB 6 none) (by decide +kernel)) (hws (.initialized ST) (by decide +kernel)) hEL (by decide) (by decide)) (lenOf pd4 rfl) rfl (by decide) StrChars.New1.d6 (by decide) (by decide) (fun x q => q)
  exact H7.retV rfl StrChars.New1.d9 (by decide) (by decide) ⟨rfl, hQ⟩
/-- new String(char[]) of any known chars up to 255, the empty one too: 4 cells, n + 8 slots -/
theorem payStr (hEL : EW Z a0 EL) (hmem : (ST, 7) ∈ EL) (hws : ∀ d ∈ StrChars.Road.words, d.before a0 Z = true) (hwe : ∀ d ∈ wordsE, d.before a0 Z = true) (hO : Old Z n0 h) (hx0 : n0 ≤ x) (E : Exa Z h x ST) (V : Fld Z h x ST "value" "[B" v0) (C : Fld Z h x ST "coder" "B" c0) (K : Arv Z h b kC .char N (cs.map Value.int) d) (S : Sta Z Z.heap ST "COMPACT_STRINGS" "Z" (.int z)) (hz : ¬ z = 0)
    {cap : Nat} (hn : cs.length = n) (hcap : n ≤ cap) (hN : N = Int32.ofNat n) (l2 : cap ≤ 4000) (hp : ∀ c ∈ cs, ¬ c < 0 ∧ ¬ (255 : Int32) < c) (hfr : 4 ≤ R.frames) (hlo : W + 65 ≤ R.locals) :
    Paid k R Z EL n0 (⟨"java/lang/String", "<init>", "([C)V"⟩ : MethodName) W #[.ref x, .ref b] h [x] 4 (cap + 8) (fun v h' => v = none ∧ Str Z h' x cs) := by
  rcases Nat.eq_zero_or_pos n with h0 | h0
  · subst h0
    subst hN
    obtain rfl : cs = [] := List.eq_nil_of_length_eq_zero hn
    exact (Paid.of_met (met1 hEL hmem hws hwe hO hx0 E V C K) (hws (.code StrChars.New1.yN StrChars.New1.yB 2 none) (by decide +kernel)) (hws (.initialized ST) (by decide +kernel)) hEL (by show 2 + 1 ≤ _; omega) (by show W + (2 + 11) + 29 ≤ _; omega)).more (by decide) (by show 8 ≤ _; omega)
  · exact (payV hEL hws (hwe _ (by decide +kernel)) hO hx0 E V C K S hz hn hN h0 (by omega) hp hfr hlo).more (by decide) (by omega)
end Emp0
/-! equals, isEmpty, length, charAt -/
section Calls0
variable {k : Ctx} {R : Room} {Z : State} {EL : List (String × Nat)} {n0 W : Nat} {h : Heap} {x x' : Addr} {cs ds : List Int32} {a0 : Array Value} {z : Int32}
theorem frOf {L : List Loc} (q : L = []) : Fr n0 L := by subst q; exact Fr.nil n0
theorem payEq (hEL : EW Z a0 EL) (hw : ∀ d ∈ StrChars.Road.wordsEq, d.before a0 Z = true) (wi : (Jvm.Cond.instantiable ST 4).before a0 Z = true) (hO : Old Z n0 h) (A : Str Z h x cs) (D : Str Z h x' ds) (S : Sta Z Z.heap ST "COMPACT_STRINGS" "Z" (.int z)) (hz : ¬ z = 0) (hfr : 2 ≤ R.frames) (hlo : W + 28 ≤ R.locals) :
    Paid k R Z EL n0 (⟨"java/lang/String", "equals", "(Ljava/lang/Object;)Z"⟩ : MethodName) W #[.ref x, .ref x'] h [] 0 0 (fun v h' => h' = h ∧ v = some (.int (if cs = ds then 1 else 0))) := by
  obtain ⟨a1, a2, a3, a4, a5, a6, a7, a8, a9, a10, a11, a12⟩ := A
  obtain ⟨b1, b2, b3, b4, b5, b6, b7, b8, b9, b10, b11, b12⟩ := D
  exact Paid.of_back (QB := fun v h' L => ((v = some (.int 1) ∧ cs = ds) ∨ (v = some (.int 0) ∧ ¬ cs = ds)) ∧ L = [] ∧ h' = h) hEL (fun p l e s args below hZ => StrChars.Road.eqW hZ hw wi a1 a7 a8 a9 a10 a11 a12 b1 b7 b8 b9 b10 b11 b12 (S.ext hO.2) hz hfr hlo) (fun v h' L q => by
    obtain ⟨q1, q2, rfl⟩ := q
    refine ⟨⟨rfl, ?_⟩, Keep.refl _ _, frOf q2⟩
    rcases q1 with ⟨rfl, q⟩ | ⟨rfl, q⟩ <;> simp [q])
theorem payCh (hEL : EW Z a0 EL) (hw : ∀ d ∈ StrChars.Road.wordsChN, d.before a0 Z = true) (wi : (Jvm.Cond.instantiable ST 4).before a0 Z = true) (hO : Old Z n0 h) (A : Str Z h x cs) (h8 : ∀ c ∈ cs, ¬ (255 : Int32) < c) (S : Sta Z Z.heap ST "COMPACT_STRINGS" "Z" (.int z)) (hz : ¬ z = 0) {fm : Value} (F : Sta Z Z.heap "jdk/internal/util/Preconditions" "SIOOBE_FORMATTER" "Ljava/util/function/BiFunction;" fm) (rf : fm.isRef = true) {i : Nat} {j : Int32} (hi : i < cs.length) (hj : j = Int32.ofNat i) (hfr : 4 ≤ R.frames) (hlo : W + 53 ≤ R.locals) :
    Paid k R Z EL n0 (⟨"java/lang/String", "charAt", "(I)C"⟩ : MethodName) W #[.ref x, .int j] h [] 0 0 (fun v h' => h' = h ∧ v = some (.int (cs.getD i 0))) := by
  obtain ⟨a1, a2, a3, a4, a5, a6, a7, a8, a9, a10, a11, a12⟩ := A
  have hcd : a4 = 0 := by
    rcases a10 with q | q
    · exact q.1
    · obtain ⟨c, hc, hq⟩ := q.2.2.2; exact absurd hq (h8 c hc)
  subst hcd
  exact Paid.of_back (QB := fun v h' L => v = some (.int (cs.getD i 0)) ∧ L = [] ∧ h' = h) hEL (fun p l e s args below hZ => StrChars.Road.chN hZ hw wi a1 a7 a8 a9 a10 a11 (S.ext hO.2) hz (F.ext hO.2) rf a12 hi hj hfr hlo) (fun v h' L q => by
    obtain ⟨q1, q2, rfl⟩ := q
    exact ⟨⟨rfl, q1⟩, Keep.refl _ _, frOf q2⟩)
end Calls0
end OwnS
end Jvm.Pilot.@@N@@
namespace Jvm.Pilot.@@N@@
open Jvm Jvm.ClassFile Sem Op Lib Jvm.Free Jvm.Stand Jvm.LawKit Jvm.RoadKit Bundle Jvm.OwnKit OwnS Jvm.Pilot.@@N@@.Jvm.D

abbrev C8 (x : Int32) : Prop := ¬ x < 0 ∧ ¬ (255 : Int32) < x
theorem C8.nar {x : Int32} (h : C8 x) : nar .char x = x := nar_char h.1 (fun q => h.2 (by rw [Int32.lt_iff_toInt_lt] at q ⊢; have e0 : (255 : Int32).toInt = 255 := rfl; have e1 : (65535 : Int32).toInt = 65535 := rfl; omega))
theorem c8m (p : Int32) : C8 ((p &&& (255 : Int32)).toUInt32.toUInt16.toUInt32.toInt32) := by
  rw [i2c_mask]
  obtain ⟨q1, q2⟩ := c_and p 255 (by decide)
  have e0 : (255 : Int32).toInt = 255 := rfl
  have e1 : (0 : Int32).toInt = 0 := rfl
  constructor <;> rw [Int32.lt_iff_toInt_lt] <;> omega
theorem mask3 (p : Int32) : (p &&& (3 : Int32)) = 0 ∨ (p &&& (3 : Int32)) = 1 ∨ (p &&& (3 : Int32)) = 2 ∨ (p &&& (3 : Int32)) = 3 := by
  obtain ⟨q1, q2⟩ := c_and p 3 (by decide)
  have e3 : (3 : Int32).toInt = 3 := rfl
  have e2 : (2 : Int32).toInt = 2 := rfl
  have e1 : (1 : Int32).toInt = 1 := rfl
  have e0 : (0 : Int32).toInt = 0 := rfl
  have : (p &&& 3).toInt = 0 ∨ (p &&& 3).toInt = 1 ∨ (p &&& 3).toInt = 2 ∨ (p &&& 3).toInt = 3 := by omega
  rcases this with q | q | q | q
  · exact Or.inl (Int32.toInt_inj.mp (q.trans e0.symm))
  · exact Or.inr (Or.inl (Int32.toInt_inj.mp (q.trans e1.symm)))
  · exact Or.inr (Or.inr (Or.inl (Int32.toInt_inj.mp (q.trans e2.symm))))
  · exact Or.inr (Or.inr (Or.inr (Int32.toInt_inj.mp (q.trans e3.symm))))
abbrev In4 (t : Int32) : Prop := t = 0 ∨ t = 1 ∨ t = 2 ∨ t = 3
def chs (l x0 x1 x2 : Int32) : List Int32 := if l = 0 then [] else if l = 1 then [x0] else if l = 2 then [x0, x1] else [x0, x1, x2]
theorem chs_len {l : Int32} (x0 x1 x2 : Int32) (hl : In4 l) : l = Int32.ofNat (chs l x0 x1 x2).length := by rcases hl with rfl | rfl | rfl | rfl <;> rfl
theorem chs_le (l x0 x1 x2 : Int32) : (chs l x0 x1 x2).length ≤ 3 := by
  unfold chs
  split
  · simp
  split
  · simp
  split <;> simp
theorem chs_c8 {l x0 x1 x2 : Int32} (c0 : C8 x0) (c1 : C8 x1) (c2 : C8 x2) : ∀ c ∈ chs l x0 x1 x2, ¬ c < 0 ∧ ¬ (255 : Int32) < c := by
  intro c hc
  unfold chs at hc
  split at hc
  · simp at hc
  split at hc
  · simp only [List.mem_cons, List.not_mem_nil, or_false] at hc; subst hc; exact c0
  split at hc
  · simp only [List.mem_cons, List.not_mem_nil, or_false] at hc; rcases hc with rfl | rfl <;> first | exact c0 | exact c1
  · simp only [List.mem_cons, List.not_mem_nil, or_false] at hc; rcases hc with rfl | rfl | rfl <;> first | exact c0 | exact c1 | exact c2

theorem dA_0 : decode method_3_code 0 = .ok (.iload_n 0, 1) := by decide +kernel
theorem dA_1 : decode method_3_code 1 = .ok (.iload_n 1, 1) := by decide +kernel
theorem dA_2 : decode method_3_code 2 = .ok (.invokestatic 28, 3) := by decide +kernel
theorem dA_5 : decode method_3_code 5 = .ok (.istore 4, 2) := by decide +kernel
theorem dA_7 : decode method_3_code 7 = .ok (.iload 4, 2) := by decide +kernel
theorem dA_9 : decode method_3_code 9 = .ok (.ifCond .eq 6, 3) := by decide +kernel
theorem dA_12 : decode method_3_code 12 = .ok (.iload 4, 2) := by decide +kernel
theorem dA_14 : decode method_3_code 14 = .ok (.ireturn, 1) := by decide +kernel
theorem dA_15 : decode method_3_code 15 = .ok (.lload_n 2, 1) := by decide +kernel
theorem dA_16 : decode method_3_code 16 = .ok (.bipush 8, 2) := by decide +kernel
theorem dA_18 : decode method_3_code 18 = .ok (.iload_n 1, 1) := by decide +kernel
theorem dA_19 : decode method_3_code 19 = .ok (.imul, 1) := by decide +kernel
theorem dA_20 : decode method_3_code 20 = .ok (.lushr, 1) := by decide +kernel
theorem dA_21 : decode method_3_code 21 = .ok (.ldc2_w 32, 3) := by decide +kernel
theorem dA_24 : decode method_3_code 24 = .ok (.land, 1) := by decide +kernel
theorem dA_25 : decode method_3_code 25 = .ok (.l2i, 1) := by decide +kernel
theorem dA_26 : decode method_3_code 26 = .ok (.i2c, 1) := by decide +kernel
theorem dA_27 : decode method_3_code 27 = .ok (.ireturn, 1) := by decide +kernel
theorem dT_0 : decode method_4_code 0 = .ok (.iload_n 0, 1) := by decide +kernel
theorem dT_1 : decode method_4_code 1 = .ok (.ifCond .ne 15, 3) := by decide +kernel
theorem dT_4 : decode method_4_code 4 = .ok (.iload_n 1, 1) := by decide +kernel
theorem dT_5 : decode method_4_code 5 = .ok (.iconst 3, 1) := by decide +kernel
theorem dT_6 : decode method_4_code 6 = .ok (.if_icmp .ge 10, 3) := by decide +kernel
theorem dT_9 : decode method_4_code 9 = .ok (.ldc 34, 2) := by decide +kernel
theorem dT_11 : decode method_4_code 11 = .ok (.iload_n 1, 1) := by decide +kernel
theorem dT_12 : decode method_4_code 12 = .ok (.invokevirtual 36, 3) := by decide +kernel
theorem dT_15 : decode method_4_code 15 = .ok (.ireturn, 1) := by decide +kernel
theorem dT_16 : decode method_4_code 16 = .ok (.iload_n 0, 1) := by decide +kernel
theorem dT_17 : decode method_4_code 17 = .ok (.iconst 1, 1) := by decide +kernel
theorem dT_18 : decode method_4_code 18 = .ok (.if_icmp .ne 15, 3) := by decide +kernel
theorem dT_21 : decode method_4_code 21 = .ok (.iload_n 1, 1) := by decide +kernel
theorem dT_22 : decode method_4_code 22 = .ok (.iconst 4, 1) := by decide +kernel
theorem dT_23 : decode method_4_code 23 = .ok (.if_icmp .ge 10, 3) := by decide +kernel
theorem dT_26 : decode method_4_code 26 = .ok (.ldc 40, 2) := by decide +kernel
theorem dT_28 : decode method_4_code 28 = .ok (.iload_n 1, 1) := by decide +kernel
theorem dT_29 : decode method_4_code 29 = .ok (.invokevirtual 36, 3) := by decide +kernel
theorem dT_32 : decode method_4_code 32 = .ok (.ireturn, 1) := by decide +kernel
theorem dT_33 : decode method_4_code 33 = .ok (.iload_n 0, 1) := by decide +kernel
theorem dT_34 : decode method_4_code 34 = .ok (.iconst 2, 1) := by decide +kernel
theorem dT_35 : decode method_4_code 35 = .ok (.if_icmp .ne 15, 3) := by decide +kernel
theorem dT_38 : decode method_4_code 38 = .ok (.iload_n 1, 1) := by decide +kernel
theorem dT_39 : decode method_4_code 39 = .ok (.iconst 4, 1) := by decide +kernel
theorem dT_40 : decode method_4_code 40 = .ok (.if_icmp .ge 10, 3) := by decide +kernel
theorem dT_43 : decode method_4_code 43 = .ok (.ldc 42, 2) := by decide +kernel
theorem dT_45 : decode method_4_code 45 = .ok (.iload_n 1, 1) := by decide +kernel
theorem dT_46 : decode method_4_code 46 = .ok (.invokevirtual 36, 3) := by decide +kernel
theorem dT_49 : decode method_4_code 49 = .ok (.ireturn, 1) := by decide +kernel
theorem dT_50 : decode method_4_code 50 = .ok (.iload_n 0, 1) := by decide +kernel
theorem dT_51 : decode method_4_code 51 = .ok (.iconst 3, 1) := by decide +kernel
theorem dT_52 : decode method_4_code 52 = .ok (.if_icmp .ne 16, 3) := by decide +kernel
theorem dT_55 : decode method_4_code 55 = .ok (.iload_n 1, 1) := by decide +kernel
theorem dT_56 : decode method_4_code 56 = .ok (.bipush 7, 2) := by decide +kernel
theorem dT_58 : decode method_4_code 58 = .ok (.if_icmp .ge 10, 3) := by decide +kernel
theorem dT_61 : decode method_4_code 61 = .ok (.ldc 44, 2) := by decide +kernel
theorem dT_63 : decode method_4_code 63 = .ok (.iload_n 1, 1) := by decide +kernel
theorem dT_64 : decode method_4_code 64 = .ok (.invokevirtual 36, 3) := by decide +kernel
theorem dT_67 : decode method_4_code 67 = .ok (.ireturn, 1) := by decide +kernel
theorem dT_68 : decode method_4_code 68 = .ok (.iconst 0, 1) := by decide +kernel
theorem dT_69 : decode method_4_code 69 = .ok (.ireturn, 1) := by decide +kernel
theorem dE_0 : decode method_5_code 0 = .ok (.iload_n 1, 1) := by decide +kernel
theorem dE_1 : decode method_5_code 1 = .ok (.iconst 3, 1) := by decide +kernel
theorem dE_2 : decode method_5_code 2 = .ok (.if_icmp .lt 27, 3) := by decide +kernel
theorem dE_5 : decode method_5_code 5 = .ok (.aload_n 0, 1) := by decide +kernel
theorem dE_6 : decode method_5_code 6 = .ok (.iconst 0, 1) := by decide +kernel
theorem dE_7 : decode method_5_code 7 = .ok (.caload, 1) := by decide +kernel
theorem dE_8 : decode method_5_code 8 = .ok (.bipush 108, 2) := by decide +kernel
theorem dE_10 : decode method_5_code 10 = .ok (.if_icmp .ne 19, 3) := by decide +kernel
theorem dE_13 : decode method_5_code 13 = .ok (.aload_n 0, 1) := by decide +kernel
theorem dE_14 : decode method_5_code 14 = .ok (.iconst 1, 1) := by decide +kernel
theorem dE_15 : decode method_5_code 15 = .ok (.caload, 1) := by decide +kernel
theorem dE_16 : decode method_5_code 16 = .ok (.bipush 101, 2) := by decide +kernel
theorem dE_18 : decode method_5_code 18 = .ok (.if_icmp .ne 11, 3) := by decide +kernel
theorem dE_21 : decode method_5_code 21 = .ok (.aload_n 0, 1) := by decide +kernel
theorem dE_22 : decode method_5_code 22 = .ok (.iconst 2, 1) := by decide +kernel
theorem dE_23 : decode method_5_code 23 = .ok (.caload, 1) := by decide +kernel
theorem dE_24 : decode method_5_code 24 = .ok (.bipush 109, 2) := by decide +kernel
theorem dE_26 : decode method_5_code 26 = .ok (.if_icmp .eq 5, 3) := by decide +kernel
theorem dE_29 : decode method_5_code 29 = .ok (.aconst_null, 1) := by decide +kernel
theorem dE_30 : decode method_5_code 30 = .ok (.areturn, 1) := by decide +kernel
theorem dE_31 : decode method_5_code 31 = .ok (.iload_n 1, 1) := by decide +kernel
theorem dE_32 : decode method_5_code 32 = .ok (.iconst 3, 1) := by decide +kernel
theorem dE_33 : decode method_5_code 33 = .ok (.if_icmp .ne 7, 3) := by decide +kernel
theorem dE_36 : decode method_5_code 36 = .ok (.getstatic 46, 3) := by decide +kernel
theorem dE_39 : decode method_5_code 39 = .ok (.areturn, 1) := by decide +kernel
theorem dE_40 : decode method_5_code 40 = .ok (.iload_n 1, 1) := by decide +kernel
theorem dE_41 : decode method_5_code 41 = .ok (.iconst 4, 1) := by decide +kernel
theorem dE_42 : decode method_5_code 42 = .ok (.if_icmp .ne 29, 3) := by decide +kernel
theorem dE_45 : decode method_5_code 45 = .ok (.aload_n 0, 1) := by decide +kernel
theorem dE_46 : decode method_5_code 46 = .ok (.iconst 3, 1) := by decide +kernel
theorem dE_47 : decode method_5_code 47 = .ok (.caload, 1) := by decide +kernel
theorem dE_48 : decode method_5_code 48 = .ok (.bipush 104, 2) := by decide +kernel
theorem dE_50 : decode method_5_code 50 = .ok (.if_icmp .ne 7, 3) := by decide +kernel
theorem dE_53 : decode method_5_code 53 = .ok (.getstatic 50, 3) := by decide +kernel
theorem dE_56 : decode method_5_code 56 = .ok (.areturn, 1) := by decide +kernel
theorem dE_57 : decode method_5_code 57 = .ok (.aload_n 0, 1) := by decide +kernel
theorem dE_58 : decode method_5_code 58 = .ok (.iconst 3, 1) := by decide +kernel
theorem dE_59 : decode method_5_code 59 = .ok (.caload, 1) := by decide +kernel
theorem dE_60 : decode method_5_code 60 = .ok (.bipush 113, 2) := by decide +kernel
theorem dE_62 : decode method_5_code 62 = .ok (.if_icmp .ne 7, 3) := by decide +kernel
theorem dE_65 : decode method_5_code 65 = .ok (.getstatic 53, 3) := by decide +kernel
theorem dE_68 : decode method_5_code 68 = .ok (.areturn, 1) := by decide +kernel
theorem dE_69 : decode method_5_code 69 = .ok (.aconst_null, 1) := by decide +kernel
theorem dE_70 : decode method_5_code 70 = .ok (.areturn, 1) := by decide +kernel
theorem dE_71 : decode method_5_code 71 = .ok (.iload_n 1, 1) := by decide +kernel
theorem dE_72 : decode method_5_code 72 = .ok (.bipush 7, 2) := by decide +kernel
theorem dE_74 : decode method_5_code 74 = .ok (.if_icmp .ne 40, 3) := by decide +kernel
theorem dE_77 : decode method_5_code 77 = .ok (.aload_n 0, 1) := by decide +kernel
theorem dE_78 : decode method_5_code 78 = .ok (.iconst 3, 1) := by decide +kernel
theorem dE_79 : decode method_5_code 79 = .ok (.caload, 1) := by decide +kernel
theorem dE_80 : decode method_5_code 80 = .ok (.bipush 99, 2) := by decide +kernel
theorem dE_82 : decode method_5_code 82 = .ok (.if_icmp .ne 32, 3) := by decide +kernel
theorem dE_85 : decode method_5_code 85 = .ok (.aload_n 0, 1) := by decide +kernel
theorem dE_86 : decode method_5_code 86 = .ok (.iconst 4, 1) := by decide +kernel
theorem dE_87 : decode method_5_code 87 = .ok (.caload, 1) := by decide +kernel
theorem dE_88 : decode method_5_code 88 = .ok (.bipush 97, 2) := by decide +kernel
theorem dE_90 : decode method_5_code 90 = .ok (.if_icmp .ne 24, 3) := by decide +kernel
theorem dE_93 : decode method_5_code 93 = .ok (.aload_n 0, 1) := by decide +kernel
theorem dE_94 : decode method_5_code 94 = .ok (.iconst 5, 1) := by decide +kernel
theorem dE_95 : decode method_5_code 95 = .ok (.caload, 1) := by decide +kernel
theorem dE_96 : decode method_5_code 96 = .ok (.bipush 115, 2) := by decide +kernel
theorem dE_98 : decode method_5_code 98 = .ok (.if_icmp .ne 16, 3) := by decide +kernel
theorem dE_101 : decode method_5_code 101 = .ok (.aload_n 0, 1) := by decide +kernel
theorem dE_102 : decode method_5_code 102 = .ok (.bipush 6, 2) := by decide +kernel
theorem dE_104 : decode method_5_code 104 = .ok (.caload, 1) := by decide +kernel
theorem dE_105 : decode method_5_code 105 = .ok (.bipush 101, 2) := by decide +kernel
theorem dE_107 : decode method_5_code 107 = .ok (.if_icmp .ne 7, 3) := by decide +kernel
theorem dE_110 : decode method_5_code 110 = .ok (.getstatic 56, 3) := by decide +kernel
theorem dE_113 : decode method_5_code 113 = .ok (.areturn, 1) := by decide +kernel
theorem dE_114 : decode method_5_code 114 = .ok (.aconst_null, 1) := by decide +kernel
theorem dE_115 : decode method_5_code 115 = .ok (.areturn, 1) := by decide +kernel
theorem dN_0 : decode prog_67_method_4_code 0 = .ok (.invokestatic 39, 3) := by decide +kernel
theorem dN_3 : decode prog_67_method_4_code 3 = .ok (.astore_n 1, 1) := by decide +kernel
theorem dN_4 : decode prog_67_method_4_code 4 = .ok (.aload_n 1, 1) := by decide +kernel
theorem dN_5 : decode prog_67_method_4_code 5 = .ok (.arraylength, 1) := by decide +kernel
theorem dN_6 : decode prog_67_method_4_code 6 = .ok (.istore_n 2, 1) := by decide +kernel
theorem dN_7 : decode prog_67_method_4_code 7 = .ok (.iconst 0, 1) := by decide +kernel
theorem dN_8 : decode prog_67_method_4_code 8 = .ok (.istore_n 3, 1) := by decide +kernel
theorem dN_9 : decode prog_67_method_4_code 9 = .ok (.iload_n 3, 1) := by decide +kernel
theorem dN_10 : decode prog_67_method_4_code 10 = .ok (.iload_n 2, 1) := by decide +kernel
theorem dN_11 : decode prog_67_method_4_code 11 = .ok (.if_icmp .ge 29, 3) := by decide +kernel
theorem dN_14 : decode prog_67_method_4_code 14 = .ok (.aload_n 1, 1) := by decide +kernel
theorem dN_15 : decode prog_67_method_4_code 15 = .ok (.iload_n 3, 1) := by decide +kernel
theorem dN_16 : decode prog_67_method_4_code 16 = .ok (.aaload, 1) := by decide +kernel
theorem dN_17 : decode prog_67_method_4_code 17 = .ok (.astore 4, 2) := by decide +kernel
theorem dN_19 : decode prog_67_method_4_code 19 = .ok (.aload 4, 2) := by decide +kernel
theorem dN_21 : decode prog_67_method_4_code 21 = .ok (.getfield 35, 3) := by decide +kernel
theorem dN_24 : decode prog_67_method_4_code 24 = .ok (.aload_n 0, 1) := by decide +kernel
theorem dN_25 : decode prog_67_method_4_code 25 = .ok (.invokevirtual 43, 3) := by decide +kernel
theorem dN_28 : decode prog_67_method_4_code 28 = .ok (.ifCond .eq 6, 3) := by decide +kernel
theorem dN_31 : decode prog_67_method_4_code 31 = .ok (.aload 4, 2) := by decide +kernel
theorem dN_33 : decode prog_67_method_4_code 33 = .ok (.areturn, 1) := by decide +kernel
theorem dN_34 : decode prog_67_method_4_code 34 = .ok (.iinc 3 1, 3) := by decide +kernel
theorem dN_37 : decode prog_67_method_4_code 37 = .ok (.goto (-28), 3) := by decide +kernel
theorem dN_40 : decode prog_67_method_4_code 40 = .ok (.aconst_null, 1) := by decide +kernel
theorem dN_41 : decode prog_67_method_4_code 41 = .ok (.areturn, 1) := by decide +kernel
theorem dV_0 : decode prog_67_method_1_code 0 = .ok (.getstatic 16, 3) := by decide +kernel
theorem dV_3 : decode prog_67_method_1_code 3 = .ok (.invokevirtual 20, 3) := by decide +kernel
theorem dV_6 : decode prog_67_method_1_code 6 = .ok (.checkcast 21, 3) := by decide +kernel
theorem dV_9 : decode prog_67_method_1_code 9 = .ok (.areturn, 1) := by decide +kernel
theorem pd_0 : parseMethodDescriptor "(IIJ)C" = some ⟨[.int, .int, .long], (some .char)⟩ := by decide +kernel
theorem pd_1 : parseMethodDescriptor "(II)C" = some ⟨[.int, .int], (some .char)⟩ := by decide +kernel
theorem pd_2 : parseMethodDescriptor "([CI)Lcom/example/ruleweave/ruleweave/transfer/LemmaPart;" = some ⟨[(.array .char), .int], (some (.object "com/example/ruleweave/ruleweave/transfer/LemmaPart"))⟩ := by decide +kernel
theorem pd_3 : parseMethodDescriptor "(Ljava/lang/String;)Lcom/example/ruleweave/ruleweave/transfer/LemmaPart;" = some ⟨[(.object "java/lang/String")], (some (.object "com/example/ruleweave/ruleweave/transfer/LemmaPart"))⟩ := by decide +kernel
theorem pd_4 : parseMethodDescriptor "()[Lcom/example/ruleweave/ruleweave/transfer/LemmaPart;" = some ⟨[], (some (.array (.object "com/example/ruleweave/ruleweave/transfer/LemmaPart")))⟩ := by decide +kernel
theorem pd_5 : parseMethodDescriptor "(Ljava/lang/Object;)Z" = some ⟨[(.object "java/lang/Object")], (some .boolean)⟩ := by decide +kernel
theorem pd_6 : parseMethodDescriptor "(I)C" = some ⟨[.int], (some .char)⟩ := by decide +kernel
theorem pd_7 : parseMethodDescriptor "([C)V" = some ⟨[(.array .char)], none⟩ := by decide +kernel
theorem pnL : plainName "com/example/ruleweave/ruleweave/transfer/LemmaPartNamedPinLaw" = true := by first | (simp [plainName, overriddenIn]; done) | decide +kernel
theorem pnS : plainName "com/example/ruleweave/ruleweave/transfer/LemmaPart" = true := by first | (simp [plainName, overriddenIn]; done) | decide +kernel
abbrev EL1 : List (String × Nat) := [("com/example/ruleweave/ruleweave/transfer/LemmaPartNamedPinLaw", 34), ("com/example/ruleweave/ruleweave/transfer/LemmaPartNamedPinLaw", 40), ("com/example/ruleweave/ruleweave/transfer/LemmaPartNamedPinLaw", 42), ("com/example/ruleweave/ruleweave/transfer/LemmaPartNamedPinLaw", 44), (ST, 7)]
theorem lt_of {j n : Nat} (hj : j < 7) (hn : n ≤ 7) (h : Int32.ofNat j < Int32.ofNat n) : j < n := by
  rw [Int32.lt_iff_toInt_lt, Int32.toInt_ofNat_small (by omega), Int32.toInt_ofNat_small (by omega)] at h
  omega
theorem c8_narrow {c : Int32} (h : C8 c) : narrow .char (.int c) = .int c := by
  have q : narrow .char (.int c) = .int (nar .char c) := by first | rfl | simp [narrow, nar]
  rw [q, h.nar]
theorem c8l (y : Int64) : C8 ((y &&& (255 : Int64)).toInt32.toUInt32.toUInt16.toUInt32.toInt32) := by
  rw [Int64.toInt32_and]
  exact c8m y.toInt32
theorem t8_34 {j : Nat} (h : j < 3) : C8 (([108, 101, 109] : List Int32).getD j 0) := by
  have : j = 0 ∨ j = 1 ∨ j = 2 := by omega
  rcases this with rfl | rfl | rfl <;> decide
theorem t8_40 {j : Nat} (h : j < 4) : C8 (([108, 101, 109, 104] : List Int32).getD j 0) := by
  have : j = 0 ∨ j = 1 ∨ j = 2 ∨ j = 3 := by omega
  rcases this with rfl | rfl | rfl | rfl <;> decide
theorem t8_42 {j : Nat} (h : j < 4) : C8 (([108, 101, 109, 113] : List Int32).getD j 0) := by
  have : j = 0 ∨ j = 1 ∨ j = 2 ∨ j = 3 := by omega
  rcases this with rfl | rfl | rfl | rfl <;> decide
theorem t8_44 {j : Nat} (h : j < 7) : C8 (([108, 101, 109, 99, 97, 115, 101] : List Int32).getD j 0) := by
  have : j = 0 ∨ j = 1 ∨ j = 2 ∨ j = 3 ∨ j = 4 ∨ j = 5 ∨ j = 6 := by omega
  rcases this with rfl | rfl | rfl | rfl | rfl | rfl | rfl <;> decide
abbrev rmT : Room := { frames := 4, cells := 2, slots := 32, locals := 54 }
set_option maxRecDepth 65536 in
set_option maxHeartbeats 4000000 in
theorem metT {Z : State} {a0 : Array Value} {n0 : Nat} {h : Heap} (hw : ∀ d ∈ tables_1, d.before a0 Z = true) (hO : Old Z n0 h) {zc : Int32} (Sc : Sta Z Z.heap ST "COMPACT_STRINGS" "Z" (.int zc)) (hzc : ¬ zc = 0) {fm : Value} (Sf : Sta Z Z.heap "jdk/internal/util/Preconditions" "SIOOBE_FORMATTER" "Ljava/util/function/BiFunction;" fm) (rf : fm.isRef = true) (kd : Int32) {i : Int32} {j : Nat} (hj : j < 7) (hi : i = Int32.ofNat j) :
    Met Z EL1 n0 ⟨"com/example/ruleweave/ruleweave/transfer/LemmaPartNamedPinLaw", "template", "(II)C"⟩ method_4_code 2 (some .char) rmT #[.int kd, .int i] h [] (fun v h' => ∃ c, v = some (.int c) ∧ C8 c) := by
  have w : ∀ (i : Nat) {d : Jvm.Cond}, tables_1[i]? = some d → d.before a0 Z = true := fun i d q => hw d (List.mem_of_getElem? q)
  have hEL : EW Z a0 EL1 := (EW.cons (w 8 rfl) (by decide) (EW.cons (w 103 rfl) (by decide) (EW.cons (w 105 rfl) (by decide) (EW.cons (w 102 rfl) (by decide) (EW.cons (w 101 rfl) (by simp) EW.nil)))))
  have wS : ∀ a ∈ Bundle.stringAtoms, a.before a0 Z = true := fun d hd => hw d ((by decide +kernel : ∀ d ∈ Bundle.stringAtoms, d ∈ tables_1) d hd)
  have hch : ∀ d ∈ StrChars.Road.wordsChN, d.before a0 Z = true := fun d hd => hw d ((by decide +kernel : ∀ d ∈ StrChars.Road.wordsChN, d ∈ tables_1) d hd)
  refine Met.of_walk (a0 := a0) pnL hEL hO all0 (L0 := #[.val (.int kd), .val (.int i)]) (fun m => by first | (simp [entryFrame, mkF, argsToLocals, Value.category, maxLocals]; done) | rfl) rfl ?_
  intro k H0
  have H1 := H0.iloadN 1 dT_0 rfl
  by_cases e0 : kd = 0
  · have H2 := H1.ifNo 4 dT_1 (XT.i0_ne_f e0)
    have H3 := H2.iloadN 5 dT_4 rfl
    have H4 := H3.iconst 6 (3 : Int32) dT_5
    by_cases l0 : i < (3 : Int32)
    · have H5 := H4.icmpNo 9 dT_6 (XT.ii_ge_f l0)
      obtain ⟨a1, h1, b1, k1, E1, A1, C1, V1, K1, -, H6⟩ := H5.ldcR 11 (w 8 rfl) wS hEL (by simp) (vs := ([108, 101, 109] : List Int32).map Value.int) (z := 3) ⟨by decide, by decide +kernel⟩ (by decide) rfl dT_9 (n := 28) (by decide) (by decide) (by decide) (by decide)
      have S1 : Str Z h1 a1 ([108, 101, 109] : List Int32) := ⟨A1, b1, k1, 0, 3, _, V1, C1, K1, Or.inl ⟨rfl, rfl, rfl, by decide⟩, by decide, by decide⟩
      have H7 := H6.iloadN 12 dT_11 rfl
      have hlt : j < 3 := lt_of (n := 3) hj (by decide) (hi ▸ l0)
      obtain ⟨_, h2, ⟨e2, rfl⟩, K2, H8⟩ := H7.callV 15 (z := ⟨"java/lang/String", "charAt", "(I)C"⟩) (z1 := ⟨"java/lang/String", "charAt", "(I)C"⟩) (C := "java/lang/String") (w 16 rfl) (w 17 rfl) (w 19 rfl) (w 18 rfl) (by decide) (a := a1) S1.1 (argsL := [(.int i)]) (rest := []) (payCh (W := 0) hEL hch (w 10 rfl) H7.oldO S1 (by decide) Sc hzc Sf rf hlt hi (by decide) (by decide)) (lenOf pd_6 rfl) rfl (Nat.le_of_eq rfl) dT_12 (by decide) (by decide) all0
      subst e2
      exact H8.retI rfl (c8_narrow (t8_34 hlt)) (by simp) dT_15 (by decide) (by decide) ⟨_, rfl, t8_34 hlt⟩
    · have H9 := H4.icmpYes 16 dT_6 (XT.ii_ge_t l0)
      have H10 := H9.iloadN 17 dT_16 rfl
      have H11 := H10.iconst 18 (1 : Int32) dT_17
      have H12 := H11.icmpYes 33 dT_18 (XT.ii_ne_t (by rw [e0]; decide))
      have H13 := H12.iloadN 34 dT_33 rfl
      have H14 := H13.iconst 35 (2 : Int32) dT_34
      have H15 := H14.icmpYes 50 dT_35 (XT.ii_ne_t (by rw [e0]; decide))
      have H16 := H15.iloadN 51 dT_50 rfl
      have H17 := H16.iconst 52 (3 : Int32) dT_51
      have H18 := H17.icmpYes 68 dT_52 (XT.ii_ne_t (by rw [e0]; decide))
      have H19 := H18.iconst 69 (0 : Int32) dT_68
      exact H19.retI rfl rfl (by simp) dT_69 (by decide) (by decide) ⟨0, rfl, by decide⟩
  · have H20 := H1.ifYes 16 dT_1 (XT.i0_ne_t e0)
    have H21 := H20.iloadN 17 dT_16 rfl
    have H22 := H21.iconst 18 (1 : Int32) dT_17
    by_cases e1 : kd = 1
    · have H23 := H22.icmpNo 21 dT_18 (XT.ii_ne_f e1)
      have H24 := H23.iloadN 22 dT_21 rfl
      have H25 := H24.iconst 23 (4 : Int32) dT_22
      by_cases l1 : i < (4 : Int32)
      · have H26 := H25.icmpNo 26 dT_23 (XT.ii_ge_f l1)
        obtain ⟨a1, h1, b1, k1, E1, A1, C1, V1, K1, -, H27⟩ := H26.ldcR 28 (w 103 rfl) wS hEL (by simp) (vs := ([108, 101, 109, 104] : List Int32).map Value.int) (z := 4) ⟨by decide, by decide +kernel⟩ (by decide) rfl dT_26 (n := 28) (by decide) (by decide) (by decide) (by decide)
        have S1 : Str Z h1 a1 ([108, 101, 109, 104] : List Int32) := ⟨A1, b1, k1, 0, 4, _, V1, C1, K1, Or.inl ⟨rfl, rfl, rfl, by decide⟩, by decide, by decide⟩
        have H28 := H27.iloadN 29 dT_28 rfl
        have hlt : j < 4 := lt_of (n := 4) hj (by decide) (hi ▸ l1)
        obtain ⟨_, h2, ⟨e2, rfl⟩, K2, H29⟩ := H28.callV 32 (z := ⟨"java/lang/String", "charAt", "(I)C"⟩) (z1 := ⟨"java/lang/String", "charAt", "(I)C"⟩) (C := "java/lang/String") (w 16 rfl) (w 17 rfl) (w 19 rfl) (w 18 rfl) (by decide) (a := a1) S1.1 (argsL := [(.int i)]) (rest := []) (payCh (W := 0) hEL hch (w 10 rfl) H28.oldO S1 (by decide) Sc hzc Sf rf hlt hi (by decide) (by decide)) (lenOf pd_6 rfl) rfl (Nat.le_of_eq rfl) dT_29 (by decide) (by decide) all0
        subst e2
        exact H29.retI rfl (c8_narrow (t8_40 hlt)) (by simp) dT_32 (by decide) (by decide) ⟨_, rfl, t8_40 hlt⟩
      · have H30 := H25.icmpYes 33 dT_23 (XT.ii_ge_t l1)
        have H31 := H30.iloadN 34 dT_33 rfl
        have H32 := H31.iconst 35 (2 : Int32) dT_34
        have H33 := H32.icmpYes 50 dT_35 (XT.ii_ne_t (by rw [e1]; decide))
        have H34 := H33.iloadN 51 dT_50 rfl
        have H35 := H34.iconst 52 (3 : Int32) dT_51
        have H36 := H35.icmpYes 68 dT_52 (XT.ii_ne_t (by rw [e1]; decide))
        have H37 := H36.iconst 69 (0 : Int32) dT_68
        exact H37.retI rfl rfl (by simp) dT_69 (by decide) (by decide) ⟨0, rfl, by decide⟩
    · have H38 := H22.icmpYes 33 dT_18 (XT.ii_ne_t e1)
      have H39 := H38.iloadN 34 dT_33 rfl
      have H40 := H39.iconst 35 (2 : Int32) dT_34
      by_cases e2 : kd = 2
      · have H41 := H40.icmpNo 38 dT_35 (XT.ii_ne_f e2)
        have H42 := H41.iloadN 39 dT_38 rfl
        have H43 := H42.iconst 40 (4 : Int32) dT_39
        by_cases l2 : i < (4 : Int32)
        · have H44 := H43.icmpNo 43 dT_40 (XT.ii_ge_f l2)
          obtain ⟨a1, h1, b1, k1, E1, A1, C1, V1, K1, -, H45⟩ := H44.ldcR 45 (w 105 rfl) wS hEL (by simp) (vs := ([108, 101, 109, 113] : List Int32).map Value.int) (z := 4) ⟨by decide, by decide +kernel⟩ (by decide) rfl dT_43 (n := 28) (by decide) (by decide) (by decide) (by decide)
          have S1 : Str Z h1 a1 ([108, 101, 109, 113] : List Int32) := ⟨A1, b1, k1, 0, 4, _, V1, C1, K1, Or.inl ⟨rfl, rfl, rfl, by decide⟩, by decide, by decide⟩
          have H46 := H45.iloadN 46 dT_45 rfl
          have hlt : j < 4 := lt_of (n := 4) hj (by decide) (hi ▸ l2)
          obtain ⟨_, h2, ⟨e2, rfl⟩, K2, H47⟩ := H46.callV 49 (z := ⟨"java/lang/String", "charAt", "(I)C"⟩) (z1 := ⟨"java/lang/String", "charAt", "(I)C"⟩) (C := "java/lang/String") (w 16 rfl) (w 17 rfl) (w 19 rfl) (w 18 rfl) (by decide) (a := a1) S1.1 (argsL := [(.int i)]) (rest := []) (payCh (W := 0) hEL hch (w 10 rfl) H46.oldO S1 (by decide) Sc hzc Sf rf hlt hi (by decide) (by decide)) (lenOf pd_6 rfl) rfl (Nat.le_of_eq rfl) dT_46 (by decide) (by decide) all0
          subst e2
          exact H47.retI rfl (c8_narrow (t8_42 hlt)) (by simp) dT_49 (by decide) (by decide) ⟨_, rfl, t8_42 hlt⟩
        · have H48 := H43.icmpYes 50 dT_40 (XT.ii_ge_t l2)
          have H49 := H48.iloadN 51 dT_50 rfl
          have H50 := H49.iconst 52 (3 : Int32) dT_51
          have H51 := H50.icmpYes 68 dT_52 (XT.ii_ne_t (by rw [e2]; decide))
          have H52 := H51.iconst 69 (0 : Int32) dT_68
          exact H52.retI rfl rfl (by simp) dT_69 (by decide) (by decide) ⟨0, rfl, by decide⟩
      · have H53 := H40.icmpYes 50 dT_35 (XT.ii_ne_t e2)
        have H54 := H53.iloadN 51 dT_50 rfl
        have H55 := H54.iconst 52 (3 : Int32) dT_51
        by_cases e3 : kd = 3
        · have H56 := H55.icmpNo 55 dT_52 (XT.ii_ne_f e3)
          have H57 := H56.iloadN 56 dT_55 rfl
          have H58 := H57.bipush 58 (7 : Int32) dT_56
          by_cases l3 : i < (7 : Int32)
          · have H59 := H58.icmpNo 61 dT_58 (XT.ii_ge_f l3)
            obtain ⟨a1, h1, b1, k1, E1, A1, C1, V1, K1, -, H60⟩ := H59.ldcR 63 (w 102 rfl) wS hEL (by simp) (vs := ([108, 101, 109, 99, 97, 115, 101] : List Int32).map Value.int) (z := 7) ⟨by decide, by decide +kernel⟩ (by decide) rfl dT_61 (n := 28) (by decide) (by decide) (by decide) (by decide)
            have S1 : Str Z h1 a1 ([108, 101, 109, 99, 97, 115, 101] : List Int32) := ⟨A1, b1, k1, 0, 7, _, V1, C1, K1, Or.inl ⟨rfl, rfl, rfl, by decide⟩, by decide, by decide⟩
            have H61 := H60.iloadN 64 dT_63 rfl
            have hlt : j < 7 := lt_of (n := 7) hj (by decide) (hi ▸ l3)
            obtain ⟨_, h2, ⟨e2, rfl⟩, K2, H62⟩ := H61.callV 67 (z := ⟨"java/lang/String", "charAt", "(I)C"⟩) (z1 := ⟨"java/lang/String", "charAt", "(I)C"⟩) (C := "java/lang/String") (w 16 rfl) (w 17 rfl) (w 19 rfl) (w 18 rfl) (by decide) (a := a1) S1.1 (argsL := [(.int i)]) (rest := []) (payCh (W := 0) hEL hch (w 10 rfl) H61.oldO S1 (by decide) Sc hzc Sf rf hlt hi (by decide) (by decide)) (lenOf pd_6 rfl) rfl (Nat.le_of_eq rfl) dT_64 (by decide) (by decide) all0
            subst e2
            exact H62.retI rfl (c8_narrow (t8_44 hlt)) (by simp) dT_67 (by decide) (by decide) ⟨_, rfl, t8_44 hlt⟩
          · have H63 := H58.icmpYes 68 dT_58 (XT.ii_ge_t l3)
            have H64 := H63.iconst 69 (0 : Int32) dT_68
            exact H64.retI rfl rfl (by simp) dT_69 (by decide) (by decide) ⟨0, rfl, by decide⟩
        · have H65 := H55.icmpYes 68 dT_52 (XT.ii_ne_t e3)
          have H66 := H65.iconst 69 (0 : Int32) dT_68
          exact H66.retI rfl rfl (by simp) dT_69 (by decide) (by decide) ⟨0, rfl, by decide⟩
abbrev rmA : Room := { frames := 5, cells := 2, slots := 32, locals := 68 }
set_option maxRecDepth 65536 in
set_option maxHeartbeats 4000000 in
theorem metA {Z : State} {a0 : Array Value} {n0 : Nat} {h : Heap} (hw : ∀ d ∈ tables_1, d.before a0 Z = true) (hO : Old Z n0 h) {zc : Int32} (Sc : Sta Z Z.heap ST "COMPACT_STRINGS" "Z" (.int zc)) (hzc : ¬ zc = 0) {fm : Value} (Sf : Sta Z Z.heap "jdk/internal/util/Preconditions" "SIOOBE_FORMATTER" "Ljava/util/function/BiFunction;" fm) (rf : fm.isRef = true) (kd : Int32) {i : Int32} {j : Nat} (hj : j < 7) (hi : i = Int32.ofNat j) (dr : Int64) :
    Met Z EL1 n0 ⟨"com/example/ruleweave/ruleweave/transfer/LemmaPartNamedPinLaw", "at", "(IIJ)C"⟩ method_3_code 5 (some .char) rmA #[.int kd, .int i, .long dr] h [] (fun v h' => ∃ c, v = some (.int c) ∧ C8 c) := by
  have w : ∀ (i : Nat) {d : Jvm.Cond}, tables_1[i]? = some d → d.before a0 Z = true := fun i d q => hw d (List.mem_of_getElem? q)
  have hEL : EW Z a0 EL1 := (EW.cons (w 8 rfl) (by decide) (EW.cons (w 103 rfl) (by decide) (EW.cons (w 105 rfl) (by decide) (EW.cons (w 102 rfl) (by decide) (EW.cons (w 101 rfl) (by simp) EW.nil)))))
  refine Met.of_walk (a0 := a0) pnL hEL hO all0 (L0 := #[.val (.int kd), .val (.int i), .val (.long dr), .second, .unset]) (fun m => by first | (simp [entryFrame, mkF, argsToLocals, Value.category, maxLocals]; done) | rfl) rfl ?_
  intro k H0
  have H1 := H0.iloadN 1 dA_0 rfl
  have H2 := H1.iloadN 2 dA_1 rfl
  obtain ⟨_, h1, ⟨c, rfl, c_c⟩, K1, H3⟩ := H2.callS 5 (z := ⟨"com/example/ruleweave/ruleweave/transfer/LemmaPartNamedPinLaw", "template", "(II)C"⟩) (w 5 rfl) (w 6 rfl) (w 3 rfl) (w 7 rfl) (by decide) (argsL := [(.int kd), (.int i)]) (rest := []) (Paid.of_met (W := 0) (metT hw H2.oldO Sc hzc Sf rf kd hj hi) (w 7 rfl) (w 3 rfl) hEL (by decide) (by decide)) (lenOf pd_1 rfl) rfl (Nat.le_of_eq rfl) dA_2 (by decide) (by decide) all0
  have H4 := H3.istore 7 dA_5 (L' := #[.val (.int kd), .val (.int i), .val (.long dr), .second, .val (.int c)]) rfl
  have H5 := H4.iload 9 dA_7 rfl
  by_cases e : c = 0
  · have H6 := H5.ifYes 15 dA_9 (XT.i0_eq_t e)
    have H7 := H6.lloadN 16 dA_15 rfl
    have H8 := H7.bipush 18 (8 : Int32) dA_16
    have H9 := H8.iloadN 19 dA_18 rfl
    have H10 := H9.imul 20 dA_19
    have H11 := H10.lushr 21 dA_20
    have H12 := H11.ldc2J 24 (w 100 rfl) dA_21
    have H13 := H12.land 25 dA_24
    have H14 := H13.l2i 26 dA_25
    have H15 := H14.i2c 27 dA_26
    exact H15.retI rfl (XT.narrow_c _) (by simp) dA_27 (by decide) (by decide) ⟨_, rfl, c8l _⟩
  · have H16 := H5.ifNo 12 dA_9 (XT.i0_eq_f e)
    have H17 := H16.iload 14 dA_12 rfl
    exact H17.retI rfl (c8_narrow c_c) (by simp) dA_14 (by decide) (by decide) ⟨_, rfl, c_c⟩
def Tab (Z : State) (va : Addr) (cl : Cell) (s0 s1 s2 s3 : Addr) : Prop := Arr Z Z.heap va cl (.object "com/example/ruleweave/ruleweave/transfer/LemmaPart") ∧ Exa Z Z.heap va "[Lcom/example/ruleweave/ruleweave/transfer/LemmaPart;" ∧ FitC Z cl ∧ cl.slots.size = 4 ∧ cl.slots[0]? = some (.ref s0) ∧ cl.slots[1]? = some (.ref s1) ∧ cl.slots[2]? = some (.ref s2) ∧ cl.slots[3]? = some (.ref s3)
abbrev rmV : Room := { frames := 1, cells := 1, slots := 4, locals := 14 }
set_option maxRecDepth 65536 in
set_option maxHeartbeats 4000000 in
theorem metV {Z : State} {a0 : Array Value} {n0 : Nat} {h : Heap} (hw : ∀ d ∈ tables_1, d.before a0 Z = true) (hO : Old Z n0 h) {va s0 s1 s2 s3 : Addr} {cl : Cell} (Sv : Sta Z Z.heap "com/example/ruleweave/ruleweave/transfer/LemmaPart" "$VALUES" "[Lcom/example/ruleweave/ruleweave/transfer/LemmaPart;" (.ref va)) (Tb : Tab Z va cl s0 s1 s2 s3) :
    Met Z EL1 n0 ⟨"com/example/ruleweave/ruleweave/transfer/LemmaPart", "values", "()[Lcom/example/ruleweave/ruleweave/transfer/LemmaPart;"⟩ prog_67_method_1_code 0 (some (.array (.object "com/example/ruleweave/ruleweave/transfer/LemmaPart"))) rmV #[] h [] (fun v h' => ∃ b, v = some (.ref b) ∧ Arr Z h' b (cloneOf cl) (.object "com/example/ruleweave/ruleweave/transfer/LemmaPart")) := by
  have w : ∀ (i : Nat) {d : Jvm.Cond}, tables_1[i]? = some d → d.before a0 Z = true := fun i d q => hw d (List.mem_of_getElem? q)
  have hEL : EW Z a0 EL1 := (EW.cons (w 8 rfl) (by decide) (EW.cons (w 103 rfl) (by decide) (EW.cons (w 105 rfl) (by decide) (EW.cons (w 102 rfl) (by decide) (EW.cons (w 101 rfl) (by simp) EW.nil)))))
  refine Met.of_walk (a0 := a0) pnS hEL hO all0 (L0 := #[]) (fun m => by first | (simp [entryFrame, mkF, argsToLocals, Value.category, maxLocals]; done) | rfl) rfl ?_
  intro k H0
  have H1 := H0.getS 3 (w 69 rfl) (staOld Sv H0.oldO) dV_0
  obtain ⟨b1, h1, g1, E1, A1, X1, H2⟩ := H1.cloneA 6 (w 71 rfl) (w 72 rfl) (w 76 rfl) (w 74 rfl) (w 75 rfl) (w 77 rfl) (Tb.1.ext H1.old) (Tb.2.1.ext H1.old) Tb.2.2.1 dV_3 (by decide) (W := 0) (cap := 4) (by decide) (by decide) (Nat.le_of_eq Tb.2.2.2.1) (by decide) (by decide)
  have H3 := H2.castY 9 (w 83 rfl) (Ins.self X1) dV_6
  exact H3.retA rfl rfl rfl dV_9 (by decide) (by decide) ⟨b1, rfl, A1⟩
def Nam (Z : State) (s : Addr) (cs : List Int32) : Prop := ∃ t, Fld Z Z.heap s "com/example/ruleweave/ruleweave/transfer/LemmaPart" "name" "Ljava/lang/String;" (.ref t) ∧ Str Z Z.heap t cs
def nmd (cs : List Int32) (s0 s1 s2 s3 : Addr) : Value := if cs = [108, 101, 109] then .ref s0 else if cs = [108, 101, 109, 104] then .ref s1 else if cs = [108, 101, 109, 113] then .ref s2 else if cs = [108, 101, 109, 99, 97, 115, 101] then .ref s3 else .null
theorem nmd_ref (cs : List Int32) (s0 s1 s2 s3 : Addr) : (nmd cs s0 s1 s2 s3).isRef = true := by
  unfold nmd
  split
  · rfl
  split
  · rfl
  split
  · rfl
  split <;> rfl
abbrev rmN : Room := { frames := 3, cells := 1, slots := 4, locals := 45 }
set_option maxRecDepth 65536 in
set_option maxHeartbeats 4000000 in
theorem metN {Z : State} {a0 : Array Value} {n0 : Nat} {h : Heap} (hw : ∀ d ∈ tables_1, d.before a0 Z = true) (hO : Old Z n0 h) {zc : Int32} (Sc : Sta Z Z.heap ST "COMPACT_STRINGS" "Z" (.int zc)) (hzc : ¬ zc = 0) {va s0 s1 s2 s3 : Addr} {cl : Cell} (Sv : Sta Z Z.heap "com/example/ruleweave/ruleweave/transfer/LemmaPart" "$VALUES" "[Lcom/example/ruleweave/ruleweave/transfer/LemmaPart;" (.ref va)) (Tb : Tab Z va cl s0 s1 s2 s3) (N0 : Nam Z s0 [108, 101, 109]) (N1 : Nam Z s1 [108, 101, 109, 104]) (N2 : Nam Z s2 [108, 101, 109, 113]) (N3 : Nam Z s3 [108, 101, 109, 99, 97, 115, 101]) {u : Addr} {cs : List Int32} (Su : Str Z h u cs) :
    Met Z EL1 n0 ⟨"com/example/ruleweave/ruleweave/transfer/LemmaPart", "named", "(Ljava/lang/String;)Lcom/example/ruleweave/ruleweave/transfer/LemmaPart;"⟩ prog_67_method_4_code 5 (some (.object "com/example/ruleweave/ruleweave/transfer/LemmaPart")) rmN #[.ref u] h [] (fun v _ => v = some (nmd cs s0 s1 s2 s3)) := by
  have w : ∀ (i : Nat) {d : Jvm.Cond}, tables_1[i]? = some d → d.before a0 Z = true := fun i d q => hw d (List.mem_of_getElem? q)
  have hEL : EW Z a0 EL1 := (EW.cons (w 8 rfl) (by decide) (EW.cons (w 103 rfl) (by decide) (EW.cons (w 105 rfl) (by decide) (EW.cons (w 102 rfl) (by decide) (EW.cons (w 101 rfl) (by simp) EW.nil)))))
  have heq : ∀ d ∈ StrChars.Road.wordsEq, d.before a0 Z = true := fun d hd => hw d ((by decide +kernel : ∀ d ∈ StrChars.Road.wordsEq, d ∈ tables_1) d hd)
  refine Met.of_walk (a0 := a0) pnS hEL hO all0 (L0 := #[.val (.ref u), .unset, .unset, .unset, .unset]) (fun m => by first | (simp [entryFrame, mkF, argsToLocals, Value.category, maxLocals]; done) | rfl) rfl ?_
  intro k H0
  obtain ⟨_, h1, ⟨b, rfl, Ab⟩, K1, H1⟩ := H0.callS 3 (z := ⟨"com/example/ruleweave/ruleweave/transfer/LemmaPart", "values", "()[Lcom/example/ruleweave/ruleweave/transfer/LemmaPart;"⟩) (w 66 rfl) (w 67 rfl) (w 64 rfl) (w 68 rfl) (by decide) (argsL := []) (rest := []) (Paid.of_met (W := 0) (metV hw H0.oldO Sv Tb) (w 68 rfl) (w 64 rfl) hEL (by decide) (by decide)) (lenOf pd_4 rfl) rfl (Nat.le_of_eq rfl) dN_0 (by decide) (by decide) all0
  have Su1 := Su.ext (keepExt K1)
  have zc4 : (cloneOf cl).slots.size = 4 := Tb.2.2.2.1
  have H2 := H1.astoreN 4 dN_3 (L' := #[.val (.ref u), .val (.ref b), .unset, .unset, .unset]) rfl
  have H3 := H2.aloadN 5 dN_4 rfl
  have H4 := H3.alenA 6 Ab (z := 4) (by rw [zc4]; rfl) (by decide) dN_5
  have H5 := H4.istoreN 7 dN_6 (L' := #[.val (.ref u), .val (.ref b), .val (.int (4 : Int32)), .unset, .unset]) rfl
  have H6 := H5.iconst 8 (0 : Int32) dN_7
  have H7 := H6.istoreN 9 dN_8 (L' := #[.val (.ref u), .val (.ref b), .val (.int (4 : Int32)), .val (.int (0 : Int32)), .unset]) rfl
  have H8 := H7.iloadN 10 dN_9 rfl
  have H9 := H8.iloadN 11 dN_10 rfl
  have H10 := H9.icmpNo 14 dN_11 (by decide)
  have H11 := H10.aloadN 15 dN_14 rfl
  have H12 := H11.iloadN 16 dN_15 rfl
  have H13 := H12.aaloadA 17 Ab rfl (by rw [zc4]; decide) (show (cloneOf cl).slots[0]? = _ from Tb.2.2.2.2.1) dN_16
  obtain ⟨t0, f0, m0⟩ := N0
  have H14 := H13.astore 19 dN_17 (L' := #[.val (.ref u), .val (.ref b), .val (.int (4 : Int32)), .val (.int (0 : Int32)), .val (.ref s0)]) rfl
  have H15 := H14.aload 21 dN_19 rfl
  have H16 := H15.getF 24 (w 85 rfl) (f0.ext H15.old) dN_21
  have H17 := H16.aloadN 25 dN_24 rfl
  obtain ⟨_, h20, ⟨e2, rfl⟩, K20, H18⟩ := H17.callV 28 (z := ⟨"java/lang/String", "equals", "(Ljava/lang/Object;)Z"⟩) (z1 := ⟨"java/lang/String", "equals", "(Ljava/lang/Object;)Z"⟩) (C := "java/lang/String") (w 87 rfl) (w 88 rfl) (w 90 rfl) (w 89 rfl) (by decide) (a := t0) (m0.ext H17.old).1 (argsL := [(.ref u)]) (rest := []) (payEq (W := 0) hEL heq (w 10 rfl) H17.oldO (m0.ext H17.old) Su1 Sc hzc (by decide) (by decide)) (lenOf pd_5 rfl) rfl (Nat.le_of_eq rfl) dN_25 (by decide) (by decide) all0
  subst e2
  by_cases j0 : ([108, 101, 109] : List Int32) = cs
  · rw [if_pos j0] at H18
    have H19 := H18.ifNo 31 dN_28 (XT.i0_eq_f (by decide))
    have H20 := H19.aload 33 dN_31 rfl
    exact H20.retA rfl rfl rfl dN_33 (by decide) (by decide) (by unfold nmd; rw [if_pos j0.symm])
  · rw [if_neg j0] at H18
    have H21 := H18.ifYes 34 dN_28 (XT.i0_eq_t rfl)
    have H22 := H21.iinc 37 (1 : Int32) dN_34 rfl (L' := #[.val (.ref u), .val (.ref b), .val (.int (4 : Int32)), .val (.int (1 : Int32)), .val (.ref s0)]) rfl
    have H23 := H22.goto 9 dN_37
    have H24 := H23.iloadN 10 dN_9 rfl
    have H25 := H24.iloadN 11 dN_10 rfl
    have H26 := H25.icmpNo 14 dN_11 (by decide)
    have H27 := H26.aloadN 15 dN_14 rfl
    have H28 := H27.iloadN 16 dN_15 rfl
    have H29 := H28.aaloadA 17 Ab rfl (by rw [zc4]; decide) (show (cloneOf cl).slots[1]? = _ from Tb.2.2.2.2.2.1) dN_16
    obtain ⟨t1, f1, m1⟩ := N1
    have H30 := H29.astore 19 dN_17 (L' := #[.val (.ref u), .val (.ref b), .val (.int (4 : Int32)), .val (.int (1 : Int32)), .val (.ref s1)]) rfl
    have H31 := H30.aload 21 dN_19 rfl
    have H32 := H31.getF 24 (w 85 rfl) (f1.ext H31.old) dN_21
    have H33 := H32.aloadN 25 dN_24 rfl
    obtain ⟨_, h21, ⟨e2, rfl⟩, K21, H34⟩ := H33.callV 28 (z := ⟨"java/lang/String", "equals", "(Ljava/lang/Object;)Z"⟩) (z1 := ⟨"java/lang/String", "equals", "(Ljava/lang/Object;)Z"⟩) (C := "java/lang/String") (w 87 rfl) (w 88 rfl) (w 90 rfl) (w 89 rfl) (by decide) (a := t1) (m1.ext H33.old).1 (argsL := [(.ref u)]) (rest := []) (payEq (W := 0) hEL heq (w 10 rfl) H33.oldO (m1.ext H33.old) Su1 Sc hzc (by decide) (by decide)) (lenOf pd_5 rfl) rfl (Nat.le_of_eq rfl) dN_25 (by decide) (by decide) all0
    subst e2
    by_cases j1 : ([108, 101, 109, 104] : List Int32) = cs
    · rw [if_pos j1] at H34
      have H35 := H34.ifNo 31 dN_28 (XT.i0_eq_f (by decide))
      have H36 := H35.aload 33 dN_31 rfl
      exact H36.retA rfl rfl rfl dN_33 (by decide) (by decide) (by unfold nmd; rw [if_neg (Ne.symm j0)]; rw [if_pos j1.symm])
    · rw [if_neg j1] at H34
      have H37 := H34.ifYes 34 dN_28 (XT.i0_eq_t rfl)
      have H38 := H37.iinc 37 (1 : Int32) dN_34 rfl (L' := #[.val (.ref u), .val (.ref b), .val (.int (4 : Int32)), .val (.int (2 : Int32)), .val (.ref s1)]) rfl
      have H39 := H38.goto 9 dN_37
      have H40 := H39.iloadN 10 dN_9 rfl
      have H41 := H40.iloadN 11 dN_10 rfl
      have H42 := H41.icmpNo 14 dN_11 (by decide)
      have H43 := H42.aloadN 15 dN_14 rfl
      have H44 := H43.iloadN 16 dN_15 rfl
      have H45 := H44.aaloadA 17 Ab rfl (by rw [zc4]; decide) (show (cloneOf cl).slots[2]? = _ from Tb.2.2.2.2.2.2.1) dN_16
      obtain ⟨t2, f2, m2⟩ := N2
      have H46 := H45.astore 19 dN_17 (L' := #[.val (.ref u), .val (.ref b), .val (.int (4 : Int32)), .val (.int (2 : Int32)), .val (.ref s2)]) rfl
      have H47 := H46.aload 21 dN_19 rfl
      have H48 := H47.getF 24 (w 85 rfl) (f2.ext H47.old) dN_21
      have H49 := H48.aloadN 25 dN_24 rfl
      obtain ⟨_, h22, ⟨e2, rfl⟩, K22, H50⟩ := H49.callV 28 (z := ⟨"java/lang/String", "equals", "(Ljava/lang/Object;)Z"⟩) (z1 := ⟨"java/lang/String", "equals", "(Ljava/lang/Object;)Z"⟩) (C := "java/lang/String") (w 87 rfl) (w 88 rfl) (w 90 rfl) (w 89 rfl) (by decide) (a := t2) (m2.ext H49.old).1 (argsL := [(.ref u)]) (rest := []) (payEq (W := 0) hEL heq (w 10 rfl) H49.oldO (m2.ext H49.old) Su1 Sc hzc (by decide) (by decide)) (lenOf pd_5 rfl) rfl (Nat.le_of_eq rfl) dN_25 (by decide) (by decide) all0
      subst e2
      by_cases j2 : ([108, 101, 109, 113] : List Int32) = cs
      · rw [if_pos j2] at H50
        have H51 := H50.ifNo 31 dN_28 (XT.i0_eq_f (by decide))
        have H52 := H51.aload 33 dN_31 rfl
        exact H52.retA rfl rfl rfl dN_33 (by decide) (by decide) (by unfold nmd; rw [if_neg (Ne.symm j0)]; rw [if_neg (Ne.symm j1)]; rw [if_pos j2.symm])
      · rw [if_neg j2] at H50
        have H53 := H50.ifYes 34 dN_28 (XT.i0_eq_t rfl)
        have H54 := H53.iinc 37 (1 : Int32) dN_34 rfl (L' := #[.val (.ref u), .val (.ref b), .val (.int (4 : Int32)), .val (.int (3 : Int32)), .val (.ref s2)]) rfl
        have H55 := H54.goto 9 dN_37
        have H56 := H55.iloadN 10 dN_9 rfl
        have H57 := H56.iloadN 11 dN_10 rfl
        have H58 := H57.icmpNo 14 dN_11 (by decide)
        have H59 := H58.aloadN 15 dN_14 rfl
        have H60 := H59.iloadN 16 dN_15 rfl
        have H61 := H60.aaloadA 17 Ab rfl (by rw [zc4]; decide) (show (cloneOf cl).slots[3]? = _ from Tb.2.2.2.2.2.2.2) dN_16
        obtain ⟨t3, f3, m3⟩ := N3
        have H62 := H61.astore 19 dN_17 (L' := #[.val (.ref u), .val (.ref b), .val (.int (4 : Int32)), .val (.int (3 : Int32)), .val (.ref s3)]) rfl
        have H63 := H62.aload 21 dN_19 rfl
        have H64 := H63.getF 24 (w 85 rfl) (f3.ext H63.old) dN_21
        have H65 := H64.aloadN 25 dN_24 rfl
        obtain ⟨_, h23, ⟨e2, rfl⟩, K23, H66⟩ := H65.callV 28 (z := ⟨"java/lang/String", "equals", "(Ljava/lang/Object;)Z"⟩) (z1 := ⟨"java/lang/String", "equals", "(Ljava/lang/Object;)Z"⟩) (C := "java/lang/String") (w 87 rfl) (w 88 rfl) (w 90 rfl) (w 89 rfl) (by decide) (a := t3) (m3.ext H65.old).1 (argsL := [(.ref u)]) (rest := []) (payEq (W := 0) hEL heq (w 10 rfl) H65.oldO (m3.ext H65.old) Su1 Sc hzc (by decide) (by decide)) (lenOf pd_5 rfl) rfl (Nat.le_of_eq rfl) dN_25 (by decide) (by decide) all0
        subst e2
        by_cases j3 : ([108, 101, 109, 99, 97, 115, 101] : List Int32) = cs
        · rw [if_pos j3] at H66
          have H67 := H66.ifNo 31 dN_28 (XT.i0_eq_f (by decide))
          have H68 := H67.aload 33 dN_31 rfl
          exact H68.retA rfl rfl rfl dN_33 (by decide) (by decide) (by unfold nmd; rw [if_neg (Ne.symm j0)]; rw [if_neg (Ne.symm j1)]; rw [if_neg (Ne.symm j2)]; rw [if_pos j3.symm])
        · rw [if_neg j3] at H66
          have H69 := H66.ifYes 34 dN_28 (XT.i0_eq_t rfl)
          have H70 := H69.iinc 37 (1 : Int32) dN_34 rfl (L' := #[.val (.ref u), .val (.ref b), .val (.int (4 : Int32)), .val (.int (4 : Int32)), .val (.ref s3)]) rfl
          have H71 := H70.goto 9 dN_37
          have H72 := H71.iloadN 10 dN_9 rfl
          have H73 := H72.iloadN 11 dN_10 rfl
          have H74 := H73.icmpYes 40 dN_11 (by decide)
          have H75 := H74.anull 41 dN_40
          exact H75.retA rfl rfl rfl dN_41 (by decide) (by decide) (by unfold nmd; rw [if_neg (Ne.symm j0), if_neg (Ne.symm j1), if_neg (Ne.symm j2), if_neg (Ne.symm j3)])
abbrev rm0 : Room := { frames := 0, cells := 0, slots := 0, locals := 0 }
set_option maxRecDepth 65536 in
set_option maxHeartbeats 4000000 in
theorem metE0 {Z : State} {a0 : Array Value} {n0 : Nat} {h : Heap} (hw : ∀ d ∈ tables_1, d.before a0 Z = true) (hO : Old Z n0 h) {s0 s1 s2 s3 : Addr} (S_0 : Sta Z Z.heap "com/example/ruleweave/ruleweave/transfer/LemmaPart" "LEMMA" "Lcom/example/ruleweave/ruleweave/transfer/LemmaPart;" (.ref s0)) (S_1 : Sta Z Z.heap "com/example/ruleweave/ruleweave/transfer/LemmaPart" "HEAD" "Lcom/example/ruleweave/ruleweave/transfer/LemmaPart;" (.ref s1)) (S_2 : Sta Z Z.heap "com/example/ruleweave/ruleweave/transfer/LemmaPart" "QUEUE" "Lcom/example/ruleweave/ruleweave/transfer/LemmaPart;" (.ref s2)) (S_3 : Sta Z Z.heap "com/example/ruleweave/ruleweave/transfer/LemmaPart" "CASE" "Lcom/example/ruleweave/ruleweave/transfer/LemmaPart;" (.ref s3)) {a : Addr} {kc : ClassId} (V : Arv Z h a kc .char (0 : Int32) (([] : List Int32).map Value.int) (.int 0)) :
    Met Z EL1 n0 ⟨"com/example/ruleweave/ruleweave/transfer/LemmaPartNamedPinLaw", "expected", "([CI)Lcom/example/ruleweave/ruleweave/transfer/LemmaPart;"⟩ method_5_code 2 (some (.object "com/example/ruleweave/ruleweave/transfer/LemmaPart")) rm0 #[.ref a, .int (0 : Int32)] h [] (fun v _ => v = some (nmd ([] : List Int32) s0 s1 s2 s3)) := by
  have w : ∀ (i : Nat) {d : Jvm.Cond}, tables_1[i]? = some d → d.before a0 Z = true := fun i d q => hw d (List.mem_of_getElem? q)
  have hEL : EW Z a0 EL1 := (EW.cons (w 8 rfl) (by decide) (EW.cons (w 103 rfl) (by decide) (EW.cons (w 105 rfl) (by decide) (EW.cons (w 102 rfl) (by decide) (EW.cons (w 101 rfl) (by simp) EW.nil)))))
  refine Met.of_walk (a0 := a0) pnL hEL hO all0 (L0 := #[.val (.ref a), .val (.int (0 : Int32))]) (fun m => by first | (simp [entryFrame, mkF, argsToLocals, Value.category, maxLocals]; done) | rfl) rfl ?_
  intro k H0
  have H1 := H0.iloadN 1 dE_0 rfl
  have H2 := H1.iconst 2 (3 : Int32) dE_1
  have H3 := H2.icmpYes 29 dE_2 (XT.ii_lt_t (by decide))
  have H4 := H3.anull 30 dE_29
  exact H4.retA rfl rfl rfl dE_30 (by decide) (by decide) (by simp [nmd])
set_option maxRecDepth 65536 in
set_option maxHeartbeats 4000000 in
theorem metE1 {Z : State} {a0 : Array Value} {n0 : Nat} {h : Heap} (hw : ∀ d ∈ tables_1, d.before a0 Z = true) (hO : Old Z n0 h) {s0 s1 s2 s3 : Addr} (S_0 : Sta Z Z.heap "com/example/ruleweave/ruleweave/transfer/LemmaPart" "LEMMA" "Lcom/example/ruleweave/ruleweave/transfer/LemmaPart;" (.ref s0)) (S_1 : Sta Z Z.heap "com/example/ruleweave/ruleweave/transfer/LemmaPart" "HEAD" "Lcom/example/ruleweave/ruleweave/transfer/LemmaPart;" (.ref s1)) (S_2 : Sta Z Z.heap "com/example/ruleweave/ruleweave/transfer/LemmaPart" "QUEUE" "Lcom/example/ruleweave/ruleweave/transfer/LemmaPart;" (.ref s2)) (S_3 : Sta Z Z.heap "com/example/ruleweave/ruleweave/transfer/LemmaPart" "CASE" "Lcom/example/ruleweave/ruleweave/transfer/LemmaPart;" (.ref s3)) {x0 : Int32} {a : Addr} {kc : ClassId} (V : Arv Z h a kc .char (1 : Int32) (([x0] : List Int32).map Value.int) (.int 0)) :
    Met Z EL1 n0 ⟨"com/example/ruleweave/ruleweave/transfer/LemmaPartNamedPinLaw", "expected", "([CI)Lcom/example/ruleweave/ruleweave/transfer/LemmaPart;"⟩ method_5_code 2 (some (.object "com/example/ruleweave/ruleweave/transfer/LemmaPart")) rm0 #[.ref a, .int (1 : Int32)] h [] (fun v _ => v = some (nmd ([x0] : List Int32) s0 s1 s2 s3)) := by
  have w : ∀ (i : Nat) {d : Jvm.Cond}, tables_1[i]? = some d → d.before a0 Z = true := fun i d q => hw d (List.mem_of_getElem? q)
  have hEL : EW Z a0 EL1 := (EW.cons (w 8 rfl) (by decide) (EW.cons (w 103 rfl) (by decide) (EW.cons (w 105 rfl) (by decide) (EW.cons (w 102 rfl) (by decide) (EW.cons (w 101 rfl) (by simp) EW.nil)))))
  refine Met.of_walk (a0 := a0) pnL hEL hO all0 (L0 := #[.val (.ref a), .val (.int (1 : Int32))]) (fun m => by first | (simp [entryFrame, mkF, argsToLocals, Value.category, maxLocals]; done) | rfl) rfl ?_
  intro k H0
  have H1 := H0.iloadN 1 dE_0 rfl
  have H2 := H1.iconst 2 (3 : Int32) dE_1
  have H3 := H2.icmpYes 29 dE_2 (XT.ii_lt_t (by decide))
  have H4 := H3.anull 30 dE_29
  exact H4.retA rfl rfl rfl dE_30 (by decide) (by decide) (by simp [nmd])
set_option maxRecDepth 65536 in
set_option maxHeartbeats 4000000 in
theorem metE2 {Z : State} {a0 : Array Value} {n0 : Nat} {h : Heap} (hw : ∀ d ∈ tables_1, d.before a0 Z = true) (hO : Old Z n0 h) {s0 s1 s2 s3 : Addr} (S_0 : Sta Z Z.heap "com/example/ruleweave/ruleweave/transfer/LemmaPart" "LEMMA" "Lcom/example/ruleweave/ruleweave/transfer/LemmaPart;" (.ref s0)) (S_1 : Sta Z Z.heap "com/example/ruleweave/ruleweave/transfer/LemmaPart" "HEAD" "Lcom/example/ruleweave/ruleweave/transfer/LemmaPart;" (.ref s1)) (S_2 : Sta Z Z.heap "com/example/ruleweave/ruleweave/transfer/LemmaPart" "QUEUE" "Lcom/example/ruleweave/ruleweave/transfer/LemmaPart;" (.ref s2)) (S_3 : Sta Z Z.heap "com/example/ruleweave/ruleweave/transfer/LemmaPart" "CASE" "Lcom/example/ruleweave/ruleweave/transfer/LemmaPart;" (.ref s3)) {x0 x1 : Int32} {a : Addr} {kc : ClassId} (V : Arv Z h a kc .char (2 : Int32) (([x0, x1] : List Int32).map Value.int) (.int 0)) :
    Met Z EL1 n0 ⟨"com/example/ruleweave/ruleweave/transfer/LemmaPartNamedPinLaw", "expected", "([CI)Lcom/example/ruleweave/ruleweave/transfer/LemmaPart;"⟩ method_5_code 2 (some (.object "com/example/ruleweave/ruleweave/transfer/LemmaPart")) rm0 #[.ref a, .int (2 : Int32)] h [] (fun v _ => v = some (nmd ([x0, x1] : List Int32) s0 s1 s2 s3)) := by
  have w : ∀ (i : Nat) {d : Jvm.Cond}, tables_1[i]? = some d → d.before a0 Z = true := fun i d q => hw d (List.mem_of_getElem? q)
  have hEL : EW Z a0 EL1 := (EW.cons (w 8 rfl) (by decide) (EW.cons (w 103 rfl) (by decide) (EW.cons (w 105 rfl) (by decide) (EW.cons (w 102 rfl) (by decide) (EW.cons (w 101 rfl) (by simp) EW.nil)))))
  refine Met.of_walk (a0 := a0) pnL hEL hO all0 (L0 := #[.val (.ref a), .val (.int (2 : Int32))]) (fun m => by first | (simp [entryFrame, mkF, argsToLocals, Value.category, maxLocals]; done) | rfl) rfl ?_
  intro k H0
  have H1 := H0.iloadN 1 dE_0 rfl
  have H2 := H1.iconst 2 (3 : Int32) dE_1
  have H3 := H2.icmpYes 29 dE_2 (XT.ii_lt_t (by decide))
  have H4 := H3.anull 30 dE_29
  exact H4.retA rfl rfl rfl dE_30 (by decide) (by decide) (by simp [nmd])
set_option maxRecDepth 65536 in
set_option maxHeartbeats 4000000 in
theorem metE3 {Z : State} {a0 : Array Value} {n0 : Nat} {h : Heap} (hw : ∀ d ∈ tables_1, d.before a0 Z = true) (hO : Old Z n0 h) {s0 s1 s2 s3 : Addr} (S_0 : Sta Z Z.heap "com/example/ruleweave/ruleweave/transfer/LemmaPart" "LEMMA" "Lcom/example/ruleweave/ruleweave/transfer/LemmaPart;" (.ref s0)) (S_1 : Sta Z Z.heap "com/example/ruleweave/ruleweave/transfer/LemmaPart" "HEAD" "Lcom/example/ruleweave/ruleweave/transfer/LemmaPart;" (.ref s1)) (S_2 : Sta Z Z.heap "com/example/ruleweave/ruleweave/transfer/LemmaPart" "QUEUE" "Lcom/example/ruleweave/ruleweave/transfer/LemmaPart;" (.ref s2)) (S_3 : Sta Z Z.heap "com/example/ruleweave/ruleweave/transfer/LemmaPart" "CASE" "Lcom/example/ruleweave/ruleweave/transfer/LemmaPart;" (.ref s3)) {x0 x1 x2 : Int32} {a : Addr} {kc : ClassId} (V : Arv Z h a kc .char (3 : Int32) (([x0, x1, x2] : List Int32).map Value.int) (.int 0)) :
    Met Z EL1 n0 ⟨"com/example/ruleweave/ruleweave/transfer/LemmaPartNamedPinLaw", "expected", "([CI)Lcom/example/ruleweave/ruleweave/transfer/LemmaPart;"⟩ method_5_code 2 (some (.object "com/example/ruleweave/ruleweave/transfer/LemmaPart")) rm0 #[.ref a, .int (3 : Int32)] h [] (fun v _ => v = some (nmd ([x0, x1, x2] : List Int32) s0 s1 s2 s3)) := by
  have w : ∀ (i : Nat) {d : Jvm.Cond}, tables_1[i]? = some d → d.before a0 Z = true := fun i d q => hw d (List.mem_of_getElem? q)
  have hEL : EW Z a0 EL1 := (EW.cons (w 8 rfl) (by decide) (EW.cons (w 103 rfl) (by decide) (EW.cons (w 105 rfl) (by decide) (EW.cons (w 102 rfl) (by decide) (EW.cons (w 101 rfl) (by simp) EW.nil)))))
  refine Met.of_walk (a0 := a0) pnL hEL hO all0 (L0 := #[.val (.ref a), .val (.int (3 : Int32))]) (fun m => by first | (simp [entryFrame, mkF, argsToLocals, Value.category, maxLocals]; done) | rfl) rfl ?_
  intro k H0
  have H1 := H0.iloadN 1 dE_0 rfl
  have H2 := H1.iconst 2 (3 : Int32) dE_1
  have H3 := H2.icmpNo 5 dE_2 (XT.ii_lt_f (by decide))
  have H4 := H3.aloadN 6 dE_5 rfl
  have H5 := H4.iconst 7 (0 : Int32) dE_6
  have H6 := H5.caload 8 V ⟨by decide, by decide⟩ (v := .int x0) rfl dE_7
  have H7 := H6.bipush 10 (108 : Int32) dE_8
  by_cases j0 : x0 = (108 : Int32)
  · have H8 := H7.icmpNo 13 dE_10 (XT.ii_ne_f j0)
    have H9 := H8.aloadN 14 dE_13 rfl
    have H10 := H9.iconst 15 (1 : Int32) dE_14
    have H11 := H10.caload 16 V ⟨by decide, by decide⟩ (v := .int x1) rfl dE_15
    have H12 := H11.bipush 18 (101 : Int32) dE_16
    by_cases j1 : x1 = (101 : Int32)
    · have H13 := H12.icmpNo 21 dE_18 (XT.ii_ne_f j1)
      have H14 := H13.aloadN 22 dE_21 rfl
      have H15 := H14.iconst 23 (2 : Int32) dE_22
      have H16 := H15.caload 24 V ⟨by decide, by decide⟩ (v := .int x2) rfl dE_23
      have H17 := H16.bipush 26 (109 : Int32) dE_24
      by_cases j2 : x2 = (109 : Int32)
      · have H18 := H17.icmpYes 31 dE_26 (XT.ii_eq_t j2)
        have H19 := H18.iloadN 32 dE_31 rfl
        have H20 := H19.iconst 33 (3 : Int32) dE_32
        have H21 := H20.icmpNo 36 dE_33 (XT.ii_ne_f (by decide))
        have H22 := H21.getS 39 (w 99 rfl) (staOld S_0 H21.oldO) dE_36
        exact H22.retA rfl rfl rfl dE_39 (by decide) (by decide) (by simp [nmd, j0, j1, j2])
      · have H23 := H17.icmpNo 29 dE_26 (XT.ii_eq_f j2)
        have H24 := H23.anull 30 dE_29
        exact H24.retA rfl rfl rfl dE_30 (by decide) (by decide) (by simp [nmd, j0, j1, j2])
    · have H25 := H12.icmpYes 29 dE_18 (XT.ii_ne_t j1)
      have H26 := H25.anull 30 dE_29
      exact H26.retA rfl rfl rfl dE_30 (by decide) (by decide) (by simp [nmd, j0, j1])
  · have H27 := H7.icmpYes 29 dE_10 (XT.ii_ne_t j0)
    have H28 := H27.anull 30 dE_29
    exact H28.retA rfl rfl rfl dE_30 (by decide) (by decide) (by simp [nmd, j0])
set_option maxRecDepth 65536 in
set_option maxHeartbeats 4000000 in
theorem metE4 {Z : State} {a0 : Array Value} {n0 : Nat} {h : Heap} (hw : ∀ d ∈ tables_1, d.before a0 Z = true) (hO : Old Z n0 h) {s0 s1 s2 s3 : Addr} (S_0 : Sta Z Z.heap "com/example/ruleweave/ruleweave/transfer/LemmaPart" "LEMMA" "Lcom/example/ruleweave/ruleweave/transfer/LemmaPart;" (.ref s0)) (S_1 : Sta Z Z.heap "com/example/ruleweave/ruleweave/transfer/LemmaPart" "HEAD" "Lcom/example/ruleweave/ruleweave/transfer/LemmaPart;" (.ref s1)) (S_2 : Sta Z Z.heap "com/example/ruleweave/ruleweave/transfer/LemmaPart" "QUEUE" "Lcom/example/ruleweave/ruleweave/transfer/LemmaPart;" (.ref s2)) (S_3 : Sta Z Z.heap "com/example/ruleweave/ruleweave/transfer/LemmaPart" "CASE" "Lcom/example/ruleweave/ruleweave/transfer/LemmaPart;" (.ref s3)) {x0 x1 x2 x3 : Int32} {a : Addr} {kc : ClassId} (V : Arv Z h a kc .char (4 : Int32) (([x0, x1, x2, x3] : List Int32).map Value.int) (.int 0)) :
    Met Z EL1 n0 ⟨"com/example/ruleweave/ruleweave/transfer/LemmaPartNamedPinLaw", "expected", "([CI)Lcom/example/ruleweave/ruleweave/transfer/LemmaPart;"⟩ method_5_code 2 (some (.object "com/example/ruleweave/ruleweave/transfer/LemmaPart")) rm0 #[.ref a, .int (4 : Int32)] h [] (fun v _ => v = some (nmd ([x0, x1, x2, x3] : List Int32) s0 s1 s2 s3)) := by
  have w : ∀ (i : Nat) {d : Jvm.Cond}, tables_1[i]? = some d → d.before a0 Z = true := fun i d q => hw d (List.mem_of_getElem? q)
  have hEL : EW Z a0 EL1 := (EW.cons (w 8 rfl) (by decide) (EW.cons (w 103 rfl) (by decide) (EW.cons (w 105 rfl) (by decide) (EW.cons (w 102 rfl) (by decide) (EW.cons (w 101 rfl) (by simp) EW.nil)))))
  refine Met.of_walk (a0 := a0) pnL hEL hO all0 (L0 := #[.val (.ref a), .val (.int (4 : Int32))]) (fun m => by first | (simp [entryFrame, mkF, argsToLocals, Value.category, maxLocals]; done) | rfl) rfl ?_
  intro k H0
  have H1 := H0.iloadN 1 dE_0 rfl
  have H2 := H1.iconst 2 (3 : Int32) dE_1
  have H3 := H2.icmpNo 5 dE_2 (XT.ii_lt_f (by decide))
  have H4 := H3.aloadN 6 dE_5 rfl
  have H5 := H4.iconst 7 (0 : Int32) dE_6
  have H6 := H5.caload 8 V ⟨by decide, by decide⟩ (v := .int x0) rfl dE_7
  have H7 := H6.bipush 10 (108 : Int32) dE_8
  by_cases j0 : x0 = (108 : Int32)
  · have H8 := H7.icmpNo 13 dE_10 (XT.ii_ne_f j0)
    have H9 := H8.aloadN 14 dE_13 rfl
    have H10 := H9.iconst 15 (1 : Int32) dE_14
    have H11 := H10.caload 16 V ⟨by decide, by decide⟩ (v := .int x1) rfl dE_15
    have H12 := H11.bipush 18 (101 : Int32) dE_16
    by_cases j1 : x1 = (101 : Int32)
    · have H13 := H12.icmpNo 21 dE_18 (XT.ii_ne_f j1)
      have H14 := H13.aloadN 22 dE_21 rfl
      have H15 := H14.iconst 23 (2 : Int32) dE_22
      have H16 := H15.caload 24 V ⟨by decide, by decide⟩ (v := .int x2) rfl dE_23
      have H17 := H16.bipush 26 (109 : Int32) dE_24
      by_cases j2 : x2 = (109 : Int32)
      · have H18 := H17.icmpYes 31 dE_26 (XT.ii_eq_t j2)
        have H19 := H18.iloadN 32 dE_31 rfl
        have H20 := H19.iconst 33 (3 : Int32) dE_32
        have H21 := H20.icmpYes 40 dE_33 (XT.ii_ne_t (by decide))
        have H22 := H21.iloadN 41 dE_40 rfl
        have H23 := H22.iconst 42 (4 : Int32) dE_41
        have H24 := H23.icmpNo 45 dE_42 (XT.ii_ne_f (by decide))
        have H25 := H24.aloadN 46 dE_45 rfl
        have H26 := H25.iconst 47 (3 : Int32) dE_46
        have H27 := H26.caload 48 V ⟨by decide, by decide⟩ (v := .int x3) rfl dE_47
        have H28 := H27.bipush 50 (104 : Int32) dE_48
        by_cases j3 : x3 = (104 : Int32)
        · have H29 := H28.icmpNo 53 dE_50 (XT.ii_ne_f j3)
          have H30 := H29.getS 56 (w 104 rfl) (staOld S_1 H29.oldO) dE_53
          exact H30.retA rfl rfl rfl dE_56 (by decide) (by decide) (by simp [nmd, j0, j1, j2, j3])
        · have H31 := H28.icmpYes 57 dE_50 (XT.ii_ne_t j3)
          have H32 := H31.aloadN 58 dE_57 rfl
          have H33 := H32.iconst 59 (3 : Int32) dE_58
          have H34 := H33.caload 60 V ⟨by decide, by decide⟩ (v := .int x3) rfl dE_59
          have H35 := H34.bipush 62 (113 : Int32) dE_60
          by_cases j4 : x3 = (113 : Int32)
          · have H36 := H35.icmpNo 65 dE_62 (XT.ii_ne_f j4)
            have H37 := H36.getS 68 (w 106 rfl) (staOld S_2 H36.oldO) dE_65
            exact H37.retA rfl rfl rfl dE_68 (by decide) (by decide) (by simp [nmd, j0, j1, j2, j3, j4])
          · have H38 := H35.icmpYes 69 dE_62 (XT.ii_ne_t j4)
            have H39 := H38.anull 70 dE_69
            exact H39.retA rfl rfl rfl dE_70 (by decide) (by decide) (by simp [nmd, j0, j1, j2, j3, j4])
      · have H40 := H17.icmpNo 29 dE_26 (XT.ii_eq_f j2)
        have H41 := H40.anull 30 dE_29
        exact H41.retA rfl rfl rfl dE_30 (by decide) (by decide) (by simp [nmd, j0, j1, j2])
    · have H42 := H12.icmpYes 29 dE_18 (XT.ii_ne_t j1)
      have H43 := H42.anull 30 dE_29
      exact H43.retA rfl rfl rfl dE_30 (by decide) (by decide) (by simp [nmd, j0, j1])
  · have H44 := H7.icmpYes 29 dE_10 (XT.ii_ne_t j0)
    have H45 := H44.anull 30 dE_29
    exact H45.retA rfl rfl rfl dE_30 (by decide) (by decide) (by simp [nmd, j0])
set_option maxRecDepth 65536 in
set_option maxHeartbeats 4000000 in
theorem metE5 {Z : State} {a0 : Array Value} {n0 : Nat} {h : Heap} (hw : ∀ d ∈ tables_1, d.before a0 Z = true) (hO : Old Z n0 h) {s0 s1 s2 s3 : Addr} (S_0 : Sta Z Z.heap "com/example/ruleweave/ruleweave/transfer/LemmaPart" "LEMMA" "Lcom/example/ruleweave/ruleweave/transfer/LemmaPart;" (.ref s0)) (S_1 : Sta Z Z.heap "com/example/ruleweave/ruleweave/transfer/LemmaPart" "HEAD" "Lcom/example/ruleweave/ruleweave/transfer/LemmaPart;" (.ref s1)) (S_2 : Sta Z Z.heap "com/example/ruleweave/ruleweave/transfer/LemmaPart" "QUEUE" "Lcom/example/ruleweave/ruleweave/transfer/LemmaPart;" (.ref s2)) (S_3 : Sta Z Z.heap "com/example/ruleweave/ruleweave/transfer/LemmaPart" "CASE" "Lcom/example/ruleweave/ruleweave/transfer/LemmaPart;" (.ref s3)) {x0 x1 x2 x3 x4 : Int32} {a : Addr} {kc : ClassId} (V : Arv Z h a kc .char (5 : Int32) (([x0, x1, x2, x3, x4] : List Int32).map Value.int) (.int 0)) :
    Met Z EL1 n0 ⟨"com/example/ruleweave/ruleweave/transfer/LemmaPartNamedPinLaw", "expected", "([CI)Lcom/example/ruleweave/ruleweave/transfer/LemmaPart;"⟩ method_5_code 2 (some (.object "com/example/ruleweave/ruleweave/transfer/LemmaPart")) rm0 #[.ref a, .int (5 : Int32)] h [] (fun v _ => v = some (nmd ([x0, x1, x2, x3, x4] : List Int32) s0 s1 s2 s3)) := by
  have w : ∀ (i : Nat) {d : Jvm.Cond}, tables_1[i]? = some d → d.before a0 Z = true := fun i d q => hw d (List.mem_of_getElem? q)
  have hEL : EW Z a0 EL1 := (EW.cons (w 8 rfl) (by decide) (EW.cons (w 103 rfl) (by decide) (EW.cons (w 105 rfl) (by decide) (EW.cons (w 102 rfl) (by decide) (EW.cons (w 101 rfl) (by simp) EW.nil)))))
  refine Met.of_walk (a0 := a0) pnL hEL hO all0 (L0 := #[.val (.ref a), .val (.int (5 : Int32))]) (fun m => by first | (simp [entryFrame, mkF, argsToLocals, Value.category, maxLocals]; done) | rfl) rfl ?_
  intro k H0
  have H1 := H0.iloadN 1 dE_0 rfl
  have H2 := H1.iconst 2 (3 : Int32) dE_1
  have H3 := H2.icmpNo 5 dE_2 (XT.ii_lt_f (by decide))
  have H4 := H3.aloadN 6 dE_5 rfl
  have H5 := H4.iconst 7 (0 : Int32) dE_6
  have H6 := H5.caload 8 V ⟨by decide, by decide⟩ (v := .int x0) rfl dE_7
  have H7 := H6.bipush 10 (108 : Int32) dE_8
  by_cases j0 : x0 = (108 : Int32)
  · have H8 := H7.icmpNo 13 dE_10 (XT.ii_ne_f j0)
    have H9 := H8.aloadN 14 dE_13 rfl
    have H10 := H9.iconst 15 (1 : Int32) dE_14
    have H11 := H10.caload 16 V ⟨by decide, by decide⟩ (v := .int x1) rfl dE_15
    have H12 := H11.bipush 18 (101 : Int32) dE_16
    by_cases j1 : x1 = (101 : Int32)
    · have H13 := H12.icmpNo 21 dE_18 (XT.ii_ne_f j1)
      have H14 := H13.aloadN 22 dE_21 rfl
      have H15 := H14.iconst 23 (2 : Int32) dE_22
      have H16 := H15.caload 24 V ⟨by decide, by decide⟩ (v := .int x2) rfl dE_23
      have H17 := H16.bipush 26 (109 : Int32) dE_24
      by_cases j2 : x2 = (109 : Int32)
      · have H18 := H17.icmpYes 31 dE_26 (XT.ii_eq_t j2)
        have H19 := H18.iloadN 32 dE_31 rfl
        have H20 := H19.iconst 33 (3 : Int32) dE_32
        have H21 := H20.icmpYes 40 dE_33 (XT.ii_ne_t (by decide))
        have H22 := H21.iloadN 41 dE_40 rfl
        have H23 := H22.iconst 42 (4 : Int32) dE_41
        have H24 := H23.icmpYes 71 dE_42 (XT.ii_ne_t (by decide))
        have H25 := H24.iloadN 72 dE_71 rfl
        have H26 := H25.bipush 74 (7 : Int32) dE_72
        have H27 := H26.icmpYes 114 dE_74 (XT.ii_ne_t (by decide))
        have H28 := H27.anull 115 dE_114
        exact H28.retA rfl rfl rfl dE_115 (by decide) (by decide) (by simp [nmd, j0, j1, j2])
      · have H29 := H17.icmpNo 29 dE_26 (XT.ii_eq_f j2)
        have H30 := H29.anull 30 dE_29
        exact H30.retA rfl rfl rfl dE_30 (by decide) (by decide) (by simp [nmd, j0, j1, j2])
    · have H31 := H12.icmpYes 29 dE_18 (XT.ii_ne_t j1)
      have H32 := H31.anull 30 dE_29
      exact H32.retA rfl rfl rfl dE_30 (by decide) (by decide) (by simp [nmd, j0, j1])
  · have H33 := H7.icmpYes 29 dE_10 (XT.ii_ne_t j0)
    have H34 := H33.anull 30 dE_29
    exact H34.retA rfl rfl rfl dE_30 (by decide) (by decide) (by simp [nmd, j0])
set_option maxRecDepth 65536 in
set_option maxHeartbeats 4000000 in
theorem metE6 {Z : State} {a0 : Array Value} {n0 : Nat} {h : Heap} (hw : ∀ d ∈ tables_1, d.before a0 Z = true) (hO : Old Z n0 h) {s0 s1 s2 s3 : Addr} (S_0 : Sta Z Z.heap "com/example/ruleweave/ruleweave/transfer/LemmaPart" "LEMMA" "Lcom/example/ruleweave/ruleweave/transfer/LemmaPart;" (.ref s0)) (S_1 : Sta Z Z.heap "com/example/ruleweave/ruleweave/transfer/LemmaPart" "HEAD" "Lcom/example/ruleweave/ruleweave/transfer/LemmaPart;" (.ref s1)) (S_2 : Sta Z Z.heap "com/example/ruleweave/ruleweave/transfer/LemmaPart" "QUEUE" "Lcom/example/ruleweave/ruleweave/transfer/LemmaPart;" (.ref s2)) (S_3 : Sta Z Z.heap "com/example/ruleweave/ruleweave/transfer/LemmaPart" "CASE" "Lcom/example/ruleweave/ruleweave/transfer/LemmaPart;" (.ref s3)) {x0 x1 x2 x3 x4 x5 : Int32} {a : Addr} {kc : ClassId} (V : Arv Z h a kc .char (6 : Int32) (([x0, x1, x2, x3, x4, x5] : List Int32).map Value.int) (.int 0)) :
    Met Z EL1 n0 ⟨"com/example/ruleweave/ruleweave/transfer/LemmaPartNamedPinLaw", "expected", "([CI)Lcom/example/ruleweave/ruleweave/transfer/LemmaPart;"⟩ method_5_code 2 (some (.object "com/example/ruleweave/ruleweave/transfer/LemmaPart")) rm0 #[.ref a, .int (6 : Int32)] h [] (fun v _ => v = some (nmd ([x0, x1, x2, x3, x4, x5] : List Int32) s0 s1 s2 s3)) := by
  have w : ∀ (i : Nat) {d : Jvm.Cond}, tables_1[i]? = some d → d.before a0 Z = true := fun i d q => hw d (List.mem_of_getElem? q)
  have hEL : EW Z a0 EL1 := (EW.cons (w 8 rfl) (by decide) (EW.cons (w 103 rfl) (by decide) (EW.cons (w 105 rfl) (by decide) (EW.cons (w 102 rfl) (by decide) (EW.cons (w 101 rfl) (by simp) EW.nil)))))
  refine Met.of_walk (a0 := a0) pnL hEL hO all0 (L0 := #[.val (.ref a), .val (.int (6 : Int32))]) (fun m => by first | (simp [entryFrame, mkF, argsToLocals, Value.category, maxLocals]; done) | rfl) rfl ?_
  intro k H0
  have H1 := H0.iloadN 1 dE_0 rfl
  have H2 := H1.iconst 2 (3 : Int32) dE_1
  have H3 := H2.icmpNo 5 dE_2 (XT.ii_lt_f (by decide))
  have H4 := H3.aloadN 6 dE_5 rfl
  have H5 := H4.iconst 7 (0 : Int32) dE_6
  have H6 := H5.caload 8 V ⟨by decide, by decide⟩ (v := .int x0) rfl dE_7
  have H7 := H6.bipush 10 (108 : Int32) dE_8
  by_cases j0 : x0 = (108 : Int32)
  · have H8 := H7.icmpNo 13 dE_10 (XT.ii_ne_f j0)
    have H9 := H8.aloadN 14 dE_13 rfl
    have H10 := H9.iconst 15 (1 : Int32) dE_14
    have H11 := H10.caload 16 V ⟨by decide, by decide⟩ (v := .int x1) rfl dE_15
    have H12 := H11.bipush 18 (101 : Int32) dE_16
    by_cases j1 : x1 = (101 : Int32)
    · have H13 := H12.icmpNo 21 dE_18 (XT.ii_ne_f j1)
      have H14 := H13.aloadN 22 dE_21 rfl
      have H15 := H14.iconst 23 (2 : Int32) dE_22
      have H16 := H15.caload 24 V ⟨by decide, by decide⟩ (v := .int x2) rfl dE_23
      have H17 := H16.bipush 26 (109 : Int32) dE_24
      by_cases j2 : x2 = (109 : Int32)
      · have H18 := H17.icmpYes 31 dE_26 (XT.ii_eq_t j2)
        have H19 := H18.iloadN 32 dE_31 rfl
        have H20 := H19.iconst 33 (3 : Int32) dE_32
        have H21 := H20.icmpYes 40 dE_33 (XT.ii_ne_t (by decide))
        have H22 := H21.iloadN 41 dE_40 rfl
        have H23 := H22.iconst 42 (4 : Int32) dE_41
        have H24 := H23.icmpYes 71 dE_42 (XT.ii_ne_t (by decide))
        have H25 := H24.iloadN 72 dE_71 rfl
        have H26 := H25.bipush 74 (7 : Int32) dE_72
        have H27 := H26.icmpYes 114 dE_74 (XT.ii_ne_t (by decide))
        have H28 := H27.anull 115 dE_114
        exact H28.retA rfl rfl rfl dE_115 (by decide) (by decide) (by simp [nmd, j0, j1, j2])
      · have H29 := H17.icmpNo 29 dE_26 (XT.ii_eq_f j2)
        have H30 := H29.anull 30 dE_29
        exact H30.retA rfl rfl rfl dE_30 (by decide) (by decide) (by simp [nmd, j0, j1, j2])
    · have H31 := H12.icmpYes 29 dE_18 (XT.ii_ne_t j1)
      have H32 := H31.anull 30 dE_29
      exact H32.retA rfl rfl rfl dE_30 (by decide) (by decide) (by simp [nmd, j0, j1])
  · have H33 := H7.icmpYes 29 dE_10 (XT.ii_ne_t j0)
    have H34 := H33.anull 30 dE_29
    exact H34.retA rfl rfl rfl dE_30 (by decide) (by decide) (by simp [nmd, j0])
set_option maxRecDepth 65536 in
set_option maxHeartbeats 4000000 in
theorem metE7 {Z : State} {a0 : Array Value} {n0 : Nat} {h : Heap} (hw : ∀ d ∈ tables_1, d.before a0 Z = true) (hO : Old Z n0 h) {s0 s1 s2 s3 : Addr} (S_0 : Sta Z Z.heap "com/example/ruleweave/ruleweave/transfer/LemmaPart" "LEMMA" "Lcom/example/ruleweave/ruleweave/transfer/LemmaPart;" (.ref s0)) (S_1 : Sta Z Z.heap "com/example/ruleweave/ruleweave/transfer/LemmaPart" "HEAD" "Lcom/example/ruleweave/ruleweave/transfer/LemmaPart;" (.ref s1)) (S_2 : Sta Z Z.heap "com/example/ruleweave/ruleweave/transfer/LemmaPart" "QUEUE" "Lcom/example/ruleweave/ruleweave/transfer/LemmaPart;" (.ref s2)) (S_3 : Sta Z Z.heap "com/example/ruleweave/ruleweave/transfer/LemmaPart" "CASE" "Lcom/example/ruleweave/ruleweave/transfer/LemmaPart;" (.ref s3)) {x0 x1 x2 x3 x4 x5 x6 : Int32} {a : Addr} {kc : ClassId} (V : Arv Z h a kc .char (7 : Int32) (([x0, x1, x2, x3, x4, x5, x6] : List Int32).map Value.int) (.int 0)) :
    Met Z EL1 n0 ⟨"com/example/ruleweave/ruleweave/transfer/LemmaPartNamedPinLaw", "expected", "([CI)Lcom/example/ruleweave/ruleweave/transfer/LemmaPart;"⟩ method_5_code 2 (some (.object "com/example/ruleweave/ruleweave/transfer/LemmaPart")) rm0 #[.ref a, .int (7 : Int32)] h [] (fun v _ => v = some (nmd ([x0, x1, x2, x3, x4, x5, x6] : List Int32) s0 s1 s2 s3)) := by
  have w : ∀ (i : Nat) {d : Jvm.Cond}, tables_1[i]? = some d → d.before a0 Z = true := fun i d q => hw d (List.mem_of_getElem? q)
  have hEL : EW Z a0 EL1 := (EW.cons (w 8 rfl) (by decide) (EW.cons (w 103 rfl) (by decide) (EW.cons (w 105 rfl) (by decide) (EW.cons (w 102 rfl) (by decide) (EW.cons (w 101 rfl) (by simp) EW.nil)))))
  refine Met.of_walk (a0 := a0) pnL hEL hO all0 (L0 := #[.val (.ref a), .val (.int (7 : Int32))]) (fun m => by first | (simp [entryFrame, mkF, argsToLocals, Value.category, maxLocals]; done) | rfl) rfl ?_
  intro k H0
  have H1 := H0.iloadN 1 dE_0 rfl
  have H2 := H1.iconst 2 (3 : Int32) dE_1
  have H3 := H2.icmpNo 5 dE_2 (XT.ii_lt_f (by decide))
  have H4 := H3.aloadN 6 dE_5 rfl
  have H5 := H4.iconst 7 (0 : Int32) dE_6
  have H6 := H5.caload 8 V ⟨by decide, by decide⟩ (v := .int x0) rfl dE_7
  have H7 := H6.bipush 10 (108 : Int32) dE_8
  by_cases j0 : x0 = (108 : Int32)
  · have H8 := H7.icmpNo 13 dE_10 (XT.ii_ne_f j0)
    have H9 := H8.aloadN 14 dE_13 rfl
    have H10 := H9.iconst 15 (1 : Int32) dE_14
    have H11 := H10.caload 16 V ⟨by decide, by decide⟩ (v := .int x1) rfl dE_15
    have H12 := H11.bipush 18 (101 : Int32) dE_16
    by_cases j1 : x1 = (101 : Int32)
    · have H13 := H12.icmpNo 21 dE_18 (XT.ii_ne_f j1)
      have H14 := H13.aloadN 22 dE_21 rfl
      have H15 := H14.iconst 23 (2 : Int32) dE_22
      have H16 := H15.caload 24 V ⟨by decide, by decide⟩ (v := .int x2) rfl dE_23
      have H17 := H16.bipush 26 (109 : Int32) dE_24
      by_cases j2 : x2 = (109 : Int32)
      · have H18 := H17.icmpYes 31 dE_26 (XT.ii_eq_t j2)
        have H19 := H18.iloadN 32 dE_31 rfl
        have H20 := H19.iconst 33 (3 : Int32) dE_32
        have H21 := H20.icmpYes 40 dE_33 (XT.ii_ne_t (by decide))
        have H22 := H21.iloadN 41 dE_40 rfl
        have H23 := H22.iconst 42 (4 : Int32) dE_41
        have H24 := H23.icmpYes 71 dE_42 (XT.ii_ne_t (by decide))
        have H25 := H24.iloadN 72 dE_71 rfl
        have H26 := H25.bipush 74 (7 : Int32) dE_72
        have H27 := H26.icmpNo 77 dE_74 (XT.ii_ne_f (by decide))
        have H28 := H27.aloadN 78 dE_77 rfl
        have H29 := H28.iconst 79 (3 : Int32) dE_78
        have H30 := H29.caload 80 V ⟨by decide, by decide⟩ (v := .int x3) rfl dE_79
        have H31 := H30.bipush 82 (99 : Int32) dE_80
        by_cases j3 : x3 = (99 : Int32)
        · have H32 := H31.icmpNo 85 dE_82 (XT.ii_ne_f j3)
          have H33 := H32.aloadN 86 dE_85 rfl
          have H34 := H33.iconst 87 (4 : Int32) dE_86
          have H35 := H34.caload 88 V ⟨by decide, by decide⟩ (v := .int x4) rfl dE_87
          have H36 := H35.bipush 90 (97 : Int32) dE_88
          by_cases j4 : x4 = (97 : Int32)
          · have H37 := H36.icmpNo 93 dE_90 (XT.ii_ne_f j4)
            have H38 := H37.aloadN 94 dE_93 rfl
            have H39 := H38.iconst 95 (5 : Int32) dE_94
            have H40 := H39.caload 96 V ⟨by decide, by decide⟩ (v := .int x5) rfl dE_95
            have H41 := H40.bipush 98 (115 : Int32) dE_96
            by_cases j5 : x5 = (115 : Int32)
            · have H42 := H41.icmpNo 101 dE_98 (XT.ii_ne_f j5)
              have H43 := H42.aloadN 102 dE_101 rfl
              have H44 := H43.bipush 104 (6 : Int32) dE_102
              have H45 := H44.caload 105 V ⟨by decide, by decide⟩ (v := .int x6) rfl dE_104
              have H46 := H45.bipush 107 (101 : Int32) dE_105
              by_cases j6 : x6 = (101 : Int32)
              · have H47 := H46.icmpNo 110 dE_107 (XT.ii_ne_f j6)
                have H48 := H47.getS 113 (w 107 rfl) (staOld S_3 H47.oldO) dE_110
                exact H48.retA rfl rfl rfl dE_113 (by decide) (by decide) (by simp [nmd, j0, j1, j2, j3, j4, j5, j6])
              · have H49 := H46.icmpYes 114 dE_107 (XT.ii_ne_t j6)
                have H50 := H49.anull 115 dE_114
                exact H50.retA rfl rfl rfl dE_115 (by decide) (by decide) (by simp [nmd, j0, j1, j2, j3, j4, j5, j6])
            · have H51 := H41.icmpYes 114 dE_98 (XT.ii_ne_t j5)
              have H52 := H51.anull 115 dE_114
              exact H52.retA rfl rfl rfl dE_115 (by decide) (by decide) (by simp [nmd, j0, j1, j2, j3, j4, j5])
          · have H53 := H36.icmpYes 114 dE_90 (XT.ii_ne_t j4)
            have H54 := H53.anull 115 dE_114
            exact H54.retA rfl rfl rfl dE_115 (by decide) (by decide) (by simp [nmd, j0, j1, j2, j3, j4])
        · have H55 := H31.icmpYes 114 dE_82 (XT.ii_ne_t j3)
          have H56 := H55.anull 115 dE_114
          exact H56.retA rfl rfl rfl dE_115 (by decide) (by decide) (by simp [nmd, j0, j1, j2, j3])
      · have H57 := H17.icmpNo 29 dE_26 (XT.ii_eq_f j2)
        have H58 := H57.anull 30 dE_29
        exact H58.retA rfl rfl rfl dE_30 (by decide) (by decide) (by simp [nmd, j0, j1, j2])
    · have H59 := H12.icmpYes 29 dE_18 (XT.ii_ne_t j1)
      have H60 := H59.anull 30 dE_29
      exact H60.retA rfl rfl rfl dE_30 (by decide) (by decide) (by simp [nmd, j0, j1])
  · have H61 := H7.icmpYes 29 dE_10 (XT.ii_ne_t j0)
    have H62 := H61.anull 30 dE_29
    exact H62.retA rfl rfl rfl dE_30 (by decide) (by decide) (by simp [nmd, j0])
set_option maxRecDepth 65536 in
set_option maxHeartbeats 4000000 in
theorem metE {Z : State} {a0 : Array Value} {n0 : Nat} {h : Heap} (hw : ∀ d ∈ tables_1, d.before a0 Z = true) (hO : Old Z n0 h) {s0 s1 s2 s3 : Addr} (S_0 : Sta Z Z.heap "com/example/ruleweave/ruleweave/transfer/LemmaPart" "LEMMA" "Lcom/example/ruleweave/ruleweave/transfer/LemmaPart;" (.ref s0)) (S_1 : Sta Z Z.heap "com/example/ruleweave/ruleweave/transfer/LemmaPart" "HEAD" "Lcom/example/ruleweave/ruleweave/transfer/LemmaPart;" (.ref s1)) (S_2 : Sta Z Z.heap "com/example/ruleweave/ruleweave/transfer/LemmaPart" "QUEUE" "Lcom/example/ruleweave/ruleweave/transfer/LemmaPart;" (.ref s2)) (S_3 : Sta Z Z.heap "com/example/ruleweave/ruleweave/transfer/LemmaPart" "CASE" "Lcom/example/ruleweave/ruleweave/transfer/LemmaPart;" (.ref s3)) {xs : List Int32} {a : Addr} {kc : ClassId} {n : Int32} (hn : n = Int32.ofNat xs.length) (hl : xs.length ≤ 7) (V : Arv Z h a kc .char n (xs.map Value.int) (.int 0)) :
    Met Z EL1 n0 ⟨"com/example/ruleweave/ruleweave/transfer/LemmaPartNamedPinLaw", "expected", "([CI)Lcom/example/ruleweave/ruleweave/transfer/LemmaPart;"⟩ method_5_code 2 (some (.object "com/example/ruleweave/ruleweave/transfer/LemmaPart")) rm0 #[.ref a, .int n] h [] (fun v _ => v = some (nmd xs s0 s1 s2 s3)) := by
  subst hn
  rcases xs with _ | ⟨x0, _ | ⟨x1, _ | ⟨x2, _ | ⟨x3, _ | ⟨x4, _ | ⟨x5, _ | ⟨x6, _ | ⟨x7, xs⟩⟩⟩⟩⟩⟩⟩⟩
  · exact metE0 hw hO S_0 S_1 S_2 S_3 V
  · exact metE1 hw hO S_0 S_1 S_2 S_3 V
  · exact metE2 hw hO S_0 S_1 S_2 S_3 V
  · exact metE3 hw hO S_0 S_1 S_2 S_3 V
  · exact metE4 hw hO S_0 S_1 S_2 S_3 V
  · exact metE5 hw hO S_0 S_1 S_2 S_3 V
  · exact metE6 hw hO S_0 S_1 S_2 S_3 V
  · exact metE7 hw hO S_0 S_1 S_2 S_3 V
  · simp only [List.length_cons] at hl; omega
theorem isRef_cases {v : Value} (h : v.isRef = true) : v = .null ∨ ∃ r, v = .ref r := by
  cases v with
  | null => exact Or.inl rfl
  | ref r => exact Or.inr ⟨r, rfl⟩
  | _ => simp [Value.isRef] at h
abbrev In8 (t : Int32) : Prop := t = 0 ∨ t = 1 ∨ t = 2 ∨ t = 3 ∨ t = 4 ∨ t = 5 ∨ t = 6 ∨ t = 7
theorem mask7 (p : Int32) : In8 (p &&& (7 : Int32)) := by
  obtain ⟨q1, q2⟩ := c_and p 7 (by decide)
  have e0 : (0 : Int32).toInt = 0 := rfl
  have e1 : (1 : Int32).toInt = 1 := rfl
  have e2 : (2 : Int32).toInt = 2 := rfl
  have e3 : (3 : Int32).toInt = 3 := rfl
  have e4 : (4 : Int32).toInt = 4 := rfl
  have e5 : (5 : Int32).toInt = 5 := rfl
  have e6 : (6 : Int32).toInt = 6 := rfl
  have e7 : (7 : Int32).toInt = 7 := rfl
  have : (p &&& 7).toInt = 0 ∨ (p &&& 7).toInt = 1 ∨ (p &&& 7).toInt = 2 ∨ (p &&& 7).toInt = 3 ∨ (p &&& 7).toInt = 4 ∨ (p &&& 7).toInt = 5 ∨ (p &&& 7).toInt = 6 ∨ (p &&& 7).toInt = 7 := by omega
  rcases this with q | q | q | q | q | q | q | q
  · exact Or.inl (Int32.toInt_inj.mp (q.trans e0.symm))
  · exact Or.inr (Or.inl (Int32.toInt_inj.mp (q.trans e1.symm)))
  · exact Or.inr (Or.inr (Or.inl (Int32.toInt_inj.mp (q.trans e2.symm))))
  · exact Or.inr (Or.inr (Or.inr (Or.inl (Int32.toInt_inj.mp (q.trans e3.symm)))))
  · exact Or.inr (Or.inr (Or.inr (Or.inr (Or.inl (Int32.toInt_inj.mp (q.trans e4.symm))))))
  · exact Or.inr (Or.inr (Or.inr (Or.inr (Or.inr (Or.inl (Int32.toInt_inj.mp (q.trans e5.symm)))))))
  · exact Or.inr (Or.inr (Or.inr (Or.inr (Or.inr (Or.inr (Or.inl (Int32.toInt_inj.mp (q.trans e6.symm))))))))
  · exact Or.inr (Or.inr (Or.inr (Or.inr (Or.inr (Or.inr (Or.inr (Int32.toInt_inj.mp (q.trans e7.symm))))))))
theorem map_set' (xs : List Int32) (i : Nat) (c : Int32) : (xs.map Value.int).set i (.int c) = (xs.set i c).map Value.int := by rw [List.map_set]
theorem set_c8 {xs : List Int32} {i : Nat} {c : Int32} (h : ∀ x ∈ xs, C8 x) (hc : C8 c) : ∀ x ∈ xs.set i c, C8 x := fun x hx => by
  rcases List.mem_or_eq_of_mem_set hx with q | q
  · exact h x q
  · subst q; exact hc
theorem in8_nn {p : Int32} (h : In8 p) : ¬ p < 0 := by rcases h with rfl | rfl | rfl | rfl | rfl | rfl | rfl | rfl <;> decide
theorem ix_lt {p : Int32} {n : Nat} (h : In8 p) (hn : n ≤ 7) (hp : p < Int32.ofNat n) : p.toNatClampNeg < n := by
  rw [Int32.lt_iff_toInt_lt, Int32.toInt_ofNat_small (by omega)] at hp
  have := in8_nn h
  rw [Int32.lt_iff_toInt_lt] at this
  have e0 : (0 : Int32).toInt = 0 := rfl
  show p.toInt.toNat < n
  omega
set_option maxRecDepth 65536 in
set_option maxHeartbeats 4000000 in
theorem metL {Z : State} {a0 : Array Value} {n0 : Nat} {h : Heap} (hw : ∀ d ∈ tables_1, d.before a0 Z = true) (hO : Old Z n0 h) {zc : Int32} (Sc : Sta Z Z.heap ST "COMPACT_STRINGS" "Z" (.int zc)) (hzc : ¬ zc = 0) {fm : Value} (Sf : Sta Z Z.heap "jdk/internal/util/Preconditions" "SIOOBE_FORMATTER" "Ljava/util/function/BiFunction;" fm) (rf : fm.isRef = true) {va s0 s1 s2 s3 : Addr} {cl : Cell} (Sv : Sta Z Z.heap "com/example/ruleweave/ruleweave/transfer/LemmaPart" "$VALUES" "[Lcom/example/ruleweave/ruleweave/transfer/LemmaPart;" (.ref va)) (Tb : Tab Z va cl s0 s1 s2 s3) (N0 : Nam Z s0 [108, 101, 109]) (N1 : Nam Z s1 [108, 101, 109, 104]) (N2 : Nam Z s2 [108, 101, 109, 113]) (N3 : Nam Z s3 [108, 101, 109, 99, 97, 115, 101]) (S_0 : Sta Z Z.heap "com/example/ruleweave/ruleweave/transfer/LemmaPart" "LEMMA" "Lcom/example/ruleweave/ruleweave/transfer/LemmaPart;" (.ref s0)) (S_1 : Sta Z Z.heap "com/example/ruleweave/ruleweave/transfer/LemmaPart" "HEAD" "Lcom/example/ruleweave/ruleweave/transfer/LemmaPart;" (.ref s1)) (S_2 : Sta Z Z.heap "com/example/ruleweave/ruleweave/transfer/LemmaPart" "QUEUE" "Lcom/example/ruleweave/ruleweave/transfer/LemmaPart;" (.ref s2)) (S_3 : Sta Z Z.heap "com/example/ruleweave/ruleweave/transfer/LemmaPart" "CASE" "Lcom/example/ruleweave/ruleweave/transfer/LemmaPart;" (.ref s3)) (p0 p1 : Int32) (dr : Int64) (p3 p4 : Int32) :
    Met Z EL1 n0 x code maxLocals ret room_1 #[.int p0, .int p1, .long dr, .int p3, .int p4] h [] (fun v _ => v = some (.int 1)) := by
  have w : ∀ (i : Nat) {d : Jvm.Cond}, tables_1[i]? = some d → d.before a0 Z = true := fun i d q => hw d (List.mem_of_getElem? q)
  have hEL : EW Z a0 EL1 := (EW.cons (w 8 rfl) (by decide) (EW.cons (w 103 rfl) (by decide) (EW.cons (w 105 rfl) (by decide) (EW.cons (w 102 rfl) (by decide) (EW.cons (w 101 rfl) (by simp) EW.nil)))))
  have hws : ∀ d ∈ StrChars.Road.words, d.before a0 Z = true := fun d hd => hw d ((by decide +kernel : ∀ d ∈ StrChars.Road.words, d ∈ tables_1) d hd)
  have hwe : ∀ d ∈ wordsE, d.before a0 Z = true := fun d hd => hw d ((by decide +kernel : ∀ d ∈ wordsE, d ∈ tables_1) d hd)
  have hmem : (OwnS.ST, 7) ∈ EL1 := by simp
  refine Met.of_walk (a0 := a0) pnL hEL hO all0 (L0 := #[.val (.int p0), .val (.int p1), .val (.long dr), .second, .val (.int p3), .val (.int p4), .unset, .unset, .unset, .unset, .unset]) (fun m => by first | (simp [entryFrame, mkF, argsToLocals, Value.category, maxLocals]; done) | rfl) rfl ?_
  intro kx H0
  have H1 := H0.iloadN 1 at_0 rfl
  have H2 := H1.bipush 3 (7 : Int32) at_1
  have H3 := H2.iand 4 at_3
  generalize hkd : (p0 &&& (7 : Int32)) = kd at H3
  have H4 := H3.istore 6 at_4 (L' := #[.val (.int p0), .val (.int p1), .val (.long dr), .second, .val (.int p3), .val (.int p4), .val (.int kd), .unset, .unset, .unset, .unset]) rfl
  have H5 := H4.iload 8 at_6 rfl
  obtain ⟨tl, c_tl, HJ⟩ : ∃ tl : Int32, In8 tl ∧ Here kx room_1 Z EL1 n0 x code ret h [] h 47 #[.val (.int p0), .val (.int p1), .val (.long dr), .second, .val (.int p3), .val (.int p4), .val (.int kd), .unset, .unset, .unset, .unset] [(.int tl)] 0 0 [] := by
    by_cases e0 : kd = 0
    · have H6 := H5.ifNo 11 at_8 (XT.i0_ne_f e0)
      have H7 := H6.iconst 12 (3 : Int32) at_11
      have H8 := H7.goto 47 at_12
      exact ⟨(3 : Int32), by decide, H8⟩
    · have H9 := H5.ifYes 15 at_8 (XT.i0_ne_t e0)
      have H10 := H9.iload 17 at_15 rfl
      have H11 := H10.iconst 18 (1 : Int32) at_17
      by_cases e1 : kd = 1
      · have H12 := H11.icmpNo 21 at_18 (XT.ii_ne_f e1)
        have H13 := H12.iconst 22 (4 : Int32) at_21
        have H14 := H13.goto 47 at_22
        exact ⟨(4 : Int32), by decide, H14⟩
      · have H15 := H11.icmpYes 25 at_18 (XT.ii_ne_t e1)
        have H16 := H15.iload 27 at_25 rfl
        have H17 := H16.iconst 28 (2 : Int32) at_27
        by_cases e2 : kd = 2
        · have H18 := H17.icmpNo 31 at_28 (XT.ii_ne_f e2)
          have H19 := H18.iconst 32 (4 : Int32) at_31
          have H20 := H19.goto 47 at_32
          exact ⟨(4 : Int32), by decide, H20⟩
        · have H21 := H17.icmpYes 35 at_28 (XT.ii_ne_t e2)
          have H22 := H21.iload 37 at_35 rfl
          have H23 := H22.iconst 38 (3 : Int32) at_37
          by_cases e3 : kd = 3
          · have H24 := H23.icmpNo 41 at_38 (XT.ii_ne_f e3)
            have H25 := H24.bipush 43 (7 : Int32) at_41
            have H26 := H25.goto 47 at_43
            exact ⟨(7 : Int32), by decide, H26⟩
          · have H27 := H23.icmpYes 46 at_38 (XT.ii_ne_t e3)
            have H28 := H27.iconst 47 (0 : Int32) at_46
            exact ⟨(0 : Int32), by decide, H28⟩
  have H29 := HJ
  clear HJ
  have H30 := H29.istore 49 at_47 (L' := #[.val (.int p0), .val (.int p1), .val (.long dr), .second, .val (.int p3), .val (.int p4), .val (.int kd), .val (.int tl), .unset, .unset, .unset]) rfl
  have H31 := H30.iloadN 50 at_49 rfl
  have H32 := H31.bipush 52 (8 : Int32) at_50
  have H33 := H32.iand 53 at_52
  obtain ⟨n, c_n, HJ⟩ : ∃ n : Int32, In8 n ∧ Here kx room_1 Z EL1 n0 x code ret h [] h 65 #[.val (.int p0), .val (.int p1), .val (.long dr), .second, .val (.int p3), .val (.int p4), .val (.int kd), .val (.int tl), .unset, .unset, .unset] [(.int n)] 0 0 [] := by
    by_cases hf8 : (p0 &&& (8 : Int32)) = 0
    · have H34 := H33.ifYes 61 at_53 (XT.i0_eq_t hf8)
      have H35 := H34.iloadN 62 at_61 rfl
      have H36 := H35.bipush 64 (7 : Int32) at_62
      have H37 := H36.iand 65 at_64
      exact ⟨(p1 &&& (7 : Int32)), mask7 _, H37⟩
    · have H38 := H33.ifNo 56 at_53 (XT.i0_eq_f hf8)
      have H39 := H38.iload 58 at_56 rfl
      have H40 := H39.goto 65 at_58
      exact ⟨tl, c_tl, H40⟩
  have H41 := HJ
  clear HJ
  have H42 := H41.istore 67 at_65 (L' := #[.val (.int p0), .val (.int p1), .val (.long dr), .second, .val (.int p3), .val (.int p4), .val (.int kd), .val (.int tl), .val (.int n), .unset, .unset]) rfl
  obtain ⟨xs, ba, hA, kc, n_xs, l_xs, c_xs, VA, HJ⟩ : ∃ (xs : List Int32) (ba : Addr) (hA : Heap) (kc : ClassId), n = Int32.ofNat xs.length ∧ xs.length ≤ 7 ∧ (∀ c ∈ xs, C8 c) ∧ Arv Z hA ba kc .char n (xs.map Value.int) (.int 0) ∧ Here kx room_1 Z EL1 n0 x code ret h [] hA 194 #[.val (.int p0), .val (.int p1), .val (.long dr), .second, .val (.int p3), .val (.int p4), .val (.int kd), .val (.int tl), .val (.int n), .val (.ref ba), .unset] [] 15 231 [ba] := by
    rcases c_n with rfl | rfl | rfl | rfl | rfl | rfl | rfl | rfl
    · have H43 := H42.iload 69 at_67 rfl
      obtain ⟨b1, h1, k1, g1, E1, V1, H44⟩ := H43.newP 71 (ty := .char) rfl (w 0 rfl) at_69 (by decide) (cap := 7) (by decide) (by decide) (by decide) (by decide)
      have H45 := H44.astore 73 at_71 (L' := #[.val (.int p0), .val (.int p1), .val (.long dr), .second, .val (.int p3), .val (.int p4), .val (.int kd), .val (.int tl), .val (.int (0 : Int32)), .val (.ref b1), .unset]) rfl
      have H46 := H45.iload 75 at_73 rfl
      have H47 := H46.ifYes 89 at_75 (by decide)
      have H48 := H47.iload 91 at_89 rfl
      have H49 := H48.iconst 92 (1 : Int32) at_91
      have H50 := H49.icmpYes 106 at_92 (by decide)
      have H51 := H50.iload 108 at_106 rfl
      have H52 := H51.iconst 109 (2 : Int32) at_108
      have H53 := H52.icmpYes 123 at_109 (by decide)
      have H54 := H53.iload 125 at_123 rfl
      have H55 := H54.iconst 126 (3 : Int32) at_125
      have H56 := H55.icmpYes 140 at_126 (by decide)
      have H57 := H56.iload 142 at_140 rfl
      have H58 := H57.iconst 143 (4 : Int32) at_142
      have H59 := H58.icmpYes 157 at_143 (by decide)
      have H60 := H59.iload 159 at_157 rfl
      have H61 := H60.iconst 160 (5 : Int32) at_159
      have H62 := H61.icmpYes 174 at_160 (by decide)
      have H63 := H62.iload 176 at_174 rfl
      have H64 := H63.bipush 178 (6 : Int32) at_176
      have H65 := H64.icmpYes 194 at_178 (by decide)
      exact ⟨[], b1, h1, k1, rfl, by simp, (by intro c hc; simp at hc), (V1).pad (fun i => by rcases i with _ | _ | _ | _ | _ | _ | _ | i <;> rfl), H65.more (by decide) (by decide) (fun x q => by simpa using q)⟩
    · have H66 := H42.iload 69 at_67 rfl
      obtain ⟨b1, h1, k1, g1, E1, V1, H67⟩ := H66.newP 71 (ty := .char) rfl (w 0 rfl) at_69 (by decide) (cap := 7) (by decide) (by decide) (by decide) (by decide)
      have H68 := H67.astore 73 at_71 (L' := #[.val (.int p0), .val (.int p1), .val (.long dr), .second, .val (.int p3), .val (.int p4), .val (.int kd), .val (.int tl), .val (.int (1 : Int32)), .val (.ref b1), .unset]) rfl
      have H69 := H68.iload 75 at_73 rfl
      have H70 := H69.ifNo 78 at_75 (by decide)
      have H71 := H70.aload 80 at_78 rfl
      have H72 := H71.iconst 81 (0 : Int32) at_80
      have H73 := H72.iload 83 at_81 rfl
      have H74 := H73.iconst 84 (0 : Int32) at_83
      have H75 := H74.lloadN 85 at_84 rfl
      obtain ⟨_, ha0, ⟨c0, rfl, c_c0⟩, Ka0, H76⟩ := H75.callS 88 (z := ⟨"com/example/ruleweave/ruleweave/transfer/LemmaPartNamedPinLaw", "at", "(IIJ)C"⟩) (w 1 rfl) (w 2 rfl) (w 3 rfl) (w 4 rfl) (by decide) (argsL := [(.int kd), (.int (0 : Int32)), (.long dr)]) (rest := [(.int (0 : Int32)), (.ref b1)]) (Paid.of_met (W := 2) (metA hw H75.oldO Sc hzc Sf rf kd (i := (0 : Int32)) (j := 0) (by decide) rfl dr) (w 4 rfl) (w 3 rfl) hEL (by decide) (by decide)) (lenOf pd_0 rfl) rfl (Nat.le_of_eq rfl) at_85 (by decide) (by decide) all0
      have V1' := V1.ext (keepExt Ka0)
      obtain ⟨h10, K10, V10, H77⟩ := H76.stC 89 V1' 0 ⟨by decide, by decide⟩ rfl (by simp) c_c0.nar at_88 (by simp)
      have H78 := H77.iload 91 at_89 rfl
      have H79 := H78.iconst 92 (1 : Int32) at_91
      have H80 := H79.icmpYes 106 at_92 (by decide)
      have H81 := H80.iload 108 at_106 rfl
      have H82 := H81.iconst 109 (2 : Int32) at_108
      have H83 := H82.icmpYes 123 at_109 (by decide)
      have H84 := H83.iload 125 at_123 rfl
      have H85 := H84.iconst 126 (3 : Int32) at_125
      have H86 := H85.icmpYes 140 at_126 (by decide)
      have H87 := H86.iload 142 at_140 rfl
      have H88 := H87.iconst 143 (4 : Int32) at_142
      have H89 := H88.icmpYes 157 at_143 (by decide)
      have H90 := H89.iload 159 at_157 rfl
      have H91 := H90.iconst 160 (5 : Int32) at_159
      have H92 := H91.icmpYes 174 at_160 (by decide)
      have H93 := H92.iload 176 at_174 rfl
      have H94 := H93.bipush 178 (6 : Int32) at_176
      have H95 := H94.icmpYes 194 at_178 (by decide)
      exact ⟨[c0], b1, h10, k1, rfl, by simp, (by intro c hc; simp only [List.mem_cons, List.not_mem_nil, or_false] at hc; subst hc; exact c_c0), (V10).pad (fun i => by rcases i with _ | _ | _ | _ | _ | _ | _ | i <;> rfl), H95.more (by decide) (by decide) (fun x q => by simpa using q)⟩
    · have H96 := H42.iload 69 at_67 rfl
      obtain ⟨b1, h1, k1, g1, E1, V1, H97⟩ := H96.newP 71 (ty := .char) rfl (w 0 rfl) at_69 (by decide) (cap := 7) (by decide) (by decide) (by decide) (by decide)
      have H98 := H97.astore 73 at_71 (L' := #[.val (.int p0), .val (.int p1), .val (.long dr), .second, .val (.int p3), .val (.int p4), .val (.int kd), .val (.int tl), .val (.int (2 : Int32)), .val (.ref b1), .unset]) rfl
      have H99 := H98.iload 75 at_73 rfl
      have H100 := H99.ifNo 78 at_75 (by decide)
      have H101 := H100.aload 80 at_78 rfl
      have H102 := H101.iconst 81 (0 : Int32) at_80
      have H103 := H102.iload 83 at_81 rfl
      have H104 := H103.iconst 84 (0 : Int32) at_83
      have H105 := H104.lloadN 85 at_84 rfl
      obtain ⟨_, ha0, ⟨c0, rfl, c_c0⟩, Ka0, H106⟩ := H105.callS 88 (z := ⟨"com/example/ruleweave/ruleweave/transfer/LemmaPartNamedPinLaw", "at", "(IIJ)C"⟩) (w 1 rfl) (w 2 rfl) (w 3 rfl) (w 4 rfl) (by decide) (argsL := [(.int kd), (.int (0 : Int32)), (.long dr)]) (rest := [(.int (0 : Int32)), (.ref b1)]) (Paid.of_met (W := 2) (metA hw H105.oldO Sc hzc Sf rf kd (i := (0 : Int32)) (j := 0) (by decide) rfl dr) (w 4 rfl) (w 3 rfl) hEL (by decide) (by decide)) (lenOf pd_0 rfl) rfl (Nat.le_of_eq rfl) at_85 (by decide) (by decide) all0
      have V1' := V1.ext (keepExt Ka0)
      obtain ⟨h10, K10, V10, H107⟩ := H106.stC 89 V1' 0 ⟨by decide, by decide⟩ rfl (by simp) c_c0.nar at_88 (by simp)
      have H108 := H107.iload 91 at_89 rfl
      have H109 := H108.iconst 92 (1 : Int32) at_91
      have H110 := H109.icmpNo 95 at_92 (by decide)
      have H111 := H110.aload 97 at_95 rfl
      have H112 := H111.iconst 98 (1 : Int32) at_97
      have H113 := H112.iload 100 at_98 rfl
      have H114 := H113.iconst 101 (1 : Int32) at_100
      have H115 := H114.lloadN 102 at_101 rfl
      obtain ⟨_, ha1, ⟨c1, rfl, c_c1⟩, Ka1, H116⟩ := H115.callS 105 (z := ⟨"com/example/ruleweave/ruleweave/transfer/LemmaPartNamedPinLaw", "at", "(IIJ)C"⟩) (w 1 rfl) (w 2 rfl) (w 3 rfl) (w 4 rfl) (by decide) (argsL := [(.int kd), (.int (1 : Int32)), (.long dr)]) (rest := [(.int (1 : Int32)), (.ref b1)]) (Paid.of_met (W := 2) (metA hw H115.oldO Sc hzc Sf rf kd (i := (1 : Int32)) (j := 1) (by decide) rfl dr) (w 4 rfl) (w 3 rfl) hEL (by decide) (by decide)) (lenOf pd_0 rfl) rfl (Nat.le_of_eq rfl) at_102 (by decide) (by decide) all0
      have V10' := V10.ext (keepExt Ka1)
      obtain ⟨h11, K11, V11, H117⟩ := H116.stC 106 V10' 1 ⟨by decide, by decide⟩ rfl (by simp) c_c1.nar at_105 (by simp)
      have H118 := H117.iload 108 at_106 rfl
      have H119 := H118.iconst 109 (2 : Int32) at_108
      have H120 := H119.icmpYes 123 at_109 (by decide)
      have H121 := H120.iload 125 at_123 rfl
      have H122 := H121.iconst 126 (3 : Int32) at_125
      have H123 := H122.icmpYes 140 at_126 (by decide)
      have H124 := H123.iload 142 at_140 rfl
      have H125 := H124.iconst 143 (4 : Int32) at_142
      have H126 := H125.icmpYes 157 at_143 (by decide)
      have H127 := H126.iload 159 at_157 rfl
      have H128 := H127.iconst 160 (5 : Int32) at_159
      have H129 := H128.icmpYes 174 at_160 (by decide)
      have H130 := H129.iload 176 at_174 rfl
      have H131 := H130.bipush 178 (6 : Int32) at_176
      have H132 := H131.icmpYes 194 at_178 (by decide)
      exact ⟨[c0, c1], b1, h11, k1, rfl, by simp, (by intro c hc; simp only [List.mem_cons, List.not_mem_nil, or_false] at hc; rcases hc with rfl | rfl <;> first | exact c_c0 | exact c_c1), (V11).pad (fun i => by rcases i with _ | _ | _ | _ | _ | _ | _ | i <;> rfl), H132.more (by decide) (by decide) (fun x q => by simpa using q)⟩
    · have H133 := H42.iload 69 at_67 rfl
      obtain ⟨b1, h1, k1, g1, E1, V1, H134⟩ := H133.newP 71 (ty := .char) rfl (w 0 rfl) at_69 (by decide) (cap := 7) (by decide) (by decide) (by decide) (by decide)
      have H135 := H134.astore 73 at_71 (L' := #[.val (.int p0), .val (.int p1), .val (.long dr), .second, .val (.int p3), .val (.int p4), .val (.int kd), .val (.int tl), .val (.int (3 : Int32)), .val (.ref b1), .unset]) rfl
      have H136 := H135.iload 75 at_73 rfl
      have H137 := H136.ifNo 78 at_75 (by decide)
      have H138 := H137.aload 80 at_78 rfl
      have H139 := H138.iconst 81 (0 : Int32) at_80
      have H140 := H139.iload 83 at_81 rfl
      have H141 := H140.iconst 84 (0 : Int32) at_83
      have H142 := H141.lloadN 85 at_84 rfl
      obtain ⟨_, ha0, ⟨c0, rfl, c_c0⟩, Ka0, H143⟩ := H142.callS 88 (z := ⟨"com/example/ruleweave/ruleweave/transfer/LemmaPartNamedPinLaw", "at", "(IIJ)C"⟩) (w 1 rfl) (w 2 rfl) (w 3 rfl) (w 4 rfl) (by decide) (argsL := [(.int kd), (.int (0 : Int32)), (.long dr)]) (rest := [(.int (0 : Int32)), (.ref b1)]) (Paid.of_met (W := 2) (metA hw H142.oldO Sc hzc Sf rf kd (i := (0 : Int32)) (j := 0) (by decide) rfl dr) (w 4 rfl) (w 3 rfl) hEL (by decide) (by decide)) (lenOf pd_0 rfl) rfl (Nat.le_of_eq rfl) at_85 (by decide) (by decide) all0
      have V1' := V1.ext (keepExt Ka0)
      obtain ⟨h10, K10, V10, H144⟩ := H143.stC 89 V1' 0 ⟨by decide, by decide⟩ rfl (by simp) c_c0.nar at_88 (by simp)
      have H145 := H144.iload 91 at_89 rfl
      have H146 := H145.iconst 92 (1 : Int32) at_91
      have H147 := H146.icmpNo 95 at_92 (by decide)
      have H148 := H147.aload 97 at_95 rfl
      have H149 := H148.iconst 98 (1 : Int32) at_97
      have H150 := H149.iload 100 at_98 rfl
      have H151 := H150.iconst 101 (1 : Int32) at_100
      have H152 := H151.lloadN 102 at_101 rfl
      obtain ⟨_, ha1, ⟨c1, rfl, c_c1⟩, Ka1, H153⟩ := H152.callS 105 (z := ⟨"com/example/ruleweave/ruleweave/transfer/LemmaPartNamedPinLaw", "at", "(IIJ)C"⟩) (w 1 rfl) (w 2 rfl) (w 3 rfl) (w 4 rfl) (by decide) (argsL := [(.int kd), (.int (1 : Int32)), (.long dr)]) (rest := [(.int (1 : Int32)), (.ref b1)]) (Paid.of_met (W := 2) (metA hw H152.oldO Sc hzc Sf rf kd (i := (1 : Int32)) (j := 1) (by decide) rfl dr) (w 4 rfl) (w 3 rfl) hEL (by decide) (by decide)) (lenOf pd_0 rfl) rfl (Nat.le_of_eq rfl) at_102 (by decide) (by decide) all0
      have V10' := V10.ext (keepExt Ka1)
      obtain ⟨h11, K11, V11, H154⟩ := H153.stC 106 V10' 1 ⟨by decide, by decide⟩ rfl (by simp) c_c1.nar at_105 (by simp)
      have H155 := H154.iload 108 at_106 rfl
      have H156 := H155.iconst 109 (2 : Int32) at_108
      have H157 := H156.icmpNo 112 at_109 (by decide)
      have H158 := H157.aload 114 at_112 rfl
      have H159 := H158.iconst 115 (2 : Int32) at_114
      have H160 := H159.iload 117 at_115 rfl
      have H161 := H160.iconst 118 (2 : Int32) at_117
      have H162 := H161.lloadN 119 at_118 rfl
      obtain ⟨_, ha2, ⟨c2, rfl, c_c2⟩, Ka2, H163⟩ := H162.callS 122 (z := ⟨"com/example/ruleweave/ruleweave/transfer/LemmaPartNamedPinLaw", "at", "(IIJ)C"⟩) (w 1 rfl) (w 2 rfl) (w 3 rfl) (w 4 rfl) (by decide) (argsL := [(.int kd), (.int (2 : Int32)), (.long dr)]) (rest := [(.int (2 : Int32)), (.ref b1)]) (Paid.of_met (W := 2) (metA hw H162.oldO Sc hzc Sf rf kd (i := (2 : Int32)) (j := 2) (by decide) rfl dr) (w 4 rfl) (w 3 rfl) hEL (by decide) (by decide)) (lenOf pd_0 rfl) rfl (Nat.le_of_eq rfl) at_119 (by decide) (by decide) all0
      have V11' := V11.ext (keepExt Ka2)
      obtain ⟨h12, K12, V12, H164⟩ := H163.stC 123 V11' 2 ⟨by decide, by decide⟩ rfl (by simp) c_c2.nar at_122 (by simp)
      have H165 := H164.iload 125 at_123 rfl
      have H166 := H165.iconst 126 (3 : Int32) at_125
      have H167 := H166.icmpYes 140 at_126 (by decide)
      have H168 := H167.iload 142 at_140 rfl
      have H169 := H168.iconst 143 (4 : Int32) at_142
      have H170 := H169.icmpYes 157 at_143 (by decide)
      have H171 := H170.iload 159 at_157 rfl
      have H172 := H171.iconst 160 (5 : Int32) at_159
      have H173 := H172.icmpYes 174 at_160 (by decide)
      have H174 := H173.iload 176 at_174 rfl
      have H175 := H174.bipush 178 (6 : Int32) at_176
      have H176 := H175.icmpYes 194 at_178 (by decide)
      exact ⟨[c0, c1, c2], b1, h12, k1, rfl, by simp, (by intro c hc; simp only [List.mem_cons, List.not_mem_nil, or_false] at hc; rcases hc with rfl | rfl | rfl <;> first | exact c_c0 | exact c_c1 | exact c_c2), (V12).pad (fun i => by rcases i with _ | _ | _ | _ | _ | _ | _ | i <;> rfl), H176.more (by decide) (by decide) (fun x q => by simpa using q)⟩
    · have H177 := H42.iload 69 at_67 rfl
      obtain ⟨b1, h1, k1, g1, E1, V1, H178⟩ := H177.newP 71 (ty := .char) rfl (w 0 rfl) at_69 (by decide) (cap := 7) (by decide) (by decide) (by decide) (by decide)
      have H179 := H178.astore 73 at_71 (L' := #[.val (.int p0), .val (.int p1), .val (.long dr), .second, .val (.int p3), .val (.int p4), .val (.int kd), .val (.int tl), .val (.int (4 : Int32)), .val (.ref b1), .unset]) rfl
      have H180 := H179.iload 75 at_73 rfl
      have H181 := H180.ifNo 78 at_75 (by decide)
      have H182 := H181.aload 80 at_78 rfl
      have H183 := H182.iconst 81 (0 : Int32) at_80
      have H184 := H183.iload 83 at_81 rfl
      have H185 := H184.iconst 84 (0 : Int32) at_83
      have H186 := H185.lloadN 85 at_84 rfl
      obtain ⟨_, ha0, ⟨c0, rfl, c_c0⟩, Ka0, H187⟩ := H186.callS 88 (z := ⟨"com/example/ruleweave/ruleweave/transfer/LemmaPartNamedPinLaw", "at", "(IIJ)C"⟩) (w 1 rfl) (w 2 rfl) (w 3 rfl) (w 4 rfl) (by decide) (argsL := [(.int kd), (.int (0 : Int32)), (.long dr)]) (rest := [(.int (0 : Int32)), (.ref b1)]) (Paid.of_met (W := 2) (metA hw H186.oldO Sc hzc Sf rf kd (i := (0 : Int32)) (j := 0) (by decide) rfl dr) (w 4 rfl) (w 3 rfl) hEL (by decide) (by decide)) (lenOf pd_0 rfl) rfl (Nat.le_of_eq rfl) at_85 (by decide) (by decide) all0
      have V1' := V1.ext (keepExt Ka0)
      obtain ⟨h10, K10, V10, H188⟩ := H187.stC 89 V1' 0 ⟨by decide, by decide⟩ rfl (by simp) c_c0.nar at_88 (by simp)
      have H189 := H188.iload 91 at_89 rfl
      have H190 := H189.iconst 92 (1 : Int32) at_91
      have H191 := H190.icmpNo 95 at_92 (by decide)
      have H192 := H191.aload 97 at_95 rfl
      have H193 := H192.iconst 98 (1 : Int32) at_97
      have H194 := H193.iload 100 at_98 rfl
      have H195 := H194.iconst 101 (1 : Int32) at_100
      have H196 := H195.lloadN 102 at_101 rfl
      obtain ⟨_, ha1, ⟨c1, rfl, c_c1⟩, Ka1, H197⟩ := H196.callS 105 (z := ⟨"com/example/ruleweave/ruleweave/transfer/LemmaPartNamedPinLaw", "at", "(IIJ)C"⟩) (w 1 rfl) (w 2 rfl) (w 3 rfl) (w 4 rfl) (by decide) (argsL := [(.int kd), (.int (1 : Int32)), (.long dr)]) (rest := [(.int (1 : Int32)), (.ref b1)]) (Paid.of_met (W := 2) (metA hw H196.oldO Sc hzc Sf rf kd (i := (1 : Int32)) (j := 1) (by decide) rfl dr) (w 4 rfl) (w 3 rfl) hEL (by decide) (by decide)) (lenOf pd_0 rfl) rfl (Nat.le_of_eq rfl) at_102 (by decide) (by decide) all0
      have V10' := V10.ext (keepExt Ka1)
      obtain ⟨h11, K11, V11, H198⟩ := H197.stC 106 V10' 1 ⟨by decide, by decide⟩ rfl (by simp) c_c1.nar at_105 (by simp)
      have H199 := H198.iload 108 at_106 rfl
      have H200 := H199.iconst 109 (2 : Int32) at_108
      have H201 := H200.icmpNo 112 at_109 (by decide)
      have H202 := H201.aload 114 at_112 rfl
      have H203 := H202.iconst 115 (2 : Int32) at_114
      have H204 := H203.iload 117 at_115 rfl
      have H205 := H204.iconst 118 (2 : Int32) at_117
      have H206 := H205.lloadN 119 at_118 rfl
      obtain ⟨_, ha2, ⟨c2, rfl, c_c2⟩, Ka2, H207⟩ := H206.callS 122 (z := ⟨"com/example/ruleweave/ruleweave/transfer/LemmaPartNamedPinLaw", "at", "(IIJ)C"⟩) (w 1 rfl) (w 2 rfl) (w 3 rfl) (w 4 rfl) (by decide) (argsL := [(.int kd), (.int (2 : Int32)), (.long dr)]) (rest := [(.int (2 : Int32)), (.ref b1)]) (Paid.of_met (W := 2) (metA hw H206.oldO Sc hzc Sf rf kd (i := (2 : Int32)) (j := 2) (by decide) rfl dr) (w 4 rfl) (w 3 rfl) hEL (by decide) (by decide)) (lenOf pd_0 rfl) rfl (Nat.le_of_eq rfl) at_119 (by decide) (by decide) all0
      have V11' := V11.ext (keepExt Ka2)
      obtain ⟨h12, K12, V12, H208⟩ := H207.stC 123 V11' 2 ⟨by decide, by decide⟩ rfl (by simp) c_c2.nar at_122 (by simp)
      have H209 := H208.iload 125 at_123 rfl
      have H210 := H209.iconst 126 (3 : Int32) at_125
      have H211 := H210.icmpNo 129 at_126 (by decide)
      have H212 := H211.aload 131 at_129 rfl
      have H213 := H212.iconst 132 (3 : Int32) at_131
      have H214 := H213.iload 134 at_132 rfl
      have H215 := H214.iconst 135 (3 : Int32) at_134
      have H216 := H215.lloadN 136 at_135 rfl
      obtain ⟨_, ha3, ⟨c3, rfl, c_c3⟩, Ka3, H217⟩ := H216.callS 139 (z := ⟨"com/example/ruleweave/ruleweave/transfer/LemmaPartNamedPinLaw", "at", "(IIJ)C"⟩) (w 1 rfl) (w 2 rfl) (w 3 rfl) (w 4 rfl) (by decide) (argsL := [(.int kd), (.int (3 : Int32)), (.long dr)]) (rest := [(.int (3 : Int32)), (.ref b1)]) (Paid.of_met (W := 2) (metA hw H216.oldO Sc hzc Sf rf kd (i := (3 : Int32)) (j := 3) (by decide) rfl dr) (w 4 rfl) (w 3 rfl) hEL (by decide) (by decide)) (lenOf pd_0 rfl) rfl (Nat.le_of_eq rfl) at_136 (by decide) (by decide) all0
      have V12' := V12.ext (keepExt Ka3)
      obtain ⟨h13, K13, V13, H218⟩ := H217.stC 140 V12' 3 ⟨by decide, by decide⟩ rfl (by simp) c_c3.nar at_139 (by simp)
      have H219 := H218.iload 142 at_140 rfl
      have H220 := H219.iconst 143 (4 : Int32) at_142
      have H221 := H220.icmpYes 157 at_143 (by decide)
      have H222 := H221.iload 159 at_157 rfl
      have H223 := H222.iconst 160 (5 : Int32) at_159
      have H224 := H223.icmpYes 174 at_160 (by decide)
      have H225 := H224.iload 176 at_174 rfl
      have H226 := H225.bipush 178 (6 : Int32) at_176
      have H227 := H226.icmpYes 194 at_178 (by decide)
      exact ⟨[c0, c1, c2, c3], b1, h13, k1, rfl, by simp, (by intro c hc; simp only [List.mem_cons, List.not_mem_nil, or_false] at hc; rcases hc with rfl | rfl | rfl | rfl <;> first | exact c_c0 | exact c_c1 | exact c_c2 | exact c_c3), (V13).pad (fun i => by rcases i with _ | _ | _ | _ | _ | _ | _ | i <;> rfl), H227.more (by decide) (by decide) (fun x q => by simpa using q)⟩
    · have H228 := H42.iload 69 at_67 rfl
      obtain ⟨b1, h1, k1, g1, E1, V1, H229⟩ := H228.newP 71 (ty := .char) rfl (w 0 rfl) at_69 (by decide) (cap := 7) (by decide) (by decide) (by decide) (by decide)
      have H230 := H229.astore 73 at_71 (L' := #[.val (.int p0), .val (.int p1), .val (.long dr), .second, .val (.int p3), .val (.int p4), .val (.int kd), .val (.int tl), .val (.int (5 : Int32)), .val (.ref b1), .unset]) rfl
      have H231 := H230.iload 75 at_73 rfl
      have H232 := H231.ifNo 78 at_75 (by decide)
      have H233 := H232.aload 80 at_78 rfl
      have H234 := H233.iconst 81 (0 : Int32) at_80
      have H235 := H234.iload 83 at_81 rfl
      have H236 := H235.iconst 84 (0 : Int32) at_83
      have H237 := H236.lloadN 85 at_84 rfl
      obtain ⟨_, ha0, ⟨c0, rfl, c_c0⟩, Ka0, H238⟩ := H237.callS 88 (z := ⟨"com/example/ruleweave/ruleweave/transfer/LemmaPartNamedPinLaw", "at", "(IIJ)C"⟩) (w 1 rfl) (w 2 rfl) (w 3 rfl) (w 4 rfl) (by decide) (argsL := [(.int kd), (.int (0 : Int32)), (.long dr)]) (rest := [(.int (0 : Int32)), (.ref b1)]) (Paid.of_met (W := 2) (metA hw H237.oldO Sc hzc Sf rf kd (i := (0 : Int32)) (j := 0) (by decide) rfl dr) (w 4 rfl) (w 3 rfl) hEL (by decide) (by decide)) (lenOf pd_0 rfl) rfl (Nat.le_of_eq rfl) at_85 (by decide) (by decide) all0
      have V1' := V1.ext (keepExt Ka0)
      obtain ⟨h10, K10, V10, H239⟩ := H238.stC 89 V1' 0 ⟨by decide, by decide⟩ rfl (by simp) c_c0.nar at_88 (by simp)
      have H240 := H239.iload 91 at_89 rfl
      have H241 := H240.iconst 92 (1 : Int32) at_91
      have H242 := H241.icmpNo 95 at_92 (by decide)
      have H243 := H242.aload 97 at_95 rfl
      have H244 := H243.iconst 98 (1 : Int32) at_97
      have H245 := H244.iload 100 at_98 rfl
      have H246 := H245.iconst 101 (1 : Int32) at_100
      have H247 := H246.lloadN 102 at_101 rfl
      obtain ⟨_, ha1, ⟨c1, rfl, c_c1⟩, Ka1, H248⟩ := H247.callS 105 (z := ⟨"com/example/ruleweave/ruleweave/transfer/LemmaPartNamedPinLaw", "at", "(IIJ)C"⟩) (w 1 rfl) (w 2 rfl) (w 3 rfl) (w 4 rfl) (by decide) (argsL := [(.int kd), (.int (1 : Int32)), (.long dr)]) (rest := [(.int (1 : Int32)), (.ref b1)]) (Paid.of_met (W := 2) (metA hw H247.oldO Sc hzc Sf rf kd (i := (1 : Int32)) (j := 1) (by decide) rfl dr) (w 4 rfl) (w 3 rfl) hEL (by decide) (by decide)) (lenOf pd_0 rfl) rfl (Nat.le_of_eq rfl) at_102 (by decide) (by decide) all0
      have V10' := V10.ext (keepExt Ka1)
      obtain ⟨h11, K11, V11, H249⟩ := H248.stC 106 V10' 1 ⟨by decide, by decide⟩ rfl (by simp) c_c1.nar at_105 (by simp)
      have H250 := H249.iload 108 at_106 rfl
      have H251 := H250.iconst 109 (2 : Int32) at_108
      have H252 := H251.icmpNo 112 at_109 (by decide)
      have H253 := H252.aload 114 at_112 rfl
      have H254 := H253.iconst 115 (2 : Int32) at_114
      have H255 := H254.iload 117 at_115 rfl
      have H256 := H255.iconst 118 (2 : Int32) at_117
      have H257 := H256.lloadN 119 at_118 rfl
      obtain ⟨_, ha2, ⟨c2, rfl, c_c2⟩, Ka2, H258⟩ := H257.callS 122 (z := ⟨"com/example/ruleweave/ruleweave/transfer/LemmaPartNamedPinLaw", "at", "(IIJ)C"⟩) (w 1 rfl) (w 2 rfl) (w 3 rfl) (w 4 rfl) (by decide) (argsL := [(.int kd), (.int (2 : Int32)), (.long dr)]) (rest := [(.int (2 : Int32)), (.ref b1)]) (Paid.of_met (W := 2) (metA hw H257.oldO Sc hzc Sf rf kd (i := (2 : Int32)) (j := 2) (by decide) rfl dr) (w 4 rfl) (w 3 rfl) hEL (by decide) (by decide)) (lenOf pd_0 rfl) rfl (Nat.le_of_eq rfl) at_119 (by decide) (by decide) all0
      have V11' := V11.ext (keepExt Ka2)
      obtain ⟨h12, K12, V12, H259⟩ := H258.stC 123 V11' 2 ⟨by decide, by decide⟩ rfl (by simp) c_c2.nar at_122 (by simp)
      have H260 := H259.iload 125 at_123 rfl
      have H261 := H260.iconst 126 (3 : Int32) at_125
      have H262 := H261.icmpNo 129 at_126 (by decide)
      have H263 := H262.aload 131 at_129 rfl
      have H264 := H263.iconst 132 (3 : Int32) at_131
      have H265 := H264.iload 134 at_132 rfl
      have H266 := H265.iconst 135 (3 : Int32) at_134
      have H267 := H266.lloadN 136 at_135 rfl
      obtain ⟨_, ha3, ⟨c3, rfl, c_c3⟩, Ka3, H268⟩ := H267.callS 139 (z := ⟨"com/example/ruleweave/ruleweave/transfer/LemmaPartNamedPinLaw", "at", "(IIJ)C"⟩) (w 1 rfl) (w 2 rfl) (w 3 rfl) (w 4 rfl) (by decide) (argsL := [(.int kd), (.int (3 : Int32)), (.long dr)]) (rest := [(.int (3 : Int32)), (.ref b1)]) (Paid.of_met (W := 2) (metA hw H267.oldO Sc hzc Sf rf kd (i := (3 : Int32)) (j := 3) (by decide) rfl dr) (w 4 rfl) (w 3 rfl) hEL (by decide) (by decide)) (lenOf pd_0 rfl) rfl (Nat.le_of_eq rfl) at_136 (by decide) (by decide) all0
      have V12' := V12.ext (keepExt Ka3)
      obtain ⟨h13, K13, V13, H269⟩ := H268.stC 140 V12' 3 ⟨by decide, by decide⟩ rfl (by simp) c_c3.nar at_139 (by simp)
      have H270 := H269.iload 142 at_140 rfl
      have H271 := H270.iconst 143 (4 : Int32) at_142
      have H272 := H271.icmpNo 146 at_143 (by decide)
      have H273 := H272.aload 148 at_146 rfl
      have H274 := H273.iconst 149 (4 : Int32) at_148
      have H275 := H274.iload 151 at_149 rfl
      have H276 := H275.iconst 152 (4 : Int32) at_151
      have H277 := H276.lloadN 153 at_152 rfl
      obtain ⟨_, ha4, ⟨c4, rfl, c_c4⟩, Ka4, H278⟩ := H277.callS 156 (z := ⟨"com/example/ruleweave/ruleweave/transfer/LemmaPartNamedPinLaw", "at", "(IIJ)C"⟩) (w 1 rfl) (w 2 rfl) (w 3 rfl) (w 4 rfl) (by decide) (argsL := [(.int kd), (.int (4 : Int32)), (.long dr)]) (rest := [(.int (4 : Int32)), (.ref b1)]) (Paid.of_met (W := 2) (metA hw H277.oldO Sc hzc Sf rf kd (i := (4 : Int32)) (j := 4) (by decide) rfl dr) (w 4 rfl) (w 3 rfl) hEL (by decide) (by decide)) (lenOf pd_0 rfl) rfl (Nat.le_of_eq rfl) at_153 (by decide) (by decide) all0
      have V13' := V13.ext (keepExt Ka4)
      obtain ⟨h14, K14, V14, H279⟩ := H278.stC 157 V13' 4 ⟨by decide, by decide⟩ rfl (by simp) c_c4.nar at_156 (by simp)
      have H280 := H279.iload 159 at_157 rfl
      have H281 := H280.iconst 160 (5 : Int32) at_159
      have H282 := H281.icmpYes 174 at_160 (by decide)
      have H283 := H282.iload 176 at_174 rfl
      have H284 := H283.bipush 178 (6 : Int32) at_176
      have H285 := H284.icmpYes 194 at_178 (by decide)
      exact ⟨[c0, c1, c2, c3, c4], b1, h14, k1, rfl, by simp, (by intro c hc; simp only [List.mem_cons, List.not_mem_nil, or_false] at hc; rcases hc with rfl | rfl | rfl | rfl | rfl <;> first | exact c_c0 | exact c_c1 | exact c_c2 | exact c_c3 | exact c_c4), (V14).pad (fun i => by rcases i with _ | _ | _ | _ | _ | _ | _ | i <;> rfl), H285.more (by decide) (by decide) (fun x q => by simpa using q)⟩
    · have H286 := H42.iload 69 at_67 rfl
      obtain ⟨b1, h1, k1, g1, E1, V1, H287⟩ := H286.newP 71 (ty := .char) rfl (w 0 rfl) at_69 (by decide) (cap := 7) (by decide) (by decide) (by decide) (by decide)
      have H288 := H287.astore 73 at_71 (L' := #[.val (.int p0), .val (.int p1), .val (.long dr), .second, .val (.int p3), .val (.int p4), .val (.int kd), .val (.int tl), .val (.int (6 : Int32)), .val (.ref b1), .unset]) rfl
      have H289 := H288.iload 75 at_73 rfl
      have H290 := H289.ifNo 78 at_75 (by decide)
      have H291 := H290.aload 80 at_78 rfl
      have H292 := H291.iconst 81 (0 : Int32) at_80
      have H293 := H292.iload 83 at_81 rfl
      have H294 := H293.iconst 84 (0 : Int32) at_83
      have H295 := H294.lloadN 85 at_84 rfl
      obtain ⟨_, ha0, ⟨c0, rfl, c_c0⟩, Ka0, H296⟩ := H295.callS 88 (z := ⟨"com/example/ruleweave/ruleweave/transfer/LemmaPartNamedPinLaw", "at", "(IIJ)C"⟩) (w 1 rfl) (w 2 rfl) (w 3 rfl) (w 4 rfl) (by decide) (argsL := [(.int kd), (.int (0 : Int32)), (.long dr)]) (rest := [(.int (0 : Int32)), (.ref b1)]) (Paid.of_met (W := 2) (metA hw H295.oldO Sc hzc Sf rf kd (i := (0 : Int32)) (j := 0) (by decide) rfl dr) (w 4 rfl) (w 3 rfl) hEL (by decide) (by decide)) (lenOf pd_0 rfl) rfl (Nat.le_of_eq rfl) at_85 (by decide) (by decide) all0
      have V1' := V1.ext (keepExt Ka0)
      obtain ⟨h10, K10, V10, H297⟩ := H296.stC 89 V1' 0 ⟨by decide, by decide⟩ rfl (by simp) c_c0.nar at_88 (by simp)
      have H298 := H297.iload 91 at_89 rfl
      have H299 := H298.iconst 92 (1 : Int32) at_91
      have H300 := H299.icmpNo 95 at_92 (by decide)
      have H301 := H300.aload 97 at_95 rfl
      have H302 := H301.iconst 98 (1 : Int32) at_97
      have H303 := H302.iload 100 at_98 rfl
      have H304 := H303.iconst 101 (1 : Int32) at_100
      have H305 := H304.lloadN 102 at_101 rfl
      obtain ⟨_, ha1, ⟨c1, rfl, c_c1⟩, Ka1, H306⟩ := H305.callS 105 (z := ⟨"com/example/ruleweave/ruleweave/transfer/LemmaPartNamedPinLaw", "at", "(IIJ)C"⟩) (w 1 rfl) (w 2 rfl) (w 3 rfl) (w 4 rfl) (by decide) (argsL := [(.int kd), (.int (1 : Int32)), (.long dr)]) (rest := [(.int (1 : Int32)), (.ref b1)]) (Paid.of_met (W := 2) (metA hw H305.oldO Sc hzc Sf rf kd (i := (1 : Int32)) (j := 1) (by decide) rfl dr) (w 4 rfl) (w 3 rfl) hEL (by decide) (by decide)) (lenOf pd_0 rfl) rfl (Nat.le_of_eq rfl) at_102 (by decide) (by decide) all0
      have V10' := V10.ext (keepExt Ka1)
      obtain ⟨h11, K11, V11, H307⟩ := H306.stC 106 V10' 1 ⟨by decide, by decide⟩ rfl (by simp) c_c1.nar at_105 (by simp)
      have H308 := H307.iload 108 at_106 rfl
      have H309 := H308.iconst 109 (2 : Int32) at_108
      have H310 := H309.icmpNo 112 at_109 (by decide)
      have H311 := H310.aload 114 at_112 rfl
      have H312 := H311.iconst 115 (2 : Int32) at_114
      have H313 := H312.iload 117 at_115 rfl
      have H314 := H313.iconst 118 (2 : Int32) at_117
      have H315 := H314.lloadN 119 at_118 rfl
      obtain ⟨_, ha2, ⟨c2, rfl, c_c2⟩, Ka2, H316⟩ := H315.callS 122 (z := ⟨"com/example/ruleweave/ruleweave/transfer/LemmaPartNamedPinLaw", "at", "(IIJ)C"⟩) (w 1 rfl) (w 2 rfl) (w 3 rfl) (w 4 rfl) (by decide) (argsL := [(.int kd), (.int (2 : Int32)), (.long dr)]) (rest := [(.int (2 : Int32)), (.ref b1)]) (Paid.of_met (W := 2) (metA hw H315.oldO Sc hzc Sf rf kd (i := (2 : Int32)) (j := 2) (by decide) rfl dr) (w 4 rfl) (w 3 rfl) hEL (by decide) (by decide)) (lenOf pd_0 rfl) rfl (Nat.le_of_eq rfl) at_119 (by decide) (by decide) all0
      have V11' := V11.ext (keepExt Ka2)
      obtain ⟨h12, K12, V12, H317⟩ := H316.stC 123 V11' 2 ⟨by decide, by decide⟩ rfl (by simp) c_c2.nar at_122 (by simp)
      have H318 := H317.iload 125 at_123 rfl
      have H319 := H318.iconst 126 (3 : Int32) at_125
      have H320 := H319.icmpNo 129 at_126 (by decide)
      have H321 := H320.aload 131 at_129 rfl
      have H322 := H321.iconst 132 (3 : Int32) at_131
      have H323 := H322.iload 134 at_132 rfl
      have H324 := H323.iconst 135 (3 : Int32) at_134
      have H325 := H324.lloadN 136 at_135 rfl
      obtain ⟨_, ha3, ⟨c3, rfl, c_c3⟩, Ka3, H326⟩ := H325.callS 139 (z := ⟨"com/example/ruleweave/ruleweave/transfer/LemmaPartNamedPinLaw", "at", "(IIJ)C"⟩) (w 1 rfl) (w 2 rfl) (w 3 rfl) (w 4 rfl) (by decide) (argsL := [(.int kd), (.int (3 : Int32)), (.long dr)]) (rest := [(.int (3 : Int32)), (.ref b1)]) (Paid.of_met (W := 2) (metA hw H325.oldO Sc hzc Sf rf kd (i := (3 : Int32)) (j := 3) (by decide) rfl dr) (w 4 rfl) (w 3 rfl) hEL (by decide) (by decide)) (lenOf pd_0 rfl) rfl (Nat.le_of_eq rfl) at_136 (by decide) (by decide) all0
      have V12' := V12.ext (keepExt Ka3)
      obtain ⟨h13, K13, V13, H327⟩ := H326.stC 140 V12' 3 ⟨by decide, by decide⟩ rfl (by simp) c_c3.nar at_139 (by simp)
      have H328 := H327.iload 142 at_140 rfl
      have H329 := H328.iconst 143 (4 : Int32) at_142
      have H330 := H329.icmpNo 146 at_143 (by decide)
      have H331 := H330.aload 148 at_146 rfl
      have H332 := H331.iconst 149 (4 : Int32) at_148
      have H333 := H332.iload 151 at_149 rfl
      have H334 := H333.iconst 152 (4 : Int32) at_151
      have H335 := H334.lloadN 153 at_152 rfl
      obtain ⟨_, ha4, ⟨c4, rfl, c_c4⟩, Ka4, H336⟩ := H335.callS 156 (z := ⟨"com/example/ruleweave/ruleweave/transfer/LemmaPartNamedPinLaw", "at", "(IIJ)C"⟩) (w 1 rfl) (w 2 rfl) (w 3 rfl) (w 4 rfl) (by decide) (argsL := [(.int kd), (.int (4 : Int32)), (.long dr)]) (rest := [(.int (4 : Int32)), (.ref b1)]) (Paid.of_met (W := 2) (metA hw H335.oldO Sc hzc Sf rf kd (i := (4 : Int32)) (j := 4) (by decide) rfl dr) (w 4 rfl) (w 3 rfl) hEL (by decide) (by decide)) (lenOf pd_0 rfl) rfl (Nat.le_of_eq rfl) at_153 (by decide) (by decide) all0
      have V13' := V13.ext (keepExt Ka4)
      obtain ⟨h14, K14, V14, H337⟩ := H336.stC 157 V13' 4 ⟨by decide, by decide⟩ rfl (by simp) c_c4.nar at_156 (by simp)
      have H338 := H337.iload 159 at_157 rfl
      have H339 := H338.iconst 160 (5 : Int32) at_159
      have H340 := H339.icmpNo 163 at_160 (by decide)
      have H341 := H340.aload 165 at_163 rfl
      have H342 := H341.iconst 166 (5 : Int32) at_165
      have H343 := H342.iload 168 at_166 rfl
      have H344 := H343.iconst 169 (5 : Int32) at_168
      have H345 := H344.lloadN 170 at_169 rfl
      obtain ⟨_, ha5, ⟨c5, rfl, c_c5⟩, Ka5, H346⟩ := H345.callS 173 (z := ⟨"com/example/ruleweave/ruleweave/transfer/LemmaPartNamedPinLaw", "at", "(IIJ)C"⟩) (w 1 rfl) (w 2 rfl) (w 3 rfl) (w 4 rfl) (by decide) (argsL := [(.int kd), (.int (5 : Int32)), (.long dr)]) (rest := [(.int (5 : Int32)), (.ref b1)]) (Paid.of_met (W := 2) (metA hw H345.oldO Sc hzc Sf rf kd (i := (5 : Int32)) (j := 5) (by decide) rfl dr) (w 4 rfl) (w 3 rfl) hEL (by decide) (by decide)) (lenOf pd_0 rfl) rfl (Nat.le_of_eq rfl) at_170 (by decide) (by decide) all0
      have V14' := V14.ext (keepExt Ka5)
      obtain ⟨h15, K15, V15, H347⟩ := H346.stC 174 V14' 5 ⟨by decide, by decide⟩ rfl (by simp) c_c5.nar at_173 (by simp)
      have H348 := H347.iload 176 at_174 rfl
      have H349 := H348.bipush 178 (6 : Int32) at_176
      have H350 := H349.icmpYes 194 at_178 (by decide)
      exact ⟨[c0, c1, c2, c3, c4, c5], b1, h15, k1, rfl, by simp, (by intro c hc; simp only [List.mem_cons, List.not_mem_nil, or_false] at hc; rcases hc with rfl | rfl | rfl | rfl | rfl | rfl <;> first | exact c_c0 | exact c_c1 | exact c_c2 | exact c_c3 | exact c_c4 | exact c_c5), (V15).pad (fun i => by rcases i with _ | _ | _ | _ | _ | _ | _ | i <;> rfl), H350.more (by decide) (by decide) (fun x q => by simpa using q)⟩
    · have H351 := H42.iload 69 at_67 rfl
      obtain ⟨b1, h1, k1, g1, E1, V1, H352⟩ := H351.newP 71 (ty := .char) rfl (w 0 rfl) at_69 (by decide) (cap := 7) (by decide) (by decide) (by decide) (by decide)
      have H353 := H352.astore 73 at_71 (L' := #[.val (.int p0), .val (.int p1), .val (.long dr), .second, .val (.int p3), .val (.int p4), .val (.int kd), .val (.int tl), .val (.int (7 : Int32)), .val (.ref b1), .unset]) rfl
      have H354 := H353.iload 75 at_73 rfl
      have H355 := H354.ifNo 78 at_75 (by decide)
      have H356 := H355.aload 80 at_78 rfl
      have H357 := H356.iconst 81 (0 : Int32) at_80
      have H358 := H357.iload 83 at_81 rfl
      have H359 := H358.iconst 84 (0 : Int32) at_83
      have H360 := H359.lloadN 85 at_84 rfl
      obtain ⟨_, ha0, ⟨c0, rfl, c_c0⟩, Ka0, H361⟩ := H360.callS 88 (z := ⟨"com/example/ruleweave/ruleweave/transfer/LemmaPartNamedPinLaw", "at", "(IIJ)C"⟩) (w 1 rfl) (w 2 rfl) (w 3 rfl) (w 4 rfl) (by decide) (argsL := [(.int kd), (.int (0 : Int32)), (.long dr)]) (rest := [(.int (0 : Int32)), (.ref b1)]) (Paid.of_met (W := 2) (metA hw H360.oldO Sc hzc Sf rf kd (i := (0 : Int32)) (j := 0) (by decide) rfl dr) (w 4 rfl) (w 3 rfl) hEL (by decide) (by decide)) (lenOf pd_0 rfl) rfl (Nat.le_of_eq rfl) at_85 (by decide) (by decide) all0
      have V1' := V1.ext (keepExt Ka0)
      obtain ⟨h10, K10, V10, H362⟩ := H361.stC 89 V1' 0 ⟨by decide, by decide⟩ rfl (by simp) c_c0.nar at_88 (by simp)
      have H363 := H362.iload 91 at_89 rfl
      have H364 := H363.iconst 92 (1 : Int32) at_91
      have H365 := H364.icmpNo 95 at_92 (by decide)
      have H366 := H365.aload 97 at_95 rfl
      have H367 := H366.iconst 98 (1 : Int32) at_97
      have H368 := H367.iload 100 at_98 rfl
      have H369 := H368.iconst 101 (1 : Int32) at_100
      have H370 := H369.lloadN 102 at_101 rfl
      obtain ⟨_, ha1, ⟨c1, rfl, c_c1⟩, Ka1, H371⟩ := H370.callS 105 (z := ⟨"com/example/ruleweave/ruleweave/transfer/LemmaPartNamedPinLaw", "at", "(IIJ)C"⟩) (w 1 rfl) (w 2 rfl) (w 3 rfl) (w 4 rfl) (by decide) (argsL := [(.int kd), (.int (1 : Int32)), (.long dr)]) (rest := [(.int (1 : Int32)), (.ref b1)]) (Paid.of_met (W := 2) (metA hw H370.oldO Sc hzc Sf rf kd (i := (1 : Int32)) (j := 1) (by decide) rfl dr) (w 4 rfl) (w 3 rfl) hEL (by decide) (by decide)) (lenOf pd_0 rfl) rfl (Nat.le_of_eq rfl) at_102 (by decide) (by decide) all0
      have V10' := V10.ext (keepExt Ka1)
      obtain ⟨h11, K11, V11, H372⟩ := H371.stC 106 V10' 1 ⟨by decide, by decide⟩ rfl (by simp) c_c1.nar at_105 (by simp)
      have H373 := H372.iload 108 at_106 rfl
      have H374 := H373.iconst 109 (2 : Int32) at_108
      have H375 := H374.icmpNo 112 at_109 (by decide)
      have H376 := H375.aload 114 at_112 rfl
      have H377 := H376.iconst 115 (2 : Int32) at_114
      have H378 := H377.iload 117 at_115 rfl
      have H379 := H378.iconst 118 (2 : Int32) at_117
      have H380 := H379.lloadN 119 at_118 rfl
      obtain ⟨_, ha2, ⟨c2, rfl, c_c2⟩, Ka2, H381⟩ := H380.callS 122 (z := ⟨"com/example/ruleweave/ruleweave/transfer/LemmaPartNamedPinLaw", "at", "(IIJ)C"⟩) (w 1 rfl) (w 2 rfl) (w 3 rfl) (w 4 rfl) (by decide) (argsL := [(.int kd), (.int (2 : Int32)), (.long dr)]) (rest := [(.int (2 : Int32)), (.ref b1)]) (Paid.of_met (W := 2) (metA hw H380.oldO Sc hzc Sf rf kd (i := (2 : Int32)) (j := 2) (by decide) rfl dr) (w 4 rfl) (w 3 rfl) hEL (by decide) (by decide)) (lenOf pd_0 rfl) rfl (Nat.le_of_eq rfl) at_119 (by decide) (by decide) all0
      have V11' := V11.ext (keepExt Ka2)
      obtain ⟨h12, K12, V12, H382⟩ := H381.stC 123 V11' 2 ⟨by decide, by decide⟩ rfl (by simp) c_c2.nar at_122 (by simp)
      have H383 := H382.iload 125 at_123 rfl
      have H384 := H383.iconst 126 (3 : Int32) at_125
      have H385 := H384.icmpNo 129 at_126 (by decide)
      have H386 := H385.aload 131 at_129 rfl
      have H387 := H386.iconst 132 (3 : Int32) at_131
      have H388 := H387.iload 134 at_132 rfl
      have H389 := H388.iconst 135 (3 : Int32) at_134
      have H390 := H389.lloadN 136 at_135 rfl
      obtain ⟨_, ha3, ⟨c3, rfl, c_c3⟩, Ka3, H391⟩ := H390.callS 139 (z := ⟨"com/example/ruleweave/ruleweave/transfer/LemmaPartNamedPinLaw", "at", "(IIJ)C"⟩) (w 1 rfl) (w 2 rfl) (w 3 rfl) (w 4 rfl) (by decide) (argsL := [(.int kd), (.int (3 : Int32)), (.long dr)]) (rest := [(.int (3 : Int32)), (.ref b1)]) (Paid.of_met (W := 2) (metA hw H390.oldO Sc hzc Sf rf kd (i := (3 : Int32)) (j := 3) (by decide) rfl dr) (w 4 rfl) (w 3 rfl) hEL (by decide) (by decide)) (lenOf pd_0 rfl) rfl (Nat.le_of_eq rfl) at_136 (by decide) (by decide) all0
      have V12' := V12.ext (keepExt Ka3)
      obtain ⟨h13, K13, V13, H392⟩ := H391.stC 140 V12' 3 ⟨by decide, by decide⟩ rfl (by simp) c_c3.nar at_139 (by simp)
      have H393 := H392.iload 142 at_140 rfl
      have H394 := H393.iconst 143 (4 : Int32) at_142
      have H395 := H394.icmpNo 146 at_143 (by decide)
      have H396 := H395.aload 148 at_146 rfl
      have H397 := H396.iconst 149 (4 : Int32) at_148
      have H398 := H397.iload 151 at_149 rfl
      have H399 := H398.iconst 152 (4 : Int32) at_151
      have H400 := H399.lloadN 153 at_152 rfl
      obtain ⟨_, ha4, ⟨c4, rfl, c_c4⟩, Ka4, H401⟩ := H400.callS 156 (z := ⟨"com/example/ruleweave/ruleweave/transfer/LemmaPartNamedPinLaw", "at", "(IIJ)C"⟩) (w 1 rfl) (w 2 rfl) (w 3 rfl) (w 4 rfl) (by decide) (argsL := [(.int kd), (.int (4 : Int32)), (.long dr)]) (rest := [(.int (4 : Int32)), (.ref b1)]) (Paid.of_met (W := 2) (metA hw H400.oldO Sc hzc Sf rf kd (i := (4 : Int32)) (j := 4) (by decide) rfl dr) (w 4 rfl) (w 3 rfl) hEL (by decide) (by decide)) (lenOf pd_0 rfl) rfl (Nat.le_of_eq rfl) at_153 (by decide) (by decide) all0
      have V13' := V13.ext (keepExt Ka4)
      obtain ⟨h14, K14, V14, H402⟩ := H401.stC 157 V13' 4 ⟨by decide, by decide⟩ rfl (by simp) c_c4.nar at_156 (by simp)
      have H403 := H402.iload 159 at_157 rfl
      have H404 := H403.iconst 160 (5 : Int32) at_159
      have H405 := H404.icmpNo 163 at_160 (by decide)
      have H406 := H405.aload 165 at_163 rfl
      have H407 := H406.iconst 166 (5 : Int32) at_165
      have H408 := H407.iload 168 at_166 rfl
      have H409 := H408.iconst 169 (5 : Int32) at_168
      have H410 := H409.lloadN 170 at_169 rfl
      obtain ⟨_, ha5, ⟨c5, rfl, c_c5⟩, Ka5, H411⟩ := H410.callS 173 (z := ⟨"com/example/ruleweave/ruleweave/transfer/LemmaPartNamedPinLaw", "at", "(IIJ)C"⟩) (w 1 rfl) (w 2 rfl) (w 3 rfl) (w 4 rfl) (by decide) (argsL := [(.int kd), (.int (5 : Int32)), (.long dr)]) (rest := [(.int (5 : Int32)), (.ref b1)]) (Paid.of_met (W := 2) (metA hw H410.oldO Sc hzc Sf rf kd (i := (5 : Int32)) (j := 5) (by decide) rfl dr) (w 4 rfl) (w 3 rfl) hEL (by decide) (by decide)) (lenOf pd_0 rfl) rfl (Nat.le_of_eq rfl) at_170 (by decide) (by decide) all0
      have V14' := V14.ext (keepExt Ka5)
      obtain ⟨h15, K15, V15, H412⟩ := H411.stC 174 V14' 5 ⟨by decide, by decide⟩ rfl (by simp) c_c5.nar at_173 (by simp)
      have H413 := H412.iload 176 at_174 rfl
      have H414 := H413.bipush 178 (6 : Int32) at_176
      have H415 := H414.icmpNo 181 at_178 (by decide)
      have H416 := H415.aload 183 at_181 rfl
      have H417 := H416.bipush 185 (6 : Int32) at_183
      have H418 := H417.iload 187 at_185 rfl
      have H419 := H418.bipush 189 (6 : Int32) at_187
      have H420 := H419.lloadN 190 at_189 rfl
      obtain ⟨_, ha6, ⟨c6, rfl, c_c6⟩, Ka6, H421⟩ := H420.callS 193 (z := ⟨"com/example/ruleweave/ruleweave/transfer/LemmaPartNamedPinLaw", "at", "(IIJ)C"⟩) (w 1 rfl) (w 2 rfl) (w 3 rfl) (w 4 rfl) (by decide) (argsL := [(.int kd), (.int (6 : Int32)), (.long dr)]) (rest := [(.int (6 : Int32)), (.ref b1)]) (Paid.of_met (W := 2) (metA hw H420.oldO Sc hzc Sf rf kd (i := (6 : Int32)) (j := 6) (by decide) rfl dr) (w 4 rfl) (w 3 rfl) hEL (by decide) (by decide)) (lenOf pd_0 rfl) rfl (Nat.le_of_eq rfl) at_190 (by decide) (by decide) all0
      have V15' := V15.ext (keepExt Ka6)
      obtain ⟨h16, K16, V16, H422⟩ := H421.stC 194 V15' 6 ⟨by decide, by decide⟩ rfl (by simp) c_c6.nar at_193 (by simp)
      exact ⟨[c0, c1, c2, c3, c4, c5, c6], b1, h16, k1, rfl, by simp, (by intro c hc; simp only [List.mem_cons, List.not_mem_nil, or_false] at hc; rcases hc with rfl | rfl | rfl | rfl | rfl | rfl | rfl <;> first | exact c_c0 | exact c_c1 | exact c_c2 | exact c_c3 | exact c_c4 | exact c_c5 | exact c_c6), (V16).pad (fun i => by rcases i with _ | _ | _ | _ | _ | _ | _ | i <;> rfl), H422.more (by decide) (by decide) (fun x q => by simpa using q)⟩
  have H423 := HJ
  clear HJ
  have H424 := H423.iloadN 195 at_194 rfl
  have H425 := H424.bipush 197 (16 : Int32) at_195
  have H426 := H425.iand 198 at_197
  obtain ⟨ys, hB, s10, n_ys, l_ys, c_ys, VB, h10, HJ⟩ : ∃ (ys : List Int32) (hB : Heap) (s10 : Slot), n = Int32.ofNat ys.length ∧ ys.length ≤ 7 ∧ (∀ c ∈ ys, C8 c) ∧ Arv Z hB ba kc .char n (ys.map Value.int) (.int 0) ∧ (s10 = .unset ∨ ∃ v : Int32, s10 = .val (.int v)) ∧ Here kx room_1 Z EL1 n0 x code ret h [] hB 227 #[.val (.int p0), .val (.int p1), .val (.long dr), .second, .val (.int p3), .val (.int p4), .val (.int kd), .val (.int tl), .val (.int n), .val (.ref ba), s10] [] 15 231 [ba] := by
    by_cases e16 : (p0 &&& (16 : Int32)) = 0
    · have H427 := H426.ifYes 227 at_198 (XT.i0_eq_t e16)
      exact ⟨xs, hA, .unset, n_xs, l_xs, c_xs, VA, Or.inl rfl, H427⟩
    · have H428 := H426.ifNo 201 at_198 (XT.i0_eq_f e16)
      have H429 := H428.iload 203 at_201 rfl
      have H430 := H429.bipush 205 (7 : Int32) at_203
      have H431 := H430.iand 206 at_205
      generalize hpp : (p3 &&& (7 : Int32)) = pp at H431
      have c_pp : In8 pp := hpp ▸ mask7 p3
      have H432 := H431.istore 208 at_206 (L' := #[.val (.int p0), .val (.int p1), .val (.long dr), .second, .val (.int p3), .val (.int p4), .val (.int kd), .val (.int tl), .val (.int n), .val (.ref ba), .val (.int pp)]) rfl
      have H433 := H432.iload 210 at_208 rfl
      have H434 := H433.iload 212 at_210 rfl
      by_cases epn : pp < n
      · have H435 := H434.icmpNo 215 at_212 (XT.ii_ge_f epn)
        have H436 := H435.aload 217 at_215 rfl
        have H437 := H436.iload 219 at_217 rfl
        have H438 := H437.iload 221 at_219 rfl
        have H439 := H438.sipush 224 (255 : Int32) at_221
        have H440 := H439.iand 225 at_224
        have H441 := H440.i2c 226 at_225
        generalize hcv : (p4 &&& (255 : Int32)).toUInt32.toUInt16.toUInt32.toInt32 = cv at H441
        have c_cv : C8 cv := hcv ▸ c8m _
        have hix : pp.toNatClampNeg < xs.length := ix_lt c_pp l_xs (n_xs ▸ epn)
        obtain ⟨hB, KB, VB, H442⟩ := H441.stC 227 VA pp.toNatClampNeg ⟨in8_nn c_pp, epn⟩ rfl (by rw [List.length_map]; exact hix) c_cv.nar at_226 (by simp)
        rw [map_set'] at VB
        exact ⟨xs.set pp.toNatClampNeg cv, hB, .val (.int pp), by rw [List.length_set]; exact n_xs, by rw [List.length_set]; exact l_xs, set_c8 c_xs c_cv, VB, Or.inr ⟨pp, rfl⟩, H442⟩
      · have H443 := H434.icmpYes 227 at_212 (XT.ii_ge_t epn)
        exact ⟨xs, hA, .val (.int pp), n_xs, l_xs, c_xs, VA, Or.inr ⟨pp, rfl⟩, H443⟩
  have H444 := HJ
  clear HJ
  obtain ⟨b3, h3, g3, E3, A3, D3, H445⟩ := H444.newO 230 (w 41 rfl) (w 10 rfl) (w 9 rfl) at_227 (by decide) (by decide)
  have H446 := H445.dup 231 at_230
  have H447 := H446.aload 233 at_231 rfl
  have F3 : Fld Z h3 b3 ST "value" "[B" .null := D3 (Or.inr (w 12 rfl)) (ty := .array .byte) (by decide)
  have G3 : Fld Z h3 b3 ST "coder" "B" (.int 0) := D3 (Or.inr (w 13 rfl)) (ty := .byte) (by decide)
  obtain ⟨_, h3b, ⟨rfl, S3⟩, K3b, H448⟩ := H447.callI 236 (z := ⟨"java/lang/String", "<init>", "([C)V"⟩) rfl (w 42 rfl) (w 43 rfl) (w 44 rfl) (by decide) (a := b3) (argsL := [.ref ba]) (rest := [(.ref b3)])
    (payStr (W := 1) (cs := ys) (n := ys.length) (cap := 7) hEL hmem hws hwe H447.oldO (H447.sf_lt (by simp)).2 A3 F3 G3 (VB.ext E3) Sc hzc rfl l_ys n_ys (by decide) c_ys (by decide) (by decide)) (lenOf pd_7 rfl) rfl (Nat.le_of_eq rfl) at_233 (by decide) (by decide) (by simp)
  have X3 : Ext hB h3b := Ext.keep' E3 K3b (allS (Nat.le_of_eq g3.symm) all0)
  obtain ⟨_, h4, rfl, K4, H449⟩ := H448.callS 239 (z := ⟨"com/example/ruleweave/ruleweave/transfer/LemmaPart", "named", "(Ljava/lang/String;)Lcom/example/ruleweave/ruleweave/transfer/LemmaPart;"⟩) (w 62 rfl) (w 63 rfl) (w 64 rfl) (w 65 rfl) (by decide) (argsL := [(.ref b3)]) (rest := []) (Paid.of_met (W := 0) (metN hw H448.oldO Sc hzc Sv Tb N0 N1 N2 N3 S3) (w 65 rfl) (w 64 rfl) hEL (by decide) (by decide)) (lenOf pd_3 rfl) rfl (Nat.le_of_eq rfl) at_236 (by decide) (by decide) all0
  rcases isRef_cases (nmd_ref ys s0 s1 s2 s3) with hnd | ⟨rr, hnd⟩
  · rw [hnd] at H449
    have H450 : Here kx room_1 Z EL1 n0 x code ret h [] h4 241 #[.val (.int p0), .val (.int p1), .val (.long dr), .second, .val (.int p3), .val (.int p4), .val (.int kd), .val (.int tl), .val (.int n), .val (.ref ba), .val .null] [] 21 254 [b3, ba] := by
      rcases h10 with rfl | ⟨v10, rfl⟩
      · exact H449.astore 241 at_239 (L' := #[.val (.int p0), .val (.int p1), .val (.long dr), .second, .val (.int p3), .val (.int p4), .val (.int kd), .val (.int tl), .val (.int n), .val (.ref ba), .val .null]) rfl
      · exact H449.astore 241 at_239 (L' := #[.val (.int p0), .val (.int p1), .val (.long dr), .second, .val (.int p3), .val (.int p4), .val (.int kd), .val (.int tl), .val (.int n), .val (.ref ba), .val .null]) rfl
    have H451 := H450.aload 243 at_241 rfl
    have H452 := H451.aload 245 at_243 rfl
    have H453 := H452.iload 247 at_245 rfl
    have VB4 := VB.ext (Ext.trans' X3 (keepExt K4))
    obtain ⟨_, h5, rfl, K5, H454⟩ := H453.callS 250 (z := ⟨"com/example/ruleweave/ruleweave/transfer/LemmaPartNamedPinLaw", "expected", "([CI)Lcom/example/ruleweave/ruleweave/transfer/LemmaPart;"⟩) (w 96 rfl) (w 97 rfl) (w 3 rfl) (w 98 rfl) (by decide) (argsL := [(.ref ba), (.int n)]) (rest := [.null]) (Paid.of_met (W := 1) (metE hw H453.oldO S_0 S_1 S_2 S_3 n_ys l_ys VB4) (w 98 rfl) (w 3 rfl) hEL (by decide) (by decide)) (lenOf pd_2 rfl) rfl (Nat.le_of_eq rfl) at_247 (by decide) (by decide) all0
    rw [hnd] at H454
    have H455 := H454.acmpNo 253 at_250 (XT.aa_ne_f rfl)
    have H456 := H455.iconst 254 (1 : Int32) at_253
    have H457 := H456.goto 258 at_254
    exact H457.retI rfl rfl (by simp) at_258 (by decide) (by decide) rfl
  · rw [hnd] at H449
    have H458 : Here kx room_1 Z EL1 n0 x code ret h [] h4 241 #[.val (.int p0), .val (.int p1), .val (.long dr), .second, .val (.int p3), .val (.int p4), .val (.int kd), .val (.int tl), .val (.int n), .val (.ref ba), .val (.ref rr)] [] 21 254 [b3, ba] := by
      rcases h10 with rfl | ⟨v10, rfl⟩
      · exact H449.astore 241 at_239 (L' := #[.val (.int p0), .val (.int p1), .val (.long dr), .second, .val (.int p3), .val (.int p4), .val (.int kd), .val (.int tl), .val (.int n), .val (.ref ba), .val (.ref rr)]) rfl
      · exact H449.astore 241 at_239 (L' := #[.val (.int p0), .val (.int p1), .val (.long dr), .second, .val (.int p3), .val (.int p4), .val (.int kd), .val (.int tl), .val (.int n), .val (.ref ba), .val (.ref rr)]) rfl
    have H459 := H458.aload 243 at_241 rfl
    have H460 := H459.aload 245 at_243 rfl
    have H461 := H460.iload 247 at_245 rfl
    have VB4 := VB.ext (Ext.trans' X3 (keepExt K4))
    obtain ⟨_, h5, rfl, K5, H462⟩ := H461.callS 250 (z := ⟨"com/example/ruleweave/ruleweave/transfer/LemmaPartNamedPinLaw", "expected", "([CI)Lcom/example/ruleweave/ruleweave/transfer/LemmaPart;"⟩) (w 96 rfl) (w 97 rfl) (w 3 rfl) (w 98 rfl) (by decide) (argsL := [(.ref ba), (.int n)]) (rest := [(.ref rr)]) (Paid.of_met (W := 1) (metE hw H461.oldO S_0 S_1 S_2 S_3 n_ys l_ys VB4) (w 98 rfl) (w 3 rfl) hEL (by decide) (by decide)) (lenOf pd_2 rfl) rfl (Nat.le_of_eq rfl) at_247 (by decide) (by decide) all0
    rw [hnd] at H462
    have H463 := H462.acmpNo 253 at_250 (XT.aa_ne_f rfl)
    have H464 := H463.iconst 254 (1 : Int32) at_253
    have H465 := H464.goto 258 at_254
    exact H465.retI rfl rfl (by simp) at_258 (by decide) (by decide) rfl
theorem intOf {args : Array Value} {s : State} {t : Jvm.Term} {i : Int32} (h : (Jvm.Cond.eq t (Jvm.Term.int i)).value args s none s [] = some true) : t.eval args s none [] s = some (.int i) := by
  obtain ⟨x, y, h1, h2, h3, -⟩ := cmp_v (Or.inl h)
  cases (Term.int_eval i).symm.trans h2
  have hx : ∃ z, x = .int z := by cases x <;> simp [Kin, Value.isRef] at h3 ⊢
  obtain ⟨z, rfl⟩ := hx
  have e1 := gotT (Cond.eq_ints (args := args) (first := s) (o := none) (s := s) (idx := []) h1 (Term.int_eval i)) h
  subst e1
  exact h1
theorem lenAt {args : Array Value} {s : State} {t : Jvm.Term} {z : Int32} {x : Addr} {cl : Cell} {ty : FieldType} (h : (Jvm.Cond.eq (Jvm.Term.length t) (Jvm.Term.int z)).value args s none s [] = some true) (ht : t.eval args s none [] s = some (.ref x)) (A : Arr s s.heap x cl ty) : cl.slots.size < 2 ^ 31 ∧ cl.slots.size.toInt32 = z := by
  have h := intOf h
  have ha : s.arrayAt? x = some cl := Arr.fin (State.Warmed39.refl s).alike A
  by_cases q : cl.slots.size < 2 ^ 31
  · rw [len_f ht ha q] at h
    exact ⟨q, by injection h with h; injection h⟩
  · simp [Term.eval, ht, ha, q] at h
theorem elAt {args : Array Value} {s : State} {t : Jvm.Term} {j i : Int32} {x : Addr} {cl : Cell} {ty : FieldType} (h : (Jvm.Cond.eq (Jvm.Term.elem t (Jvm.Term.int j)) (Jvm.Term.int i)).value args s none s [] = some true) (ht : t.eval args s none [] s = some (.ref x)) (A : Arr s s.heap x cl ty) : cl.slots[j.toNatClampNeg]? = some (.int i) :=
  (elem_in (intOf h) ht (Term.int_eval j) A.1).2
theorem elRef {args : Array Value} {s : State} {t u : Jvm.Term} {j : Int32} {x y : Addr} {cl : Cell} {ty : FieldType} (h : (Jvm.Cond.eq (Jvm.Term.elem t (Jvm.Term.int j)) u).value args s none s [] = some true) (ht : t.eval args s none [] s = some (.ref x)) (hu : u.eval args s none [] s = some (.ref y)) (A : Arr s s.heap x cl ty) : cl.slots[j.toNatClampNeg]? = some (.ref y) :=
  (elem_in (Cond.eq_refs (beq_iff_eq.mpr h) hu rfl) ht (Term.int_eval j) A.1).2
theorem len_of' {c : Cell} {z : Int32} (h : c.slots.size < 2 ^ 31) (e : c.slots.size.toInt32 = z) : c.slots.size = z.toNatClampNeg := by
  subst e
  show c.slots.size = (Int32.ofNat c.slots.size).toInt.toNat
  rw [Int32.toInt_ofNat_small (by omega)]; rfl

set_option maxRecDepth 65536 in
set_option maxHeartbeats 4000000 in
theorem comes_1 {Post : Tables → Env → Array Value → State → Outcome → State → Prop} (hpost : ∀ tb e args s v u, (limb_1_1.after args s (.returned v) u = true ∧ limb_1_2.after args s (.returned v) u = true ∧ True) → FramedW s (.returned v) u (Jvm.fieldLocs frame_1_writes args s ++ Jvm.arrayLocs frame_1_arrays args s ++ Jvm.staticLocs frame_1_statics s) 32 5248 → Post tb e args s (.returned v) u) :
    ArmFor flags0 classFile x code maxLocals ret World_1 tables_1 room_1 Calls_1 rest_1 Pre_1 Post := by
  intro l hfl _ _ p e ha hc hk s m args below hf hA hF happ hP
  obtain ⟨hcalls, hrest, hpre⟩ := hP
  obtain ⟨-, -, -, hnamed, -, -, -, hat⟩ := (Spec.applies_iff hf).mp happ
  obtain ⟨hg, hn⟩ := and_e (Cond.before_iff.mp (show (Jvm.Cond.and given_1 narrow_1).before args s = true from hpre))
  obtain ⟨a0, b0⟩ := and_e hg
  obtain ⟨a1, b1⟩ := and_e b0
  obtain ⟨a2, b2⟩ := and_e b1
  obtain ⟨a3, b3⟩ := and_e b2
  obtain ⟨a4, b4⟩ := and_e b3
  obtain ⟨w0, w1, w2, w3, w4, rfl⟩ : ∃ w0 w1 w2 w3 w4 : Value, args = #[w0, w1, w2, w3, w4] := by
    have hs : args.size = 5 := by simpa [Cond.value, given_1] using a0
    obtain ⟨L⟩ := args
    match L, hs with
    | [w0, w1, w2, w3, w4], _ => exact ⟨w0, w1, w2, w3, w4, rfl⟩
  obtain ⟨i0, f0⟩ := is_v a1
  obtain rfl : w0 = (.int i0) := Option.some.inj f0
  obtain ⟨i1, f1⟩ := is_v a2
  obtain rfl : w1 = (.int i1) := Option.some.inj f1
  obtain ⟨i2, f2⟩ := isL_v a3
  obtain rfl : w2 = (.long i2) := Option.some.inj f2
  obtain ⟨i3, f3⟩ := is_v a4
  obtain rfl : w3 = (.int i3) := Option.some.inj f3
  obtain ⟨i4, f4⟩ := is_v b4
  obtain rfl : w4 = (.int i4) := Option.some.inj f4
  have hw := fun d (hd : d ∈ tables_1) => atoms_spec (ws := Jvm.Cond.code x code maxLocals ret :: tables_1) hat d (List.mem_cons_of_mem _ hd)
  have w : ∀ (i : Nat) {d : Jvm.Cond}, tables_1[i]? = some d → d.before _ s = true := fun i d q => hw d (List.mem_of_getElem? q)
  obtain ⟨hsets, hown0⟩ := atoms_of _ (rest_1_c_eq ▸ (show rest_1_c.before _ s = true from hrest))
  have n5 := not_v (Cond.before_iff.mp (hsets _ (List.mem_of_getElem? (i := 2) rfl)))
  obtain ⟨zc, e10⟩ := is_v (Cond.before_iff.mp (hsets _ (List.mem_of_getElem? (i := 1) rfl)))
  have Sc : Sta s s.heap "java/lang/String" "COMPACT_STRINGS" "Z" (.int zc) := Sta.start e10 (Or.inl (hsets _ (List.mem_of_getElem? (i := 0) rfl)))
  have hzc : ¬ (zc = (0 : Int32)) := gotF (Cond.eq_ints e10 (Term.int_eval (0))) n5
  have hfit : Fit s := fun {y c} hc i hi => by
    obtain ⟨ha, rfl⟩ := Array.getElem?_eq_some_iff.mp hc
    have q := List.all_eq_true.mp ((Array.all_eq_true_iff_forall_mem.mp hF) _ (Array.getElem_mem ha)) i (List.mem_range.mpr hi)
    simpa [Array.getElem?_eq_getElem hi] using q
  obtain ⟨n_0, r_0⟩ := and_e hn
  obtain ⟨n_1, r_1⟩ := and_e r_0
  obtain ⟨n_2, r_2⟩ := and_e r_1
  obtain ⟨n_3, r_3⟩ := and_e r_2
  obtain ⟨n_4, r_4⟩ := and_e r_3
  obtain ⟨n_5, r_5⟩ := and_e r_4
  obtain ⟨n_6, r_6⟩ := and_e r_5
  obtain ⟨n_7, r_7⟩ := and_e r_6
  obtain ⟨n_8, r_8⟩ := and_e r_7
  obtain ⟨n_9, r_9⟩ := and_e r_8
  obtain ⟨n_10, r_10⟩ := and_e r_9
  obtain ⟨n_11, r_11⟩ := and_e r_10
  obtain ⟨n_12, r_12⟩ := and_e r_11
  obtain ⟨n_13, r_13⟩ := and_e r_12
  obtain ⟨n_14, r_14⟩ := and_e r_13
  obtain ⟨n_15, r_15⟩ := and_e r_14
  obtain ⟨n_16, r_16⟩ := and_e r_15
  obtain ⟨n_17, r_17⟩ := and_e r_16
  obtain ⟨n_18, r_18⟩ := and_e r_17
  obtain ⟨n_19, r_19⟩ := and_e r_18
  obtain ⟨n_20, r_20⟩ := and_e r_19
  obtain ⟨n_21, r_21⟩ := and_e r_20
  obtain ⟨n_22, r_22⟩ := and_e r_21
  obtain ⟨n_23, r_23⟩ := and_e r_22
  obtain ⟨n_24, r_24⟩ := and_e r_23
  obtain ⟨n_25, r_25⟩ := and_e r_24
  obtain ⟨n_26, r_26⟩ := and_e r_25
  obtain ⟨n_27, r_27⟩ := and_e r_26
  obtain ⟨n_28, r_28⟩ := and_e r_27
  obtain ⟨n_29, r_29⟩ := and_e r_28
  obtain ⟨n_30, r_30⟩ := and_e r_29
  obtain ⟨n_31, r_31⟩ := and_e r_30
  obtain ⟨n_32, r_32⟩ := and_e r_31
  obtain ⟨n_33, r_33⟩ := and_e r_32
  obtain ⟨n_34, r_34⟩ := and_e r_33
  obtain ⟨n_35, r_35⟩ := and_e r_34
  obtain ⟨n_36, r_36⟩ := and_e r_35
  obtain ⟨n_37, r_37⟩ := and_e r_36
  obtain ⟨n_38, r_38⟩ := and_e r_37
  obtain ⟨n_39, r_39⟩ := and_e r_38
  obtain ⟨n_40, r_40⟩ := and_e r_39
  obtain ⟨n_41, r_41⟩ := and_e r_40
  obtain ⟨n_42, r_42⟩ := and_e r_41
  obtain ⟨n_43, r_43⟩ := and_e r_42
  obtain ⟨va, ev⟩ := arr_v n_0
  obtain ⟨cl, Av⟩ := Arr.start ev n_0
  have Xv := Exa.start ev n_1
  have lv := lenAt n_2 ev Av
  have Sv : Sta s s.heap "com/example/ruleweave/ruleweave/transfer/LemmaPart" "$VALUES" "[Lcom/example/ruleweave/ruleweave/transfer/LemmaPart;" (.ref va) := Sta.start ev (Or.inl (w 82 rfl))
  obtain ⟨s0, ev0⟩ := exa_v n_3
  have S_0 : Sta s s.heap "com/example/ruleweave/ruleweave/transfer/LemmaPart" "LEMMA" "Lcom/example/ruleweave/ruleweave/transfer/LemmaPart;" (.ref s0) := Sta.start ev0 (Or.inr ⟨(w 64 rfl), (w 78 rfl)⟩)
  have el0 := elRef n_4 ev ev0 Av
  obtain ⟨t0, et0⟩ := exa_v n_11
  have Xt0 := Exa.start et0 n_11
  have Ft0 : Fld s s.heap s0 "com/example/ruleweave/ruleweave/transfer/LemmaPart" "name" "Ljava/lang/String;" (.ref t0) := Fld.start (by rw [← fld_at ev0]; exact et0)
  have Ct0 : Fld s s.heap t0 "java/lang/String" "coder" "B" (.int 0) := Fld.start (by rw [← fld_at et0]; exact intOf n_12)
  obtain ⟨u0, eu0⟩ := arr_v n_13
  obtain ⟨cu0, Au0⟩ := Arr.start eu0 n_13
  have lu0 := lenAt n_14 eu0 Au0
  have Vt0 : Fld s s.heap t0 "java/lang/String" "value" "[B" (.ref u0) := Fld.start (by rw [← fld_at et0]; exact eu0)
  have Bt0 : Arv s s.heap u0 cu0.cls .byte 3 (([108, 101, 109] : List Int32).map Value.int) (.int 0) := Arv.start hfit Au0 lu0.1 lu0.2 (by decide) rfl ⟨elAt n_15 eu0 Au0, elAt n_16 eu0 Au0, elAt n_17 eu0 Au0, trivial⟩
  have N0 : Nam s s0 [108, 101, 109] := ⟨t0, Ft0, Xt0, u0, cu0.cls, 0, 3, _, Vt0, Ct0, Bt0, Or.inl ⟨rfl, rfl, rfl, by decide⟩, by decide, by decide⟩
  obtain ⟨s1, ev1⟩ := exa_v n_5
  have S_1 : Sta s s.heap "com/example/ruleweave/ruleweave/transfer/LemmaPart" "HEAD" "Lcom/example/ruleweave/ruleweave/transfer/LemmaPart;" (.ref s1) := Sta.start ev1 (Or.inr ⟨(w 64 rfl), (w 79 rfl)⟩)
  have el1 := elRef n_6 ev ev1 Av
  obtain ⟨t1, et1⟩ := exa_v n_18
  have Xt1 := Exa.start et1 n_18
  have Ft1 : Fld s s.heap s1 "com/example/ruleweave/ruleweave/transfer/LemmaPart" "name" "Ljava/lang/String;" (.ref t1) := Fld.start (by rw [← fld_at ev1]; exact et1)
  have Ct1 : Fld s s.heap t1 "java/lang/String" "coder" "B" (.int 0) := Fld.start (by rw [← fld_at et1]; exact intOf n_19)
  obtain ⟨u1, eu1⟩ := arr_v n_20
  obtain ⟨cu1, Au1⟩ := Arr.start eu1 n_20
  have lu1 := lenAt n_21 eu1 Au1
  have Vt1 : Fld s s.heap t1 "java/lang/String" "value" "[B" (.ref u1) := Fld.start (by rw [← fld_at et1]; exact eu1)
  have Bt1 : Arv s s.heap u1 cu1.cls .byte 4 (([108, 101, 109, 104] : List Int32).map Value.int) (.int 0) := Arv.start hfit Au1 lu1.1 lu1.2 (by decide) rfl ⟨elAt n_30 eu1 Au1, elAt n_31 eu1 Au1, elAt n_32 eu1 Au1, elAt n_33 eu1 Au1, trivial⟩
  have N1 : Nam s s1 [108, 101, 109, 104] := ⟨t1, Ft1, Xt1, u1, cu1.cls, 0, 4, _, Vt1, Ct1, Bt1, Or.inl ⟨rfl, rfl, rfl, by decide⟩, by decide, by decide⟩
  obtain ⟨s2, ev2⟩ := exa_v n_7
  have S_2 : Sta s s.heap "com/example/ruleweave/ruleweave/transfer/LemmaPart" "QUEUE" "Lcom/example/ruleweave/ruleweave/transfer/LemmaPart;" (.ref s2) := Sta.start ev2 (Or.inr ⟨(w 64 rfl), (w 80 rfl)⟩)
  have el2 := elRef n_8 ev ev2 Av
  obtain ⟨t2, et2⟩ := exa_v n_22
  have Xt2 := Exa.start et2 n_22
  have Ft2 : Fld s s.heap s2 "com/example/ruleweave/ruleweave/transfer/LemmaPart" "name" "Ljava/lang/String;" (.ref t2) := Fld.start (by rw [← fld_at ev2]; exact et2)
  have Ct2 : Fld s s.heap t2 "java/lang/String" "coder" "B" (.int 0) := Fld.start (by rw [← fld_at et2]; exact intOf n_23)
  obtain ⟨u2, eu2⟩ := arr_v n_24
  obtain ⟨cu2, Au2⟩ := Arr.start eu2 n_24
  have lu2 := lenAt n_25 eu2 Au2
  have Vt2 : Fld s s.heap t2 "java/lang/String" "value" "[B" (.ref u2) := Fld.start (by rw [← fld_at et2]; exact eu2)
  have Bt2 : Arv s s.heap u2 cu2.cls .byte 4 (([108, 101, 109, 113] : List Int32).map Value.int) (.int 0) := Arv.start hfit Au2 lu2.1 lu2.2 (by decide) rfl ⟨elAt n_34 eu2 Au2, elAt n_35 eu2 Au2, elAt n_36 eu2 Au2, elAt n_37 eu2 Au2, trivial⟩
  have N2 : Nam s s2 [108, 101, 109, 113] := ⟨t2, Ft2, Xt2, u2, cu2.cls, 0, 4, _, Vt2, Ct2, Bt2, Or.inl ⟨rfl, rfl, rfl, by decide⟩, by decide, by decide⟩
  obtain ⟨s3, ev3⟩ := exa_v n_9
  have S_3 : Sta s s.heap "com/example/ruleweave/ruleweave/transfer/LemmaPart" "CASE" "Lcom/example/ruleweave/ruleweave/transfer/LemmaPart;" (.ref s3) := Sta.start ev3 (Or.inr ⟨(w 64 rfl), (w 81 rfl)⟩)
  have el3 := elRef n_10 ev ev3 Av
  obtain ⟨t3, et3⟩ := exa_v n_26
  have Xt3 := Exa.start et3 n_26
  have Ft3 : Fld s s.heap s3 "com/example/ruleweave/ruleweave/transfer/LemmaPart" "name" "Ljava/lang/String;" (.ref t3) := Fld.start (by rw [← fld_at ev3]; exact et3)
  have Ct3 : Fld s s.heap t3 "java/lang/String" "coder" "B" (.int 0) := Fld.start (by rw [← fld_at et3]; exact intOf n_27)
  obtain ⟨u3, eu3⟩ := arr_v n_28
  obtain ⟨cu3, Au3⟩ := Arr.start eu3 n_28
  have lu3 := lenAt n_29 eu3 Au3
  have Vt3 : Fld s s.heap t3 "java/lang/String" "value" "[B" (.ref u3) := Fld.start (by rw [← fld_at et3]; exact eu3)
  have Bt3 : Arv s s.heap u3 cu3.cls .byte 7 (([108, 101, 109, 99, 97, 115, 101] : List Int32).map Value.int) (.int 0) := Arv.start hfit Au3 lu3.1 lu3.2 (by decide) rfl ⟨elAt n_38 eu3 Au3, elAt n_39 eu3 Au3, elAt n_40 eu3 Au3, elAt n_41 eu3 Au3, elAt n_42 eu3 Au3, elAt n_43 eu3 Au3, elAt r_43 eu3 Au3, trivial⟩
  have N3 : Nam s s3 [108, 101, 109, 99, 97, 115, 101] := ⟨t3, Ft3, Xt3, u3, cu3.cls, 0, 7, _, Vt3, Ct3, Bt3, Or.inl ⟨rfl, rfl, rfl, by decide⟩, by decide, by decide⟩
  have sz4 : cl.slots.size = 4 := by
    have q := len_of' lv.1 lv.2
    exact q
  have Tb : Tab s va cl s0 s1 s2 s3 := ⟨Av, Xv, FitC.start hfit Av, sz4, el0, el1, el2, el3⟩
  obtain ⟨fm, ef, rf⟩ := isR_v (Cond.before_iff.mp (hsets _ (List.mem_of_getElem? (i := 8) rfl)))
  have Sf : Sta s s.heap "jdk/internal/util/Preconditions" "SIOOBE_FORMATTER" "Ljava/util/function/BiFunction;" fm := Sta.start ef (Or.inl (hsets _ (List.mem_of_getElem? (i := 7) rfl)))
  have hEW : EW s _ EL1 := (EW.cons (w 8 rfl) (by decide) (EW.cons (w 103 rfl) (by decide) (EW.cons (w 105 rfl) (by decide) (EW.cons (w 102 rfl) (by decide) (EW.cons (w 101 rfl) (by simp) EW.nil)))))
  have hCH : CHv s EL1 s.vm s.heap := CHv.start hEW hcalls.1 (hsets _ (List.mem_of_getElem? (i := 2) rfl)) (w 11 rfl) (w 10 rfl)
  obtain ⟨n, o, h1, h2, h3, v, L, rfl, ⟨rfl, hK, N⟩, hCr, hq⟩ := (metL hw (Old.start s) Sc hzc Sf rf Sv Tb N0 N1 N2 N3 S_0 S_1 S_2 S_3 i0 i1 i2 i3 i4) l tables_1 p e ha hc hk s m _ below hf ((Spec.applies_iff_loose hf).mp happ).1 ⟨rfl, State.Warmed39.refl s, rfl, hCH, all0⟩ trivial
  refine ⟨n, _, h1, h2, h3, hpost _ _ _ _ _ _ ⟨Cond.after_iff.mpr rfl, Cond.after_iff.mpr (eq_i res_at (Term.int_eval (1)) rfl), trivial⟩ ⟨hq.1, hq.2.1, hq.2.2.1, (hq.2.2.2.sift fun y hy => Or.inr (N y hy)).mono (by decide) (by decide)⟩⟩
theorem main_1_1 : Claimed_1_1 := comes_1 fun _ _ _ _ _ _ h hF => ⟨h.1, hF⟩
theorem main_1_2 : Claimed_1_2 := comes_1 fun _ _ _ _ _ _ h hF => ⟨h.2.1, hF⟩
end Jvm.Pilot.@@N@@
namespace Jvm.Pilot.@@N@@
open Jvm Jvm.ClassFile Sem Op Lib Jvm.Free Jvm.Stand Jvm.Pilot.@@N@@.Jvm.D
/-! MADE BY PROGRAM (witnessworld.py) out of the Statement's table words and the real class files: 22 classes; the members and pool entries that the words name. The judged class is class 1, her method 1. -/
namespace start1
open Jvm.ClassFile
def u (s : String) : CpInfo := .utf8 (stringToUtf16 s)
/-- a pool by its gaps: so many unusable entries, then the entry; so many at the end -/
def gap : Nat → List CpInfo → List CpInfo
  | 0, r => r
  | n + 1, r => .unusable :: gap n r
def poolList (es : List (Nat × CpInfo)) (last : Nat) : List CpInfo := es.foldr (fun e r => gap e.1 (e.2 :: r)) (gap last [])
def pool (es : List (Nat × CpInfo)) (last : Nat) : Array CpInfo := ⟨poolList es last⟩
def fileOf (pool : Array CpInfo) (this : Nat) (attrs : Array Attribute := #[]) (ms : Array MethodInfo := #[]) (fl : Nat := 33) (sup : Nat := 0) (ifs : Array Nat := #[]) (fds : Array FieldInfo := #[]) : ClassFile where
  minorVersion := 0
  majorVersion := 65
  constantPool := pool
  accessFlags := fl
  thisClass := this
  superClass := sup
  interfaces := ifs
  fields := fds
  methods := ms
  attributes := attrs
def plain (name : String) (sup : Option ClassId) : Class where
  name := name
  kind := .ordinary
  loader := none
  accessFlags := 33
  super := sup
  interfaces := #[]
  cf := none
  fields := #[]
  methods := #[]
  instanceTypes := #[]
  staticTypes := #[]
  resolved := #[]
  callSites := []
  init := .initialized
  statics := none
  mirror := none

def pool0 : Array CpInfo := pool [(5, u "<init>"), (0, u "()V"), (1, .class_ 10), (1, u "java/lang/Object"), (85, u "clone"), (0, u "()Ljava/lang/Object;")] 26

def k0c0 : Code := { maxStack := 0, maxLocals := 1, code := object_method_1_code, exceptionTable := #[], attributes := #[] }
def k0m0 : Method := { name := "<init>", desc := "()V", sig := { parameters := [], returnType := none }, accessFlags := 1, code := some k0c0 }
def k0m1 : Method := { name := "clone", desc := "()Ljava/lang/Object;", sig := { parameters := [], returnType := some (.object "java/lang/Object") }, accessFlags := 260, code := none }
/-- java/lang/Object -/
def k0 : Class := { plain "java/lang/Object" none with
  accessFlags := 33
  interfaces := #[]
  cf := some (fileOf pool0 8 #[] #[{ accessFlags := 1, nameIndex := 5, descriptorIndex := 6, attributes := #[] }, { accessFlags := 260, nameIndex := 96, descriptorIndex := 97, attributes := #[] }] 33 0 #[] #[])
  fields := #[]
  methods := #[k0m0, k0m1]
  instanceTypes := #[]
  staticTypes := #[]
  resolved := Array.replicate 124 none
  statics := none }

def pool1 : Array CpInfo := pool [(2, .class_ 4), (1, u "java/lang/Object"), (0, u "<init>"), (0, u "()V"), (0, .methodref 8 9), (0, .class_ 10), (0, .nameAndType 11 12), (0, u "com/example/ruleweave/ruleweave/transfer/LemmaPartNamedPinLaw"), (0, u "at"), (0, u "(IIJ)C"), (0, .class_ 14), (0, u "java/lang/String"), (0, .methodref 13 16), (0, .nameAndType 5 17), (0, u "([C)V"), (0, .methodref 19 20), (0, .class_ 21), (0, .nameAndType 22 23), (0, u "com/example/ruleweave/ruleweave/transfer/LemmaPart"), (0, u "named"), (0, u "(Ljava/lang/String;)Lcom/example/ruleweave/ruleweave/transfer/LemmaPart;"), (0, .methodref 8 25), (0, .nameAndType 26 27), (0, u "expected"), (0, u "([CI)Lcom/example/ruleweave/ruleweave/transfer/LemmaPart;"), (0, .methodref 8 29), (0, .nameAndType 30 31), (0, u "template"), (0, u "(II)C"), (0, .long 255), (1, .string 35), (0, u "lem"), (0, .methodref 13 37), (0, .nameAndType 38 39), (0, u "charAt"), (0, u "(I)C"), (0, .string 41), (0, u "lemh"), (0, .string 43), (0, u "lemq"), (0, .string 45), (0, u "lemcase"), (0, .fieldref 19 47), (0, .nameAndType 48 49), (0, u "LEMMA"), (0, u "Lcom/example/ruleweave/ruleweave/transfer/LemmaPart;"), (0, .fieldref 19 51), (0, .nameAndType 52 49), (0, u "HEAD"), (0, .fieldref 19 54), (0, .nameAndType 55 49), (0, u "QUEUE"), (0, .fieldref 19 57), (0, .nameAndType 58 49), (0, u "CASE"), (2, u "law"), (0, u "(IIJII)Z")] 5

def k1m0 : Method := { name := "<init>", desc := "()V", sig := { parameters := [], returnType := none }, accessFlags := 1, code := none }
def k1c1 : Code := { maxStack := 6, maxLocals := 11, code := code, exceptionTable := #[], attributes := #[] }
def k1m1 : Method := { name := "law", desc := "(IIJII)Z", sig := { parameters := [.int, .int, .long, .int, .int], returnType := some .boolean }, accessFlags := 9, code := some k1c1 }
def k1c2 : Code := { maxStack := 4, maxLocals := 5, code := method_3_code, exceptionTable := #[], attributes := #[] }
def k1m2 : Method := { name := "at", desc := "(IIJ)C", sig := { parameters := [.int, .int, .long], returnType := some .char }, accessFlags := 10, code := some k1c2 }
def k1c3 : Code := { maxStack := 2, maxLocals := 2, code := method_4_code, exceptionTable := #[], attributes := #[] }
def k1m3 : Method := { name := "template", desc := "(II)C", sig := { parameters := [.int, .int], returnType := some .char }, accessFlags := 10, code := some k1c3 }
def k1c4 : Code := { maxStack := 2, maxLocals := 2, code := method_5_code, exceptionTable := #[], attributes := #[] }
def k1m4 : Method := { name := "expected", desc := "([CI)Lcom/example/ruleweave/ruleweave/transfer/LemmaPart;", sig := { parameters := [(.array .char), .int], returnType := some (.object "com/example/ruleweave/ruleweave/transfer/LemmaPart") }, accessFlags := 10, code := some k1c4 }
/-- com/example/ruleweave/ruleweave/transfer/LemmaPartNamedPinLaw -/
def k1 : Class := { plain "com/example/ruleweave/ruleweave/transfer/LemmaPartNamedPinLaw" (some 0) with
  accessFlags := 49
  interfaces := #[]
  cf := some (fileOf pool1 8 #[] #[{ accessFlags := 1, nameIndex := 5, descriptorIndex := 6, attributes := #[] }, { accessFlags := 9, nameIndex := 61, descriptorIndex := 62, attributes := #[] }, { accessFlags := 10, nameIndex := 11, descriptorIndex := 12, attributes := #[] }, { accessFlags := 10, nameIndex := 30, descriptorIndex := 31, attributes := #[] }, { accessFlags := 10, nameIndex := 26, descriptorIndex := 27, attributes := #[] }] 49 2 #[] #[])
  fields := #[]
  methods := #[k1m0, k1m1, k1m2, k1m3, k1m4]
  instanceTypes := #[]
  staticTypes := #[]
  resolved := Array.replicate 68 none
  statics := none }

def pool2 : Array CpInfo := pool [(1, .class_ 2), (0, u "java/io/Serializable"), (0, .class_ 4), (0, u "java/lang/Object")] 2

/-- java/io/Serializable -/
def k2 : Class := { plain "java/io/Serializable" (some 0) with
  accessFlags := 1537
  interfaces := #[]
  cf := some (fileOf pool2 1 #[] #[] 1537 3 #[] #[])
  fields := #[]
  methods := #[]
  instanceTypes := #[]
  staticTypes := #[]
  resolved := Array.replicate 7 none
  statics := none }

def pool3 : Array CpInfo := pool [(1, .class_ 2), (0, u "java/lang/Comparable"), (0, .class_ 4), (0, u "java/lang/Object")] 7

/-- java/lang/Comparable -/
def k3 : Class := { plain "java/lang/Comparable" (some 0) with
  accessFlags := 1537
  interfaces := #[]
  cf := some (fileOf pool3 1 #[] #[] 1537 3 #[] #[])
  fields := #[]
  methods := #[]
  instanceTypes := #[]
  staticTypes := #[]
  resolved := Array.replicate 12 none
  statics := none }

def pool4 : Array CpInfo := pool [(2, .class_ 4), (1, u "java/lang/CharSequence"), (42, .class_ 48), (0, u "java/lang/CharSequence$1CodePointIterator"), (10, .class_ 60), (0, u "java/lang/CharSequence$1CharIterator"), (5, .class_ 67), (0, u "java/lang/Object")] 63

/-- java/lang/CharSequence -/
def k4 : Class := { plain "java/lang/CharSequence" (some 0) with
  accessFlags := 1537
  interfaces := #[]
  cf := some (fileOf pool4 2 #[.nestMembers #[47, 59]] #[] 1537 66 #[] #[])
  fields := #[]
  methods := #[]
  instanceTypes := #[]
  staticTypes := #[]
  resolved := Array.replicate 131 none
  statics := none }

def pool5 : Array CpInfo := pool [(1, .class_ 2), (0, u "java/lang/constant/Constable"), (0, .class_ 4), (0, u "java/lang/Object")] 6

/-- java/lang/constant/Constable -/
def k5 : Class := { plain "java/lang/constant/Constable" (some 0) with
  accessFlags := 1537
  interfaces := #[]
  cf := some (fileOf pool5 1 #[] #[] 1537 3 #[] #[])
  fields := #[]
  methods := #[]
  instanceTypes := #[]
  staticTypes := #[]
  resolved := Array.replicate 11 none
  statics := none }

def pool6 : Array CpInfo := pool [(1, .class_ 2), (0, u "java/lang/constant/ConstantDesc"), (0, .class_ 4), (0, u "java/lang/Object")] 32

/-- java/lang/constant/ConstantDesc -/
def k6 : Class := { plain "java/lang/constant/ConstantDesc" (some 0) with
  accessFlags := 1537
  interfaces := #[]
  cf := some (fileOf pool6 1 #[] #[] 1537 3 #[] #[])
  fields := #[]
  methods := #[]
  instanceTypes := #[]
  staticTypes := #[]
  resolved := Array.replicate 37 none
  statics := none }

def pool7 : Array CpInfo := pool [(1, .methodref 2 3), (0, .class_ 4), (0, .nameAndType 5 6), (0, u "java/lang/Object"), (0, u "<init>"), (0, u "()V"), (0, .string 8), (0, u ""), (0, .fieldref 10 11), (0, .class_ 12), (0, .nameAndType 13 14), (0, u "java/lang/String"), (0, u "value"), (0, u "[B"), (0, .fieldref 10 16), (0, .nameAndType 17 18), (0, u "coder"), (0, u "B"), (2, u "hash"), (0, u "I"), (2, u "hashIsZero"), (0, u "Z"), (0, .methodref 10 28), (0, .nameAndType 5 29), (0, u "([CIILjava/lang/Void;)V"), (8, .fieldref 10 39), (0, .nameAndType 40 26), (0, u "COMPACT_STRINGS"), (1, .class_ 44), (1, u "java/lang/StringUTF16"), (0, u "compress"), (1, .methodref 42 48), (0, .nameAndType 49 50), (0, u "coderFromArrayLen"), (0, u "([BI)B"), (56, .class_ 109), (1, u "java/lang/StringLatin1"), (32, u "()Z"), (34, .methodref 42 178), (0, .nameAndType 45 179), (0, u "([CII)[B"), (183, u "([BI)C"), (27, u "(II)V"), (35, u "(I)C"), (64, .methodref 10 493), (0, .nameAndType 494 142), (0, u "isLatin1"), (0, .methodref 107 496), (0, .nameAndType 497 363), (0, u "charAt"), (3, u "checkIndex"), (39, .methodref 107 542), (0, .nameAndType 543 544), (0, u "equals"), (0, u "([B[B)Z"), (28, u "(Ljava/lang/Object;)Z"), (1, .class_ 576), (0, u "java/lang/CharSequence"), (22, u "CASE_INSENSITIVE_ORDER"), (0, u "Ljava/util/Comparator;"), (409, u "([C)V"), (42, .fieldref 1054 1055), (0, .class_ 1056), (0, .nameAndType 1057 1058), (0, u "jdk/internal/util/Preconditions"), (0, u "SIOOBE_FORMATTER"), (0, u "Ljava/util/function/BiFunction;"), (0, .methodref 1054 1060), (0, .nameAndType 501 1061), (0, u "(IILjava/util/function/BiFunction;)I"), (39, u "serialPersistentFields"), (0, u "[Ljava/io/ObjectStreamField;"), (0, .class_ 1104), (0, u "java/lang/String$CaseInsensitiveComparator"), (1, .class_ 1107), (0, u "java/io/Serializable"), (0, .class_ 1109), (0, u "java/lang/Comparable"), (0, .class_ 1111), (0, u "java/lang/constant/Constable"), (0, .class_ 1113), (0, u "java/lang/constant/ConstantDesc"), (2, u "serialVersionUID"), (0, u "J"), (3, u "REPL"), (0, u "C"), (2, u "LATIN1"), (1, u "UTF16")] 323

def k7m0 : Method := { name := "<init>", desc := "()V", sig := { parameters := [], returnType := none }, accessFlags := 1, code := none }
def k7c1 : Code := { maxStack := 5, maxLocals := 2, code := jdk_42_method_3_code, exceptionTable := #[], attributes := #[] }
def k7m1 : Method := { name := "<init>", desc := "([C)V", sig := { parameters := [(.array .char)], returnType := none }, accessFlags := 1, code := some k7c1 }
def k7c2 : Code := { maxStack := 2, maxLocals := 2, code := jdk_42_method_56_code, exceptionTable := #[], attributes := #[] }
def k7m2 : Method := { name := "charAt", desc := "(I)C", sig := { parameters := [.int], returnType := some .char }, accessFlags := 1, code := some k7c2 }
def k7c3 : Code := { maxStack := 2, maxLocals := 3, code := jdk_42_method_66_code, exceptionTable := #[], attributes := #[] }
def k7m3 : Method := { name := "equals", desc := "(Ljava/lang/Object;)Z", sig := { parameters := [(.object "java/lang/Object")], returnType := some .boolean }, accessFlags := 1, code := some k7c3 }
def k7c4 : Code := { maxStack := 4, maxLocals := 6, code := jdk_42_method_149_code, exceptionTable := #[], attributes := #[] }
def k7m4 : Method := { name := "<init>", desc := "([CIILjava/lang/Void;)V", sig := { parameters := [(.array .char), .int, .int, (.object "java/lang/Void")], returnType := none }, accessFlags := 2, code := some k7c4 }
def k7c5 : Code := { maxStack := 1, maxLocals := 1, code := jdk_42_method_154_code, exceptionTable := #[], attributes := #[] }
def k7m5 : Method := { name := "isLatin1", desc := "()Z", sig := { parameters := [], returnType := some .boolean }, accessFlags := 0, code := some k7c5 }
def k7c6 : Code := { maxStack := 3, maxLocals := 2, code := jdk_42_method_155_code, exceptionTable := #[], attributes := #[] }
def k7m6 : Method := { name := "checkIndex", desc := "(II)V", sig := { parameters := [.int, .int], returnType := none }, accessFlags := 8, code := some k7c6 }
/-- java/lang/String -/
def k7 : Class := { plain "java/lang/String" (some 0) with
  accessFlags := 49
  interfaces := #[2, 3, 4, 5, 6]
  cf := some (fileOf pool7 10 #[.nestMembers #[1103]] #[{ accessFlags := 1, nameIndex := 5, descriptorIndex := 6, attributes := #[] }, { accessFlags := 1, nameIndex := 5, descriptorIndex := 1010, attributes := #[] }, { accessFlags := 1, nameIndex := 497, descriptorIndex := 427, attributes := #[] }, { accessFlags := 1, nameIndex := 543, descriptorIndex := 573, attributes := #[] }, { accessFlags := 2, nameIndex := 5, descriptorIndex := 29, attributes := #[] }, { accessFlags := 0, nameIndex := 494, descriptorIndex := 142, attributes := #[] }, { accessFlags := 8, nameIndex := 501, descriptorIndex := 391, attributes := #[] }] 49 2 #[1106, 1108, 575, 1110, 1112] #[{ accessFlags := 18, nameIndex := 13, descriptorIndex := 14, attributes := #[] }, { accessFlags := 18, nameIndex := 17, descriptorIndex := 18, attributes := #[] }, { accessFlags := 2, nameIndex := 21, descriptorIndex := 22, attributes := #[] }, { accessFlags := 2, nameIndex := 25, descriptorIndex := 26, attributes := #[] }, { accessFlags := 26, nameIndex := 1116, descriptorIndex := 1117, attributes := #[] }, { accessFlags := 24, nameIndex := 40, descriptorIndex := 26, attributes := #[] }, { accessFlags := 26, nameIndex := 1101, descriptorIndex := 1102, attributes := #[] }, { accessFlags := 26, nameIndex := 1121, descriptorIndex := 1122, attributes := #[] }, { accessFlags := 25, nameIndex := 599, descriptorIndex := 600, attributes := #[] }, { accessFlags := 24, nameIndex := 1125, descriptorIndex := 18, attributes := #[] }, { accessFlags := 24, nameIndex := 1127, descriptorIndex := 18, attributes := #[] }])
  fields := #[{ name := "value", type := (.array .byte), accessFlags := 18, slot := 0, constantValue := 0 }, { name := "coder", type := .byte, accessFlags := 18, slot := 1, constantValue := 0 }, { name := "hash", type := .int, accessFlags := 2, slot := 2, constantValue := 0 }, { name := "hashIsZero", type := .boolean, accessFlags := 2, slot := 3, constantValue := 0 }, { name := "serialVersionUID", type := .long, accessFlags := 26, slot := 0, constantValue := 0 }, { name := "COMPACT_STRINGS", type := .boolean, accessFlags := 24, slot := 1, constantValue := 0 }, { name := "serialPersistentFields", type := (.array (.object "java/io/ObjectStreamField")), accessFlags := 26, slot := 2, constantValue := 0 }, { name := "REPL", type := .char, accessFlags := 26, slot := 3, constantValue := 0 }, { name := "CASE_INSENSITIVE_ORDER", type := (.object "java/util/Comparator"), accessFlags := 25, slot := 4, constantValue := 0 }, { name := "LATIN1", type := .byte, accessFlags := 24, slot := 5, constantValue := 0 }, { name := "UTF16", type := .byte, accessFlags := 24, slot := 6, constantValue := 0 }]
  methods := #[k7m0, k7m1, k7m2, k7m3, k7m4, k7m5, k7m6]
  instanceTypes := #[(.array .byte), .byte, .int, .boolean]
  staticTypes := #[.long, .boolean, (.array (.object "java/io/ObjectStreamField")), .char, (.object "java/util/Comparator"), .byte, .byte]
  resolved := Array.replicate 1451 none
  statics := some 0 }

def pool8 : Array CpInfo := pool [(1, .class_ 2), (0, u "java/lang/String"), (1, .class_ 6), (1, u "java/lang/Object"), (0, u "<init>"), (0, u "()V"), (0, .methodref 1 10), (0, .nameAndType 11 12), (0, u "checkIndex"), (0, u "(II)V"), (1, .class_ 16), (1, u "java/lang/StringLatin1"), (36, u "([BI)C"), (67, u "$assertionsDisabled"), (0, u "Z"), (98, .class_ 223), (1, u "java/lang/StringLatin1$LinesSpliterator"), (28, u "charAt"), (28, u "equals"), (0, u "([B[B)Z"), (107, .class_ 391), (0, u "java/lang/StringLatin1$CharsSpliterator")] 3

def k8m0 : Method := { name := "<init>", desc := "()V", sig := { parameters := [], returnType := none }, accessFlags := 0, code := none }
def k8c1 : Code := { maxStack := 2, maxLocals := 2, code := jdk_43_method_2_code, exceptionTable := #[], attributes := #[] }
def k8m1 : Method := { name := "charAt", desc := "([BI)C", sig := { parameters := [(.array .byte), .int], returnType := some .char }, accessFlags := 9, code := some k8c1 }
def k8c2 : Code := { maxStack := 3, maxLocals := 3, code := jdk_43_method_13_code, exceptionTable := #[], attributes := #[] }
def k8m2 : Method := { name := "equals", desc := "([B[B)Z", sig := { parameters := [(.array .byte), (.array .byte)], returnType := some .boolean }, accessFlags := 9, code := some k8c2 }
/-- java/lang/StringLatin1 -/
def k8 : Class := { plain "java/lang/StringLatin1" (some 0) with
  accessFlags := 48
  interfaces := #[]
  cf := some (fileOf pool8 14 #[.nestMembers #[390, 221]] #[{ accessFlags := 0, nameIndex := 7, descriptorIndex := 8, attributes := #[] }, { accessFlags := 9, nameIndex := 252, descriptorIndex := 53, attributes := #[] }, { accessFlags := 9, nameIndex := 281, descriptorIndex := 282, attributes := #[] }] 48 4 #[] #[{ accessFlags := 4120, nameIndex := 121, descriptorIndex := 122, attributes := #[] }])
  fields := #[{ name := "$assertionsDisabled", type := .boolean, accessFlags := 4120, slot := 0, constantValue := 0 }]
  methods := #[k8m0, k8m1, k8m2]
  instanceTypes := #[]
  staticTypes := #[.boolean]
  resolved := Array.replicate 395 none
  statics := none }

def pool9 : Array CpInfo := pool [(2, .class_ 4), (1, u "java/lang/Object"), (0, u "<init>"), (0, u "()V"), (17, .class_ 26), (1, u "jdk/internal/util/Preconditions"), (6, u "checkIndex"), (21, .class_ 56), (0, u "jdk/internal/util/Preconditions$4"), (57, .class_ 115), (0, u "jdk/internal/util/Preconditions$1"), (7, u "SIOOBE_FORMATTER"), (0, u "Ljava/util/function/BiFunction;"), (0, .class_ 126), (0, u "jdk/internal/util/Preconditions$2"), (3, u "AIOOBE_FORMATTER"), (0, .class_ 132), (0, u "jdk/internal/util/Preconditions$3"), (3, u "IOOBE_FORMATTER"), (41, u "(IILjava/util/function/BiFunction;)I")] 15

def k9m0 : Method := { name := "<init>", desc := "()V", sig := { parameters := [], returnType := none }, accessFlags := 1, code := none }
def k9c1 : Code := { maxStack := 3, maxLocals := 3, code := jdk_41_method_11_code, exceptionTable := #[], attributes := #[] }
def k9m1 : Method := { name := "checkIndex", desc := "(IILjava/util/function/BiFunction;)I", sig := { parameters := [.int, .int, (.object "java/util/function/BiFunction")], returnType := some .int }, accessFlags := 9, code := some k9c1 }
/-- jdk/internal/util/Preconditions -/
def k9 : Class := { plain "jdk/internal/util/Preconditions" (some 0) with
  accessFlags := 33
  interfaces := #[]
  cf := some (fileOf pool9 24 #[.nestMembers #[55, 131, 125, 114]] #[{ accessFlags := 1, nameIndex := 5, descriptorIndex := 6, attributes := #[] }, { accessFlags := 9, nameIndex := 33, descriptorIndex := 178, attributes := #[] }] 33 2 #[] #[{ accessFlags := 25, nameIndex := 123, descriptorIndex := 124, attributes := #[] }, { accessFlags := 25, nameIndex := 130, descriptorIndex := 124, attributes := #[] }, { accessFlags := 25, nameIndex := 136, descriptorIndex := 124, attributes := #[] }])
  fields := #[{ name := "SIOOBE_FORMATTER", type := (.object "java/util/function/BiFunction"), accessFlags := 25, slot := 0, constantValue := 0 }, { name := "AIOOBE_FORMATTER", type := (.object "java/util/function/BiFunction"), accessFlags := 25, slot := 1, constantValue := 0 }, { name := "IOOBE_FORMATTER", type := (.object "java/util/function/BiFunction"), accessFlags := 25, slot := 2, constantValue := 0 }]
  methods := #[k9m0, k9m1]
  instanceTypes := #[]
  staticTypes := #[(.object "java/util/function/BiFunction"), (.object "java/util/function/BiFunction"), (.object "java/util/function/BiFunction")]
  resolved := Array.replicate 194 none
  statics := some 1 }

def pool10 : Array CpInfo := pool [(6, .class_ 8), (1, u "java/lang/Object"), (0, u "<init>"), (0, u "()V"), (1, .class_ 14), (1, u "java/lang/StringUTF16"), (31, u "$assertionsDisabled"), (0, u "Z"), (13, u "HI_BYTE_SHIFT"), (0, u "I"), (2, u "LO_BYTE_SHIFT"), (49, .methodref 12 116), (0, .nameAndType 117 118), (0, u "compress"), (0, u "([CI[BII)I"), (3, u "([CII)[B"), (138, u "coderFromArrayLen"), (0, u "([BI)B"), (106, .class_ 371), (1, u "java/lang/StringUTF16$LinesSpliterator"), (58, u "MAX_LENGTH"), (196, .class_ 628), (0, u "java/lang/StringUTF16$CodePointsSpliterator"), (0, .class_ 630), (0, u "java/lang/StringUTF16$CharsSpliterator")] 4

def k10m0 : Method := { name := "<init>", desc := "()V", sig := { parameters := [], returnType := none }, accessFlags := 0, code := none }
def k10c1 : Code := { maxStack := 2, maxLocals := 2, code := jdk_52_method_15_code, exceptionTable := #[], attributes := #[] }
def k10m1 : Method := { name := "coderFromArrayLen", desc := "([BI)B", sig := { parameters := [(.array .byte), .int], returnType := some .byte }, accessFlags := 8, code := some k10c1 }
def k10c2 : Code := { maxStack := 5, maxLocals := 6, code := jdk_52_method_16_code, exceptionTable := #[], attributes := #[] }
def k10m2 : Method := { name := "compress", desc := "([CII)[B", sig := { parameters := [(.array .char), .int, .int], returnType := some (.array .byte) }, accessFlags := 9, code := some k10c2 }
def k10c3 : Code := { maxStack := 3, maxLocals := 7, code := jdk_52_method_21_code, exceptionTable := #[], attributes := #[] }
def k10m3 : Method := { name := "compress", desc := "([CI[BII)I", sig := { parameters := [(.array .char), .int, (.array .byte), .int, .int], returnType := some .int }, accessFlags := 9, code := some k10c3 }
/-- java/lang/StringUTF16 -/
def k10 : Class := { plain "java/lang/StringUTF16" (some 0) with
  accessFlags := 48
  interfaces := #[]
  cf := some (fileOf pool10 12 #[.nestMembers #[627, 629, 369]] #[{ accessFlags := 0, nameIndex := 9, descriptorIndex := 10, attributes := #[] }, { accessFlags := 8, nameIndex := 261, descriptorIndex := 262, attributes := #[] }, { accessFlags := 9, nameIndex := 117, descriptorIndex := 122, attributes := #[] }, { accessFlags := 9, nameIndex := 117, descriptorIndex := 118, attributes := #[] }] 48 6 #[] #[{ accessFlags := 26, nameIndex := 61, descriptorIndex := 62, attributes := #[] }, { accessFlags := 26, nameIndex := 65, descriptorIndex := 62, attributes := #[] }, { accessFlags := 24, nameIndex := 430, descriptorIndex := 62, attributes := #[] }, { accessFlags := 4120, nameIndex := 46, descriptorIndex := 47, attributes := #[] }])
  fields := #[{ name := "HI_BYTE_SHIFT", type := .int, accessFlags := 26, slot := 0, constantValue := 0 }, { name := "LO_BYTE_SHIFT", type := .int, accessFlags := 26, slot := 1, constantValue := 0 }, { name := "MAX_LENGTH", type := .int, accessFlags := 24, slot := 2, constantValue := 0 }, { name := "$assertionsDisabled", type := .boolean, accessFlags := 4120, slot := 3, constantValue := 0 }]
  methods := #[k10m0, k10m1, k10m2, k10m3]
  instanceTypes := #[]
  staticTypes := #[.int, .int, .int, .boolean]
  resolved := Array.replicate 635 none
  statics := none }

def pool11 : Array CpInfo := pool [(2, .class_ 4), (1, u "java/lang/Enum"), (0, u "name"), (0, u "Ljava/lang/String;"), (2, u "ordinal"), (0, u "I"), (1, .class_ 14), (1, u "java/lang/Object"), (4, u "hash"), (86, .class_ 108), (1, u "java/lang/Enum$EnumDesc"), (2, .class_ 112), (0, u "java/lang/constant/Constable"), (0, .class_ 114), (0, u "java/lang/Comparable"), (0, .class_ 116), (0, u "java/io/Serializable")] 87

/-- java/lang/Enum -/
def k11 : Class := { plain "java/lang/Enum" (some 0) with
  accessFlags := 1057
  interfaces := #[5, 3, 2]
  cf := some (fileOf pool11 2 #[.nestMembers #[106]] #[] 1057 12 #[111, 113, 115] #[{ accessFlags := 18, nameIndex := 5, descriptorIndex := 6, attributes := #[] }, { accessFlags := 18, nameIndex := 9, descriptorIndex := 10, attributes := #[] }, { accessFlags := 2, nameIndex := 19, descriptorIndex := 10, attributes := #[] }])
  fields := #[{ name := "name", type := (.object "java/lang/String"), accessFlags := 18, slot := 0, constantValue := 0 }, { name := "ordinal", type := .int, accessFlags := 18, slot := 1, constantValue := 0 }, { name := "hash", type := .int, accessFlags := 2, slot := 2, constantValue := 0 }]
  methods := #[]
  instanceTypes := #[(.object "java/lang/String"), .int, .int]
  staticTypes := #[]
  resolved := Array.replicate 204 none
  statics := none }

def pool12 : Array CpInfo := pool [(1, .class_ 2), (0, u "com/example/ruleweave/ruleweave/transfer/LemmaPart"), (2, u "LEMMA"), (0, u "Lcom/example/ruleweave/ruleweave/transfer/LemmaPart;"), (2, u "HEAD"), (2, u "QUEUE"), (2, u "CASE"), (0, .fieldref 1 17), (0, .nameAndType 18 19), (0, u "$VALUES"), (0, u "[Lcom/example/ruleweave/ruleweave/transfer/LemmaPart;"), (0, .methodref 21 22), (0, .class_ 19), (0, .nameAndType 23 24), (0, u "clone"), (0, u "()Ljava/lang/Object;"), (1, .class_ 28), (1, u "java/lang/Enum"), (6, .fieldref 1 36), (0, .nameAndType 37 38), (0, u "name"), (0, u "Ljava/lang/String;"), (0, .methodref 1 40), (0, .nameAndType 41 42), (0, u "values"), (0, u "()[Lcom/example/ruleweave/ruleweave/transfer/LemmaPart;"), (0, .methodref 44 45), (0, .class_ 46), (0, .nameAndType 47 48), (0, u "java/lang/String"), (0, u "equals"), (0, u "(Ljava/lang/Object;)Z"), (146, u "(Ljava/lang/String;)Lcom/example/ruleweave/ruleweave/transfer/LemmaPart;"), (3, u "named")] 23

def k12c0 : Code := { maxStack := 1, maxLocals := 0, code := prog_67_method_1_code, exceptionTable := #[], attributes := #[] }
def k12m0 : Method := { name := "values", desc := "()[Lcom/example/ruleweave/ruleweave/transfer/LemmaPart;", sig := { parameters := [], returnType := some (.array (.object "com/example/ruleweave/ruleweave/transfer/LemmaPart")) }, accessFlags := 9, code := some k12c0 }
def k12c1 : Code := { maxStack := 2, maxLocals := 5, code := prog_67_method_4_code, exceptionTable := #[], attributes := #[] }
def k12m1 : Method := { name := "named", desc := "(Ljava/lang/String;)Lcom/example/ruleweave/ruleweave/transfer/LemmaPart;", sig := { parameters := [(.object "java/lang/String")], returnType := some (.object "com/example/ruleweave/ruleweave/transfer/LemmaPart") }, accessFlags := 8, code := some k12c1 }
/-- com/example/ruleweave/ruleweave/transfer/LemmaPart -/
def k12 : Class := { plain "com/example/ruleweave/ruleweave/transfer/LemmaPart" (some 11) with
  accessFlags := 16432
  interfaces := #[]
  cf := some (fileOf pool12 1 #[] #[{ accessFlags := 9, nameIndex := 41, descriptorIndex := 42, attributes := #[] }, { accessFlags := 8, nameIndex := 199, descriptorIndex := 195, attributes := #[] }] 16432 26 #[] #[{ accessFlags := 16409, nameIndex := 5, descriptorIndex := 6, attributes := #[] }, { accessFlags := 16409, nameIndex := 9, descriptorIndex := 6, attributes := #[] }, { accessFlags := 16409, nameIndex := 12, descriptorIndex := 6, attributes := #[] }, { accessFlags := 16409, nameIndex := 15, descriptorIndex := 6, attributes := #[] }, { accessFlags := 18, nameIndex := 37, descriptorIndex := 38, attributes := #[] }, { accessFlags := 4122, nameIndex := 18, descriptorIndex := 19, attributes := #[] }])
  fields := #[{ name := "LEMMA", type := (.object "com/example/ruleweave/ruleweave/transfer/LemmaPart"), accessFlags := 16409, slot := 0, constantValue := 0 }, { name := "HEAD", type := (.object "com/example/ruleweave/ruleweave/transfer/LemmaPart"), accessFlags := 16409, slot := 1, constantValue := 0 }, { name := "QUEUE", type := (.object "com/example/ruleweave/ruleweave/transfer/LemmaPart"), accessFlags := 16409, slot := 2, constantValue := 0 }, { name := "CASE", type := (.object "com/example/ruleweave/ruleweave/transfer/LemmaPart"), accessFlags := 16409, slot := 3, constantValue := 0 }, { name := "name", type := (.object "java/lang/String"), accessFlags := 18, slot := 3, constantValue := 0 }, { name := "$VALUES", type := (.array (.object "com/example/ruleweave/ruleweave/transfer/LemmaPart")), accessFlags := 4122, slot := 4, constantValue := 0 }]
  methods := #[k12m0, k12m1]
  instanceTypes := #[(.object "java/lang/String"), .int, .int, (.object "java/lang/String")]
  staticTypes := #[(.object "com/example/ruleweave/ruleweave/transfer/LemmaPart"), (.object "com/example/ruleweave/ruleweave/transfer/LemmaPart"), (.object "com/example/ruleweave/ruleweave/transfer/LemmaPart"), (.object "com/example/ruleweave/ruleweave/transfer/LemmaPart"), (.array (.object "com/example/ruleweave/ruleweave/transfer/LemmaPart"))]
  resolved := Array.replicate 223 none
  statics := some 2 }

def pool13 : Array CpInfo := pool [(1, .class_ 2), (0, u "java/lang/Cloneable"), (0, .class_ 4), (0, u "java/lang/Object")] 2

/-- java/lang/Cloneable -/
def k13 : Class := { plain "java/lang/Cloneable" (some 0) with
  accessFlags := 1537
  interfaces := #[]
  cf := some (fileOf pool13 1 #[] #[] 1537 3 #[] #[])
  fields := #[]
  methods := #[]
  instanceTypes := #[]
  staticTypes := #[]
  resolved := Array.replicate 7 none
  statics := none }

def pool14 : Array CpInfo := pool [(9, u "<init>"), (6, .class_ 18), (1, u "java/lang/Object"), (0, u "()V"), (1, .class_ 23), (1, u "jdk/internal/util/ArraysSupport"), (0, u "LOG2_ARRAY_LONG_INDEX_SCALE"), (0, u "I"), (2, u "U"), (0, u "Ljdk/internal/misc/Unsafe;"), (8, u "BIG_ENDIAN"), (0, u "Z"), (8, u "LOG2_BYTE_BIT_SIZE"), (4, u "LOG2_ARRAY_INT_INDEX_SCALE"), (54, u "JLA"), (0, u "Ljdk/internal/access/JavaLangAccess;"), (11, u "LOG2_ARRAY_BOOLEAN_INDEX_SCALE"), (9, u "LOG2_ARRAY_BYTE_INDEX_SCALE"), (5, u "LOG2_ARRAY_CHAR_INDEX_SCALE"), (5, u "LOG2_ARRAY_SHORT_INDEX_SCALE"), (18, u "LOG2_ARRAY_FLOAT_INDEX_SCALE"), (24, u "LOG2_ARRAY_DOUBLE_INDEX_SCALE"), (89, u "T_BOOLEAN"), (2, u "T_CHAR"), (1, u "T_FLOAT"), (1, u "T_DOUBLE"), (1, u "T_BYTE"), (1, u "T_SHORT"), (1, u "T_INT"), (1, u "T_LONG"), (1, u "SOFT_MAX_ARRAY_LENGTH")] 83

def k14m0 : Method := { name := "<init>", desc := "()V", sig := { parameters := [], returnType := none }, accessFlags := 2, code := none }
/-- jdk/internal/util/ArraysSupport -/
def k14 : Class := { plain "jdk/internal/util/ArraysSupport" (some 0) with
  accessFlags := 33
  interfaces := #[]
  cf := some (fileOf pool14 21 #[] #[{ accessFlags := 2, nameIndex := 9, descriptorIndex := 19, attributes := #[] }] 33 16 #[] #[{ accessFlags := 24, nameIndex := 28, descriptorIndex := 29, attributes := #[] }, { accessFlags := 26, nameIndex := 38, descriptorIndex := 39, attributes := #[] }, { accessFlags := 25, nameIndex := 121, descriptorIndex := 25, attributes := #[] }, { accessFlags := 25, nameIndex := 131, descriptorIndex := 25, attributes := #[] }, { accessFlags := 25, nameIndex := 137, descriptorIndex := 25, attributes := #[] }, { accessFlags := 25, nameIndex := 143, descriptorIndex := 25, attributes := #[] }, { accessFlags := 25, nameIndex := 53, descriptorIndex := 25, attributes := #[] }, { accessFlags := 25, nameIndex := 24, descriptorIndex := 25, attributes := #[] }, { accessFlags := 25, nameIndex := 162, descriptorIndex := 25, attributes := #[] }, { accessFlags := 25, nameIndex := 187, descriptorIndex := 25, attributes := #[] }, { accessFlags := 26, nameIndex := 48, descriptorIndex := 25, attributes := #[] }, { accessFlags := 25, nameIndex := 277, descriptorIndex := 25, attributes := #[] }, { accessFlags := 25, nameIndex := 280, descriptorIndex := 25, attributes := #[] }, { accessFlags := 25, nameIndex := 282, descriptorIndex := 25, attributes := #[] }, { accessFlags := 25, nameIndex := 284, descriptorIndex := 25, attributes := #[] }, { accessFlags := 25, nameIndex := 286, descriptorIndex := 25, attributes := #[] }, { accessFlags := 25, nameIndex := 288, descriptorIndex := 25, attributes := #[] }, { accessFlags := 25, nameIndex := 290, descriptorIndex := 25, attributes := #[] }, { accessFlags := 25, nameIndex := 292, descriptorIndex := 25, attributes := #[] }, { accessFlags := 26, nameIndex := 108, descriptorIndex := 109, attributes := #[] }, { accessFlags := 25, nameIndex := 294, descriptorIndex := 25, attributes := #[] }])
  fields := #[{ name := "U", type := (.object "jdk/internal/misc/Unsafe"), accessFlags := 24, slot := 0, constantValue := 0 }, { name := "BIG_ENDIAN", type := .boolean, accessFlags := 26, slot := 1, constantValue := 0 }, { name := "LOG2_ARRAY_BOOLEAN_INDEX_SCALE", type := .int, accessFlags := 25, slot := 2, constantValue := 0 }, { name := "LOG2_ARRAY_BYTE_INDEX_SCALE", type := .int, accessFlags := 25, slot := 3, constantValue := 0 }, { name := "LOG2_ARRAY_CHAR_INDEX_SCALE", type := .int, accessFlags := 25, slot := 4, constantValue := 0 }, { name := "LOG2_ARRAY_SHORT_INDEX_SCALE", type := .int, accessFlags := 25, slot := 5, constantValue := 0 }, { name := "LOG2_ARRAY_INT_INDEX_SCALE", type := .int, accessFlags := 25, slot := 6, constantValue := 0 }, { name := "LOG2_ARRAY_LONG_INDEX_SCALE", type := .int, accessFlags := 25, slot := 7, constantValue := 0 }, { name := "LOG2_ARRAY_FLOAT_INDEX_SCALE", type := .int, accessFlags := 25, slot := 8, constantValue := 0 }, { name := "LOG2_ARRAY_DOUBLE_INDEX_SCALE", type := .int, accessFlags := 25, slot := 9, constantValue := 0 }, { name := "LOG2_BYTE_BIT_SIZE", type := .int, accessFlags := 26, slot := 10, constantValue := 0 }, { name := "T_BOOLEAN", type := .int, accessFlags := 25, slot := 11, constantValue := 0 }, { name := "T_CHAR", type := .int, accessFlags := 25, slot := 12, constantValue := 0 }, { name := "T_FLOAT", type := .int, accessFlags := 25, slot := 13, constantValue := 0 }, { name := "T_DOUBLE", type := .int, accessFlags := 25, slot := 14, constantValue := 0 }, { name := "T_BYTE", type := .int, accessFlags := 25, slot := 15, constantValue := 0 }, { name := "T_SHORT", type := .int, accessFlags := 25, slot := 16, constantValue := 0 }, { name := "T_INT", type := .int, accessFlags := 25, slot := 17, constantValue := 0 }, { name := "T_LONG", type := .int, accessFlags := 25, slot := 18, constantValue := 0 }, { name := "JLA", type := (.object "jdk/internal/access/JavaLangAccess"), accessFlags := 26, slot := 19, constantValue := 0 }, { name := "SOFT_MAX_ARRAY_LENGTH", type := .int, accessFlags := 25, slot := 20, constantValue := 0 }]
  methods := #[k14m0]
  instanceTypes := #[]
  staticTypes := #[(.object "jdk/internal/misc/Unsafe"), .boolean, .int, .int, .int, .int, .int, .int, .int, .int, .int, .int, .int, .int, .int, .int, .int, .int, .int, (.object "jdk/internal/access/JavaLangAccess"), .int]
  resolved := Array.replicate 378 none
  statics := none }

/-- the primitive byte -/
def k15 : Class := { plain "byte" none with kind := .primitive 'B', accessFlags := 0x411 }
/-- [B -/
def k16 : Class := { plain "[B" (some 0) with kind := .array 15 .byte, interfaces := #[13, 2], accessFlags := 1041 }

/-- the primitive char -/
def k17 : Class := { plain "char" none with kind := .primitive 'C', accessFlags := 0x411 }
/-- [C -/
def k18 : Class := { plain "[C" (some 0) with kind := .array 17 .char, interfaces := #[13, 2], accessFlags := 1041 }

/-- the primitive int -/
def k19 : Class := { plain "int" none with kind := .primitive 'I', accessFlags := 0x411 }
/-- [I -/
def k20 : Class := { plain "[I" (some 0) with kind := .array 19 .int, interfaces := #[13, 2], accessFlags := 1041 }

/-- [Lcom/example/ruleweave/ruleweave/transfer/LemmaPart; -/
def k21 : Class := { plain "[Lcom/example/ruleweave/ruleweave/transfer/LemmaPart;" (some 0) with kind := .array 12 (.object "com/example/ruleweave/ruleweave/transfer/LemmaPart"), interfaces := #[13, 2], accessFlags := 1041 }

def heap : Heap := #[{ cls := 7, slots := #[.long 0, .int 1, .null, .int 0, .null, .int 0, .int 0], vm := .statics 7 },
  { cls := 9, slots := #[.null, .null, .null], vm := .statics 9 },
  { cls := 12, slots := #[.ref 4, .ref 5, .ref 6, .ref 7, .ref 3], vm := .statics 12 },
  { cls := 21, slots := #[.ref 4, .ref 5, .ref 6, .ref 7], vm := .none },
  { cls := 12, slots := #[.null, .int 0, .int 0, .ref 8], vm := .none },
  { cls := 12, slots := #[.null, .int 1, .int 0, .ref 10], vm := .none },
  { cls := 12, slots := #[.null, .int 2, .int 0, .ref 12], vm := .none },
  { cls := 12, slots := #[.null, .int 3, .int 0, .ref 14], vm := .none },
  { cls := 7, slots := #[.ref 9, .int 0, .int 0, .int 0], vm := .none },
  { cls := 16, slots := #[.int 108, .int 101, .int 109], vm := .none },
  { cls := 7, slots := #[.ref 11, .int 0, .int 0, .int 0], vm := .none },
  { cls := 16, slots := #[.int 108, .int 101, .int 109, .int 104], vm := .none },
  { cls := 7, slots := #[.ref 13, .int 0, .int 0, .int 0], vm := .none },
  { cls := 16, slots := #[.int 108, .int 101, .int 109, .int 113], vm := .none },
  { cls := 7, slots := #[.ref 15, .int 0, .int 0, .int 0], vm := .none },
  { cls := 16, slots := #[.int 108, .int 101, .int 109, .int 99, .int 97, .int 115, .int 101], vm := .none }]
def classes : Array Class := #[k0, k1, k2, k3, k4, k5, k6, k7, k8, k9, k10, k11, k12, k13, k14, k15, k16, k17, k18, k19, k20, k21]
def interned : List (Array UInt16 × Addr) := []
def slotsUsed : Nat := 69
def theMethod : MethodId := ⟨1, 1⟩
def args0 : Array Value := #[.int 3, .int 5, .long 9, .int 8, .int 7]
def aboutOver (below : List Frame) : State where
  vm := { classes := classes, interned := interned.toArray }
  heap := heap
  slotsUsed := slotsUsed
  threads := #[{ frames := .invoking theMethod args0 :: below }]
def below0 : List Frame := [.native { method := ⟨0, 0⟩, args := #[] }]
def about1 : State := aboutOver below0
def p0 : Program := .bare "" "" ""
def e0 : Env := launch0.env 0 0 0
theorem w_frames : about1.frames = Frame.invoking theMethod args0 :: below0 := rfl
set_option maxRecDepth 65536 in
theorem w_args : argsFit about1.vm theMethod args0 = true := by decide +kernel
set_option maxRecDepth 65536 in
theorem w_heap : heapFits about1 = true := by decide +kernel
set_option maxRecDepth 65536 in
theorem w_runnable : about1.curStatus? = some .runnable := by decide +kernel
set_option maxRecDepth 65536 in
theorem w_alone : about1.alone = true := by decide +kernel
set_option maxRecDepth 65536 in
theorem w_named : about1.methodNamed? x = some theMethod := by decide +kernel
set_option maxRecDepth 65536 in
theorem w_hears : about1.hears theMethod below0 = true := by decide +kernel
set_option maxRecDepth 65536 in
theorem w_ripe : about1.ripe theMethod args0 below0 = true := by decide +kernel
theorem w_running : about1.status = .running := rfl
set_option maxRecDepth 65536 in
theorem w_room : about1.hasRoom e0.platform room_1 = true :=
  launch0.hasRoom_least _ room_1 (by decide +kernel) (by decide +kernel) (by decide +kernel) (by decide +kernel) (by decide +kernel) (by decide +kernel)
theorem allAtoms_all (ts : List Jvm.Cond) (a : Array Jvm.Value) (st : Jvm.State) : (allAtoms ts).before a st = ts.all (fun c => c.before a st) := by
  induction ts with
  | nil => rfl
  | cons c t ih =>
    show (Jvm.Cond.and c (allAtoms t)).before a st = _
    rw [Jvm.Cond.before_and, ih, List.all_cons]
def words1 : List Jvm.Cond := Jvm.Cond.code x code maxLocals ret :: tables_1
/-- a 'code' word, met by the world's own term for the bytes: nothing is compared byte by byte -/
theorem code_word {y : MethodName} {bytes : ByteArray} {mx : Nat} {rt : Option FieldType} {a : Array Value} {s : State} {m : MethodId} {meth : Method} {c : Code} (h1 : s.methodNamed? y = some m) (h2 : s.vm.method? m = some meth) (h3 : meth.code = some c) (h4 : c.code = bytes)
    (h5 : (c.maxLocals == mx && c.exceptionTable.isEmpty && decide (c.maxStack ≤ mostOperands) && decide (meth.sig.returnType = rt) && !meth.locks && decide (parseMethodDescriptor y.desc = some meth.sig)) = true) : (Jvm.Cond.code y bytes mx rt).before a s = true := by
  simp only [Bool.and_eq_true, beq_iff_eq, Bool.not_eq_true', decide_eq_true_eq] at h5
  obtain ⟨⟨⟨⟨⟨g1, g2⟩, g3⟩, g4⟩, g5⟩, g6⟩ := h5
  simp [Cond.before, Cond.holds, Cond.value, h1, h2, h3, h4, g1, g2, g3, g4, g5, g6]
def isCode : Jvm.Cond → Bool
  | .code _ _ _ _ => true
  | _ => false
theorem all_split {L : List Jvm.Cond} {P : Jvm.Cond → Bool} (h1 : L.all (fun c => isCode c || P c) = true) (h2 : ∀ c ∈ L.filter isCode, P c = true) : L.all P = true := by
  refine List.all_eq_true.mpr fun c hc => ?_
  have h := List.all_eq_true.mp h1 c hc
  rcases Bool.eq_false_or_eq_true (isCode c) with hi | hi
  · exact h2 c (List.mem_filter.mpr ⟨hc, hi⟩)
  · simpa [hi] using h
set_option maxRecDepth 65536 in
theorem w_c0 : (Jvm.Cond.code x code maxLocals ret).before args0 about1 = true := code_word (m := ⟨1, 1⟩) (meth := k1m1) (c := k1c1) (by decide +kernel) rfl rfl rfl (by decide +kernel)
set_option maxRecDepth 65536 in
theorem w_c1 : (Jvm.Cond.code ({ cls := "com/example/ruleweave/ruleweave/transfer/LemmaPartNamedPinLaw", name := "at", desc := "(IIJ)C" } : Jvm.MethodName) method_3_code (5 : Nat) (Option.some Jvm.ClassFile.FieldType.char)).before args0 about1 = true := code_word (m := ⟨1, 2⟩) (meth := k1m2) (c := k1c2) (by decide +kernel) rfl rfl rfl (by decide +kernel)
set_option maxRecDepth 65536 in
theorem w_c2 : (Jvm.Cond.code ({ cls := "com/example/ruleweave/ruleweave/transfer/LemmaPartNamedPinLaw", name := "template", desc := "(II)C" } : Jvm.MethodName) method_4_code (2 : Nat) (Option.some Jvm.ClassFile.FieldType.char)).before args0 about1 = true := code_word (m := ⟨1, 3⟩) (meth := k1m3) (c := k1c3) (by decide +kernel) rfl rfl rfl (by decide +kernel)
set_option maxRecDepth 65536 in
theorem w_c3 : (Jvm.Cond.code ({ cls := "java/lang/String", name := "charAt", desc := "(I)C" } : Jvm.MethodName) jdk_42_method_56_code (2 : Nat) (Option.some Jvm.ClassFile.FieldType.char)).before args0 about1 = true := code_word (m := ⟨7, 2⟩) (meth := k7m2) (c := k7c2) (by decide +kernel) rfl rfl rfl (by decide +kernel)
set_option maxRecDepth 65536 in
theorem w_c4 : (Jvm.Cond.code ({ cls := "java/lang/String", name := "isLatin1", desc := "()Z" } : Jvm.MethodName) jdk_42_method_154_code (1 : Nat) (Option.some Jvm.ClassFile.FieldType.boolean)).before args0 about1 = true := code_word (m := ⟨7, 5⟩) (meth := k7m5) (c := k7c5) (by decide +kernel) rfl rfl rfl (by decide +kernel)
set_option maxRecDepth 65536 in
theorem w_c5 : (Jvm.Cond.code ({ cls := "java/lang/StringLatin1", name := "charAt", desc := "([BI)C" } : Jvm.MethodName) jdk_43_method_2_code (2 : Nat) (Option.some Jvm.ClassFile.FieldType.char)).before args0 about1 = true := code_word (m := ⟨8, 1⟩) (meth := k8m1) (c := k8c1) (by decide +kernel) rfl rfl rfl (by decide +kernel)
set_option maxRecDepth 65536 in
theorem w_c6 : (Jvm.Cond.code ({ cls := "java/lang/String", name := "checkIndex", desc := "(II)V" } : Jvm.MethodName) jdk_42_method_155_code (2 : Nat) (Option.none : Option Jvm.ClassFile.FieldType)).before args0 about1 = true := code_word (m := ⟨7, 6⟩) (meth := k7m6) (c := k7c6) (by decide +kernel) rfl rfl rfl (by decide +kernel)
set_option maxRecDepth 65536 in
theorem w_c7 : (Jvm.Cond.code ({ cls := "jdk/internal/util/Preconditions", name := "checkIndex", desc := "(IILjava/util/function/BiFunction;)I" } : Jvm.MethodName) jdk_41_method_11_code (3 : Nat) (Option.some Jvm.ClassFile.FieldType.int)).before args0 about1 = true := code_word (m := ⟨9, 1⟩) (meth := k9m1) (c := k9c1) (by decide +kernel) rfl rfl rfl (by decide +kernel)
set_option maxRecDepth 65536 in
theorem w_c8 : (Jvm.Cond.code ({ cls := "java/lang/String", name := "<init>", desc := "([C)V" } : Jvm.MethodName) jdk_42_method_3_code (2 : Nat) (Option.none : Option Jvm.ClassFile.FieldType)).before args0 about1 = true := code_word (m := ⟨7, 1⟩) (meth := k7m1) (c := k7c1) (by decide +kernel) rfl rfl rfl (by decide +kernel)
set_option maxRecDepth 65536 in
theorem w_c9 : (Jvm.Cond.code ({ cls := "java/lang/String", name := "<init>", desc := "([CIILjava/lang/Void;)V" } : Jvm.MethodName) jdk_42_method_149_code (6 : Nat) (Option.none : Option Jvm.ClassFile.FieldType)).before args0 about1 = true := code_word (m := ⟨7, 4⟩) (meth := k7m4) (c := k7c4) (by decide +kernel) rfl rfl rfl (by decide +kernel)
set_option maxRecDepth 65536 in
theorem w_c10 : (Jvm.Cond.code ({ cls := "java/lang/Object", name := "<init>", desc := "()V" } : Jvm.MethodName) object_method_1_code (1 : Nat) (Option.none : Option Jvm.ClassFile.FieldType)).before args0 about1 = true := code_word (m := ⟨0, 0⟩) (meth := k0m0) (c := k0c0) (by decide +kernel) rfl rfl rfl (by decide +kernel)
set_option maxRecDepth 65536 in
theorem w_c11 : (Jvm.Cond.code ({ cls := "java/lang/StringUTF16", name := "compress", desc := "([CII)[B" } : Jvm.MethodName) jdk_52_method_16_code (6 : Nat) (Option.some (Jvm.ClassFile.FieldType.array Jvm.ClassFile.FieldType.byte))).before args0 about1 = true := code_word (m := ⟨10, 2⟩) (meth := k10m2) (c := k10c2) (by decide +kernel) rfl rfl rfl (by decide +kernel)
set_option maxRecDepth 65536 in
theorem w_c12 : (Jvm.Cond.code ({ cls := "java/lang/StringUTF16", name := "compress", desc := "([CI[BII)I" } : Jvm.MethodName) jdk_52_method_21_code (7 : Nat) (Option.some Jvm.ClassFile.FieldType.int)).before args0 about1 = true := code_word (m := ⟨10, 3⟩) (meth := k10m3) (c := k10c3) (by decide +kernel) rfl rfl rfl (by decide +kernel)
set_option maxRecDepth 65536 in
theorem w_c13 : (Jvm.Cond.code ({ cls := "java/lang/StringUTF16", name := "coderFromArrayLen", desc := "([BI)B" } : Jvm.MethodName) jdk_52_method_15_code (2 : Nat) (Option.some Jvm.ClassFile.FieldType.byte)).before args0 about1 = true := code_word (m := ⟨10, 1⟩) (meth := k10m1) (c := k10c1) (by decide +kernel) rfl rfl rfl (by decide +kernel)
set_option maxRecDepth 65536 in
theorem w_c14 : (Jvm.Cond.code ({ cls := "com/example/ruleweave/ruleweave/transfer/LemmaPart", name := "named", desc := "(Ljava/lang/String;)Lcom/example/ruleweave/ruleweave/transfer/LemmaPart;" } : Jvm.MethodName) prog_67_method_4_code (5 : Nat) (Option.some (Jvm.ClassFile.FieldType.object "com/example/ruleweave/ruleweave/transfer/LemmaPart"))).before args0 about1 = true := code_word (m := ⟨12, 1⟩) (meth := k12m1) (c := k12c1) (by decide +kernel) rfl rfl rfl (by decide +kernel)
set_option maxRecDepth 65536 in
theorem w_c15 : (Jvm.Cond.code ({ cls := "com/example/ruleweave/ruleweave/transfer/LemmaPart", name := "values", desc := "()[Lcom/example/ruleweave/ruleweave/transfer/LemmaPart;" } : Jvm.MethodName) prog_67_method_1_code (0 : Nat) (Option.some (Jvm.ClassFile.FieldType.array (Jvm.ClassFile.FieldType.object "com/example/ruleweave/ruleweave/transfer/LemmaPart")))).before args0 about1 = true := code_word (m := ⟨12, 0⟩) (meth := k12m0) (c := k12c0) (by decide +kernel) rfl rfl rfl (by decide +kernel)
set_option maxRecDepth 65536 in
theorem w_c16 : (Jvm.Cond.code ({ cls := "java/lang/String", name := "equals", desc := "(Ljava/lang/Object;)Z" } : Jvm.MethodName) jdk_42_method_66_code (3 : Nat) (Option.some Jvm.ClassFile.FieldType.boolean)).before args0 about1 = true := code_word (m := ⟨7, 3⟩) (meth := k7m3) (c := k7c3) (by decide +kernel) rfl rfl rfl (by decide +kernel)
set_option maxRecDepth 65536 in
theorem w_c17 : (Jvm.Cond.code ({ cls := "java/lang/StringLatin1", name := "equals", desc := "([B[B)Z" } : Jvm.MethodName) jdk_43_method_13_code (3 : Nat) (Option.some Jvm.ClassFile.FieldType.boolean)).before args0 about1 = true := code_word (m := ⟨8, 2⟩) (meth := k8m2) (c := k8c2) (by decide +kernel) rfl rfl rfl (by decide +kernel)
set_option maxRecDepth 65536 in
theorem w_c18 : (Jvm.Cond.code ({ cls := "com/example/ruleweave/ruleweave/transfer/LemmaPartNamedPinLaw", name := "expected", desc := "([CI)Lcom/example/ruleweave/ruleweave/transfer/LemmaPart;" } : Jvm.MethodName) method_5_code (2 : Nat) (Option.some (Jvm.ClassFile.FieldType.object "com/example/ruleweave/ruleweave/transfer/LemmaPart"))).before args0 about1 = true := code_word (m := ⟨1, 4⟩) (meth := k1m4) (c := k1c4) (by decide +kernel) rfl rfl rfl (by decide +kernel)
def codes1 : List Jvm.Cond := [Jvm.Cond.code x code maxLocals ret, Jvm.Cond.code ({ cls := "com/example/ruleweave/ruleweave/transfer/LemmaPartNamedPinLaw", name := "at", desc := "(IIJ)C" } : Jvm.MethodName) method_3_code (5 : Nat) (Option.some Jvm.ClassFile.FieldType.char), Jvm.Cond.code ({ cls := "com/example/ruleweave/ruleweave/transfer/LemmaPartNamedPinLaw", name := "template", desc := "(II)C" } : Jvm.MethodName) method_4_code (2 : Nat) (Option.some Jvm.ClassFile.FieldType.char), Jvm.Cond.code ({ cls := "java/lang/String", name := "charAt", desc := "(I)C" } : Jvm.MethodName) jdk_42_method_56_code (2 : Nat) (Option.some Jvm.ClassFile.FieldType.char), Jvm.Cond.code ({ cls := "java/lang/String", name := "isLatin1", desc := "()Z" } : Jvm.MethodName) jdk_42_method_154_code (1 : Nat) (Option.some Jvm.ClassFile.FieldType.boolean), Jvm.Cond.code ({ cls := "java/lang/StringLatin1", name := "charAt", desc := "([BI)C" } : Jvm.MethodName) jdk_43_method_2_code (2 : Nat) (Option.some Jvm.ClassFile.FieldType.char), Jvm.Cond.code ({ cls := "java/lang/String", name := "checkIndex", desc := "(II)V" } : Jvm.MethodName) jdk_42_method_155_code (2 : Nat) (Option.none : Option Jvm.ClassFile.FieldType), Jvm.Cond.code ({ cls := "jdk/internal/util/Preconditions", name := "checkIndex", desc := "(IILjava/util/function/BiFunction;)I" } : Jvm.MethodName) jdk_41_method_11_code (3 : Nat) (Option.some Jvm.ClassFile.FieldType.int), Jvm.Cond.code ({ cls := "java/lang/String", name := "<init>", desc := "([C)V" } : Jvm.MethodName) jdk_42_method_3_code (2 : Nat) (Option.none : Option Jvm.ClassFile.FieldType), Jvm.Cond.code ({ cls := "java/lang/String", name := "<init>", desc := "([CIILjava/lang/Void;)V" } : Jvm.MethodName) jdk_42_method_149_code (6 : Nat) (Option.none : Option Jvm.ClassFile.FieldType), Jvm.Cond.code ({ cls := "java/lang/Object", name := "<init>", desc := "()V" } : Jvm.MethodName) object_method_1_code (1 : Nat) (Option.none : Option Jvm.ClassFile.FieldType), Jvm.Cond.code ({ cls := "java/lang/StringUTF16", name := "compress", desc := "([CII)[B" } : Jvm.MethodName) jdk_52_method_16_code (6 : Nat) (Option.some (Jvm.ClassFile.FieldType.array Jvm.ClassFile.FieldType.byte)), Jvm.Cond.code ({ cls := "java/lang/StringUTF16", name := "compress", desc := "([CI[BII)I" } : Jvm.MethodName) jdk_52_method_21_code (7 : Nat) (Option.some Jvm.ClassFile.FieldType.int), Jvm.Cond.code ({ cls := "java/lang/StringUTF16", name := "coderFromArrayLen", desc := "([BI)B" } : Jvm.MethodName) jdk_52_method_15_code (2 : Nat) (Option.some Jvm.ClassFile.FieldType.byte), Jvm.Cond.code ({ cls := "com/example/ruleweave/ruleweave/transfer/LemmaPart", name := "named", desc := "(Ljava/lang/String;)Lcom/example/ruleweave/ruleweave/transfer/LemmaPart;" } : Jvm.MethodName) prog_67_method_4_code (5 : Nat) (Option.some (Jvm.ClassFile.FieldType.object "com/example/ruleweave/ruleweave/transfer/LemmaPart")), Jvm.Cond.code ({ cls := "com/example/ruleweave/ruleweave/transfer/LemmaPart", name := "values", desc := "()[Lcom/example/ruleweave/ruleweave/transfer/LemmaPart;" } : Jvm.MethodName) prog_67_method_1_code (0 : Nat) (Option.some (Jvm.ClassFile.FieldType.array (Jvm.ClassFile.FieldType.object "com/example/ruleweave/ruleweave/transfer/LemmaPart"))), Jvm.Cond.code ({ cls := "java/lang/String", name := "equals", desc := "(Ljava/lang/Object;)Z" } : Jvm.MethodName) jdk_42_method_66_code (3 : Nat) (Option.some Jvm.ClassFile.FieldType.boolean), Jvm.Cond.code ({ cls := "java/lang/StringLatin1", name := "equals", desc := "([B[B)Z" } : Jvm.MethodName) jdk_43_method_13_code (3 : Nat) (Option.some Jvm.ClassFile.FieldType.boolean), Jvm.Cond.code ({ cls := "com/example/ruleweave/ruleweave/transfer/LemmaPartNamedPinLaw", name := "expected", desc := "([CI)Lcom/example/ruleweave/ruleweave/transfer/LemmaPart;" } : Jvm.MethodName) method_5_code (2 : Nat) (Option.some (Jvm.ClassFile.FieldType.object "com/example/ruleweave/ruleweave/transfer/LemmaPart"))]
set_option maxRecDepth 65536 in
theorem codes_eq : words1.filter isCode = codes1 := rfl
theorem w_codes : ∀ c ∈ words1.filter isCode, c.before args0 about1 = true := by
  rw [codes_eq]
  intro c hc
  simp only [codes1, List.mem_cons, List.not_mem_nil, or_false] at hc
  rcases hc with rfl | rfl | rfl | rfl | rfl | rfl | rfl | rfl | rfl | rfl | rfl | rfl | rfl | rfl | rfl | rfl | rfl | rfl | rfl
  · exact w_c0
  · exact w_c1
  · exact w_c2
  · exact w_c3
  · exact w_c4
  · exact w_c5
  · exact w_c6
  · exact w_c7
  · exact w_c8
  · exact w_c9
  · exact w_c10
  · exact w_c11
  · exact w_c12
  · exact w_c13
  · exact w_c14
  · exact w_c15
  · exact w_c16
  · exact w_c17
  · exact w_c18
set_option maxRecDepth 65536 in
theorem w_t1 : (words1.take 24).all (fun c => isCode c || c.before args0 about1) = true := by decide +kernel
set_option maxRecDepth 65536 in
theorem w_t2 : ((words1.drop 24).take 24).all (fun c => isCode c || c.before args0 about1) = true := by decide +kernel
set_option maxRecDepth 65536 in
theorem w_t3 : (((words1.drop 24).drop 24).take 24).all (fun c => isCode c || c.before args0 about1) = true := by decide +kernel
set_option maxRecDepth 65536 in
theorem w_t4 : ((((words1.drop 24).drop 24).drop 24).take 24).all (fun c => isCode c || c.before args0 about1) = true := by decide +kernel
set_option maxRecDepth 65536 in
theorem w_t5 : ((((words1.drop 24).drop 24).drop 24).drop 24).all (fun c => isCode c || c.before args0 about1) = true := by decide +kernel
theorem w_tables : (allAtoms (Jvm.Cond.code x code maxLocals ret :: tables_1)).before args0 about1 = true := by
  rw [allAtoms_all]
  show words1.all (fun c => c.before args0 about1) = true
  refine all_split ?_ w_codes
  rw [← List.take_append_drop 24 words1, List.all_append, w_t1, ← List.take_append_drop 24 (words1.drop 24), List.all_append, w_t2, ← List.take_append_drop 24 ((words1.drop 24).drop 24), List.all_append, w_t3, ← List.take_append_drop 24 (((words1.drop 24).drop 24).drop 24), List.all_append, w_t4, w_t5]
  rfl
set_option maxRecDepth 65536 in
theorem w_rest : rest_1_c.before args0 about1 = true := by decide +kernel
set_option maxRecDepth 65536 in
theorem w_case : (Jvm.Cond.and given_1 narrow_1).before args0 about1 = true := by decide +kernel
set_option maxRecDepth 65536 in
theorem w_consts : constsHeld consts_1 about1 := Jvm.Lit.constsHeldB_iff.mp (by decide +kernel)
theorem w_applies : (headSpec (Jvm.Cond.code x code maxLocals ret :: tables_1) room_1).applies x e0.platform about1 = true :=
  (Spec.applies_iff w_frames).mpr ⟨w_running, w_runnable, w_alone, w_named, w_hears, w_ripe, w_room, w_tables⟩
theorem atStart : AtStart classFile x code maxLocals ret World_1 tables_1 room_1 Calls_1 rest_1 Pre_1 launch0 p0 e0 about1 theMethod args0 below0 :=
  ⟨lists_1, trivial, launch0.admits_env _ _ _, launch0.least_env, fairChoices_fair.cas, fairChoices_fair.clock, w_frames, w_args, w_heap, w_applies, ⟨w_consts, trivial⟩, w_rest, w_case⟩
end start1
theorem witness_1 : WitnessClaimed_1 := ⟨start1.p0, start1.e0, start1.about1, start1.theMethod, start1.args0, start1.below0, start1.atStart⟩
end Jvm.Pilot.@@N@@
