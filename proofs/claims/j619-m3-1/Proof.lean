import JvmDerived
import JvmDerived.Pilot.@@N@@Statement
import JvmDerived.Pilot.@@N@@Code
set_option linter.unusedVariables false
set_option linter.unusedSimpArgs false
@@BLOCK:TracedD.lean.txt@@
namespace Jvm.OwnKit
open Sem ClassFile Op Lib Bundle Jvm.Stand Jvm.Free Jvm.LawKit Jvm.RoadKit
/-! Own text. 'Here': the run of one method has come to this pc, these locals, this stack, over this heap; the state and the tables at hand are hidden. 'Met': a method's contract; 'Paid': a call of it can be paid. -/
abbrev Ctx : Type := Program × Launch × Env × State × MethodId × Array Value × List Frame × Method × Code × State
def Here (k : Ctx) (R : Room) (Z : State) (EL : List (String × Nat)) (n0 : Nat) (y : MethodName) (B : ByteArray) (ret : Option FieldType) (h0 : Heap) (ws : List Addr) (h : Heap) (pc : Nat) (L : Array Slot) (S : List Value) (ce sl : Nat) (sf : List Addr) : Prop :=
  match k with
  | (p, l, e, s, m, args, below, meth, c, start) =>
    ∃ (T : State) (vm0 : Vm) (k0 : Nat) (locs : List Loc),
      Stand p l e R (s.setVm vm0) m args below meth c T locs ce sl ∧ T.heap = h ∧ s.Since vm0 k0 ∧ k0 ≤ h.size ∧ Z.Warmed39 vm0 ∧ vm0.findClass y.cls = some m.cls ∧ CHr Z EL s.vm s.heap vm0 h ∧ Fr n0 locs ∧
      (s.heap = h0 ∧ Keep h0 h ws ∧ Old Z n0 h ∧ ∀ x ∈ sf, Safe Z EL vm0 h x ∧ x < h.size ∧ n0 ≤ x ∧ (x ∈ ws ∨ h0.size ≤ x)) ∧
      (p.tables.exec = Jvm.exec ∧ c.code = B ∧ L.size = c.maxLocals ∧ meth.sig.returnType = ret ∧ meth.name = y.name ∧ meth.locks = false ∧ ∃ a0, EW Z a0 EL) ∧
      ∀ t, Steps p.tables e below (T.setTop (mkF m pc L S)) t → Steps p.tables e below start t
def Done (k : Ctx) (R : Room) (Z : State) (EL : List (String × Nat)) (n0 : Nat) (h0 : Heap) (ws : List Addr) (Q : Option Value → Heap → Prop) : Prop :=
  match k with
  | (p, l, e, s, m, args, below, meth, c, start) =>
    ∃ s₂ o, Steps p.tables e below start s₂ ∧ s₂.status = .running ∧ Ended s₂ below o ∧ ∃ v L, o = .returned v ∧ (Q v s₂.heap ∧ Keep h0 s₂.heap ws ∧ Fr n0 L) ∧ CHr Z EL s.vm s.heap s₂.vm s₂.heap ∧ ReturnedEndW s o s₂ L R.cells R.slots
def Met (Z : State) (EL : List (String × Nat)) (n0 : Nat) (y : MethodName) (B : ByteArray) (mx : Nat) (ret : Option FieldType) (rm : Room) (as' : Array Value) (h : Heap) (ws : List Addr) (Q : Option Value → Heap → Prop) : Prop :=
  ∀ (l : Launch) (wds : List Jvm.Cond), MetFree l y (head1 (Jvm.Cond.code y B mx ret :: wds) rm) (fun a U => a = as' ∧ Z.Warmed39 U.vm ∧ U.heap = h ∧ CHv Z EL U.vm h ∧ ∀ x ∈ ws, Safe Z EL U.vm h x) (fun _ _ _ _ _ => True)
    (fun _ U o U' => ∃ v L, o = .returned v ∧ (Q v U'.heap ∧ Keep h U'.heap ws ∧ Fr n0 L) ∧ CHr Z EL U.vm U.heap U'.vm U'.heap ∧ ReturnedEndW U o U' L rm.cells rm.slots)
def Paid (k : Ctx) (R : Room) (Z : State) (EL : List (String × Nat)) (n0 : Nat) (z : MethodName) (W : Nat) (as' : Array Value) (h : Heap) (ws : List Addr) (kc ks : Nat) (Q : Option Value → Heap → Prop) : Prop :=
  match k with
  | (p, l, e, s, m, args, below, meth, c, start) =>
    ∀ vm0, Z.Warmed39 vm0 → CHv Z EL vm0 h → (∀ x ∈ ws, Safe Z EL vm0 h x ∧ x < h.size) →
      BackS l R p e below (s.setVm vm0) args z 3 W (fun A a => a = as' ∧ A.U.heap = h ∧ A.cells + kc ≤ R.cells ∧ A.slots + ks ≤ R.slots)
        (fun A _ v D => ∃ L, (Q v D.U.heap ∧ Keep h D.U.heap ws ∧ Fr n0 L) ∧ D.locs = A.locs ++ L ∧ D.cells = A.cells + kc ∧ D.slots = A.slots + ks ∧ CHr Z EL vm0 h D.U.vm D.U.heap)
section Base
variable {k : Ctx} {R rm : Room} {Z : State} {EL : List (String × Nat)} {n0 : Nat} {y z : MethodName} {B bytes : ByteArray} {ret rt : Option FieldType} {h0 h h' : Heap} {ws ws' sf : List Addr} {pc : Nat} {L : Array Slot} {S : List Value} {ce sl mx : Nat} {a0 as' : Array Value} {Q : Option Value → Heap → Prop} {s : State} {vm0 vm1 : Vm} {k0 : Nat}
theorem upd (hC : CHr Z EL s.vm s.heap vm0 h) (hk : k0 ≤ h.size) (hF : s.heap = h0 ∧ Keep h0 h ws ∧ Old Z n0 h ∧ ∀ x ∈ sf, Safe Z EL vm0 h x ∧ x < h.size ∧ n0 ≤ x ∧ (x ∈ ws ∨ h0.size ≤ x)) {w1 : List Addr} (K : Keep h h' w1) (hw : ∀ x ∈ w1, x ∈ sf) :
    CHr Z EL s.vm s.heap vm0 h' ∧ k0 ≤ h'.size ∧ (s.heap = h0 ∧ Keep h0 h' ws ∧ Old Z n0 h' ∧ ∀ x ∈ sf, Safe Z EL vm0 h' x ∧ x < h'.size ∧ n0 ≤ x ∧ (x ∈ ws ∨ h0.size ≤ x)) := by
  obtain ⟨f1, f2, f3, f4⟩ := hF
  have hs : ∀ x ∈ w1, Safe Z EL vm0 h x := fun x q => (f4 x (hw x q)).1
  refine ⟨hC.trans (CHr.keep K hs hC.1), Nat.le_trans hk K.1, f1, f2.trans K (fun x q => (f4 x (hw x q)).2.2.2), f3.keep K (fun x q => (f4 x (hw x q)).2.2.1), fun x q => ?_⟩
  obtain ⟨g1, g2, g3⟩ := f4 x q
  exact ⟨Safe.keep K hs hC.1 g1, Nat.lt_of_lt_of_le g2 K.1, g3⟩
theorem updC (hC : CHr Z EL s.vm s.heap vm0 h) (hF : s.heap = h0 ∧ Keep h0 h ws ∧ Old Z n0 h ∧ ∀ x ∈ sf, Safe Z EL vm0 h x ∧ x < h.size ∧ n0 ≤ x ∧ (x ∈ ws ∨ h0.size ≤ x)) {w1 : List Addr} (K : Keep h h' w1) (hw : ∀ x ∈ w1, x ∈ sf) (A : CHr Z EL vm0 h vm1 h') :
    CHr Z EL s.vm s.heap vm1 h' ∧ (s.heap = h0 ∧ Keep h0 h' ws ∧ Old Z n0 h' ∧ ∀ x ∈ sf, Safe Z EL vm1 h' x ∧ x < h'.size ∧ n0 ≤ x ∧ (x ∈ ws ∨ h0.size ≤ x)) := by
  obtain ⟨f1, f2, f3, f4⟩ := hF
  refine ⟨hC.trans A, f1, f2.trans K (fun x q => (f4 x (hw x q)).2.2.2), f3.keep K (fun x q => (f4 x (hw x q)).2.2.1), fun x q => ?_⟩
  obtain ⟨g1, g2, g3⟩ := f4 x q
  exact ⟨A.safe g2 g1, Nat.lt_of_lt_of_le g2 K.1, g3⟩
theorem extKeep (E : Ext h h') : Keep h h' [] := (Keep.refl h []).ext E
/-- a fresh cell is one more that may be written -/
theorem updN (hC : CHr Z EL s.vm s.heap vm0 h) (hk : k0 ≤ h.size) (hF : s.heap = h0 ∧ Keep h0 h ws ∧ Old Z n0 h ∧ ∀ x ∈ sf, Safe Z EL vm0 h x ∧ x < h.size ∧ n0 ≤ x ∧ (x ∈ ws ∨ h0.size ≤ x)) (E : Ext h h') (hlt : h.size < h'.size) :
    CHr Z EL s.vm s.heap vm0 h' ∧ k0 ≤ h'.size ∧ (s.heap = h0 ∧ Keep h0 h' ws ∧ Old Z n0 h' ∧ ∀ x ∈ h.size :: sf, Safe Z EL vm0 h' x ∧ x < h'.size ∧ n0 ≤ x ∧ (x ∈ ws ∨ h0.size ≤ x)) := by
  obtain ⟨u1, u2, u3, u4, u5, u6⟩ := upd hC hk hF (extKeep E) all0
  refine ⟨u1, u2, u3, u4, u5, fun x q => ?_⟩
  rcases List.mem_cons.mp q with rfl | q
  · exact ⟨Safe.ext E hC.1 (Safe.new (Nat.le_refl _)), hlt, by have := hF.2.2.1.2.1; have := hF.2.2.1.1; omega, Or.inr hF.2.1.1⟩
  · exact u6 x q
theorem Here.go (H : Here k R Z EL n0 y B ret h0 ws h pc L S ce sl sf) {pc' : Nat} {L' : Array Slot} {S' : List Value} (hL : L'.size = L.size)
    (f : ∀ (p : Program) (e : Env) (below : List Frame) (m : MethodId) (c : Code) (T t : State), At T m c below → p.tables.exec = Jvm.exec → c.code = B → Steps p.tables e below (T.setTop (mkF m pc' L' S')) t → Steps p.tables e below (T.setTop (mkF m pc L S)) t) :
    Here k R Z EL n0 y B ret h0 ws h pc' L' S' ce sl sf := by
  obtain ⟨p, l, e, s, m, args, below, meth, c, start⟩ := k
  obtain ⟨T, vm0, k0, locs, X, e1, hS, hk, hZ, hown, hC, hN, hF, ⟨hx, hb, hl, hr⟩, st⟩ := H
  exact ⟨T, vm0, k0, locs, X, e1, hS, hk, hZ, hown, hC, hN, hF, ⟨hx, hb, hL.trans hl, hr⟩, fun t q => st t (f p e below m c T t X.here hx hb q)⟩
/-- a step that reads the tables or the heap -/
theorem Here.goT (H : Here k R Z EL n0 y B ret h0 ws h pc L S ce sl sf) {pc' : Nat} {L' : Array Slot} {S' : List Value} (hL : L'.size = L.size)
    (f : ∀ (p : Program) (l : Launch) (e : Env) (s : State) (m : MethodId) (args : Array Value) (below : List Frame) (meth : Method) (c : Code) (T : State) (locs : List Loc) (ce sl : Nat), Stand p l e R s m args below meth c T locs ce sl → T.heap = h → Z.Warmed39 s.vm → s.vm.findClass y.cls = some m.cls → p.tables.exec = Jvm.exec → c.code = B → L.size = c.maxLocals → s.heap = h0 →
      ∃ T', Stand p l e R s m args below meth c T' locs ce sl ∧ T'.heap = h ∧ ∀ t, Steps p.tables e below (T'.setTop (mkF m pc' L' S')) t → Steps p.tables e below (T.setTop (mkF m pc L S)) t) :
    Here k R Z EL n0 y B ret h0 ws h pc' L' S' ce sl sf := by
  obtain ⟨p, l, e, s, m, args, below, meth, c, start⟩ := k
  obtain ⟨T, vm0, k0, locs, X, e1, hS, hk, hZ, hown, hC, hN, hF, ⟨hx, hb, hl, hr⟩, st⟩ := H
  obtain ⟨T', X', e2, g⟩ := f p l e (s.setVm vm0) m args below meth c T locs ce sl X e1 hZ hown hx hb hl hF.1
  exact ⟨T', vm0, k0, locs, X', e2, hS, hk, hZ, hown, hC, hN, hF, ⟨hx, hb, hL.trans hl, hr⟩, fun t q => st t (g t q)⟩
theorem Here.old (H : Here k R Z EL n0 y B ret h0 ws h pc L S ce sl sf) : Ext Z.heap h := by
  obtain ⟨p, l, e, s, m, args, below, meth, c, start⟩ := k
  obtain ⟨T, vm0, k0, locs, X, e1, hS, hk, hZ, hown, hC, hN, hF, -⟩ := H
  exact hF.2.2.1.2
theorem Here.oldO (H : Here k R Z EL n0 y B ret h0 ws h pc L S ce sl sf) : Old Z n0 h := by
  obtain ⟨p, l, e, s, m, args, below, meth, c, start⟩ := k
  obtain ⟨T, vm0, k0, locs, X, e1, hS, hk, hZ, hown, hC, hN, hF, -⟩ := H
  exact hF.2.2.1
theorem Here.sf_lt (H : Here k R Z EL n0 y B ret h0 ws h pc L S ce sl sf) {x : Addr} (hx : x ∈ sf) : x < h.size ∧ n0 ≤ x := by
  obtain ⟨p, l, e, s, m, args, below, meth, c, start⟩ := k
  obtain ⟨T, vm0, k0, locs, X, e1, hS, hk, hZ, hown, hC, hN, hF, -⟩ := H
  exact ⟨(hF.2.2.2 x hx).2.1, (hF.2.2.2 x hx).2.2.1⟩
theorem Here.kept (H : Here k R Z EL n0 y B ret h0 ws h pc L S ce sl sf) : Keep h0 h ws := by
  obtain ⟨p, l, e, s, m, args, below, meth, c, start⟩ := k
  obtain ⟨T, vm0, k0, locs, X, e1, hS, hk, hZ, hown, hC, hN, hF, -⟩ := H
  exact hF.2.1
/-- fewer promises: more cells and slots booked, a shorter list of what may be written -/
theorem Here.more (H : Here k R Z EL n0 y B ret h0 ws h pc L S ce sl sf) {ce' sl' : Nat} {sf' : List Addr} (hc : ce ≤ ce') (hs : sl ≤ sl') (hf : ∀ x ∈ sf', x ∈ sf) : Here k R Z EL n0 y B ret h0 ws h pc L S ce' sl' sf' := by
  obtain ⟨p, l, e, s, m, args, below, meth, c, start⟩ := k
  obtain ⟨T, vm0, k0, locs, X, e1, hS, hk, hZ, hown, hC, hN, ⟨f1, f2, f3, f4⟩, hr⟩ := H
  exact ⟨T, vm0, k0, locs, X.more hc hs, e1, hS, hk, hZ, hown, hC, hN, ⟨f1, f2, f3, fun x q => f4 x (hf x q)⟩, hr⟩
/-! ### the ends -/
theorem Here.fin (H : Here k R Z EL n0 y B ret h0 ws h pc L S ce sl sf) {v : Option Value} (hv : ret = none → v = none) (hc : ce ≤ R.cells) (hs : sl ≤ R.slots) (hQ : Q v h)
    (f : ∀ (p : Program) (l : Launch) (e : Env) (s : State) (m : MethodId) (args : Array Value) (below : List Frame) (meth : Method) (c : Code) (T : State) (locs : List Loc) (ce sl : Nat) (fs : List Frame), Stand p l e R s m args below meth c T locs ce sl → p.tables.exec = Jvm.exec → c.code = B → meth.sig.returnType = ret →
      (∀ (f : JFrame) (acts : List Action), f.method = m → f.locked = none → f.entered = [] → (doReturn e (T.setTop f) acts v).1 = T.setFrames fs) → Steps p.tables e below (T.setTop (mkF m pc L S)) (T.setFrames fs)) :
    Done k R Z EL n0 h0 ws Q := by
  obtain ⟨p, l, e, s, m, args, below, meth, c, start⟩ := k
  obtain ⟨T, vm0, k0, locs, X, e1, hS, hk, hZ, hown, hC, hN, hF, ⟨hx, hb, hl, hr, hnm, hlk, a0, hE⟩, st⟩ := H
  obtain ⟨fs, g1, g2, g3, gE⟩ := X.leaveW hS (by rw [e1]; exact hk) (v := v) (fun q => hv (hr ▸ q)) hlk
  have hA : CHr Z EL vm0 h T.vm h := CHv.at X hZ hE hC.1
  refine ⟨T.setFrames fs, _, st _ (f p l e _ m args below meth c T locs ce sl fs X hx hb hr g1), g2, g3, v, locs, rfl, ⟨?_, ?_, hN⟩, ?_, ?_⟩
  · show Q v T.heap
    rw [e1]; exact hQ
  · show Keep h0 T.heap ws
    rw [e1]; exact hF.2.1
  · show CHr Z EL s.vm s.heap T.vm T.heap
    rw [e1]; exact hC.trans hA
  · exact ⟨gE.1, gE.2.1, gE.2.2.1, gE.2.2.2.mono hc hs⟩
theorem Here.retI (H : Here k R Z EL n0 y B ret h0 ws h pc L [.int w] ce sl sf) {t : FieldType} (ht : ret = some t) (hn : narrow t (.int w) = .int w) (hti : t = .int ∨ t = .boolean ∨ t = .byte ∨ t = .char ∨ t = .short) (d : decode B pc = .ok (.ireturn, 1)) (hc : ce ≤ R.cells) (hs : sl ≤ R.slots) (hQ : Q (some (.int w)) h) : Done k R Z EL n0 h0 ws Q :=
  H.fin (fun q => by rw [ht] at q; cases q) hc hs hQ fun p l e s m args below meth c T locs ce sl fs X hx hB hr g => X.ireturnOut hx (hr.trans ht) hn hti (Jvm.hb hB d) g
theorem Here.retA (H : Here k R Z EL n0 y B ret h0 ws h pc L [w] ce sl sf) {t : FieldType} (ht : ret = some t) (hi : t.isReference = true) (hw : w.isRef = true) (d : decode B pc = .ok (.areturn, 1)) (hc : ce ≤ R.cells) (hs : sl ≤ R.slots) (hQ : Q (some w) h) : Done k R Z EL n0 h0 ws Q :=
  H.fin (fun q => by rw [ht] at q; cases q) hc hs hQ fun p l e s m args below meth c T locs ce sl fs X hx hB hr g => X.areturnOut hx hw (hr.trans ht) hi (Jvm.hb hB d) g
theorem Here.retV (H : Here k R Z EL n0 y B ret h0 ws h pc L [] ce sl sf) (ht : ret = none) (d : decode B pc = .ok (.return_, 1)) (hc : ce ≤ R.cells) (hs : sl ≤ R.slots) (hQ : Q none h) : Done k R Z EL n0 h0 ws Q :=
  H.fin (fun q => rfl) hc hs hQ fun p l e s m args below meth c T locs ce sl fs X hx hB hr g => X.returnOut hx (hr.trans ht) (Jvm.hb hB d) g
/-! ### the beginning, and a call's payment -/
theorem Met.of_walkP {L0 : Array Slot} (pn : plainFor y = true) (hEL : EW Z a0 EL) (hO : Old Z n0 h) (hws : ∀ x ∈ ws, x < h.size ∧ n0 ≤ x) (ef : ∀ m, entryFrame m as' mx = mkF m 0 L0 []) (hL : L0.size = mx)
    (body : ∀ k : Ctx, Here k rm Z EL n0 y B ret h ws h 0 L0 [] 0 0 ws → Done k rm Z EL n0 h ws Q) : Met Z EL n0 y B mx ret rm as' h ws Q := by
  intro l wds
  refine MetFree.of_bodySF pn hisR ?_
  intro p e s m args below meth c s₁ Bd hml0 hP hK
  obtain ⟨rfl, hZ, hh, hC, hsf⟩ := hP
  have X0 : Stand p l e rm s m args below meth c s₁ [] 0 0 := Stand.of_body Bd
  have e0 : s₁.heap = h := by rw [← hh, Bd.state]; rfl
  have H : Here (p, l, e, s, m, args, below, meth, c, s₁.setTop (entryFrame m args mx)) rm Z EL n0 y B ret h ws h 0 L0 [] 0 0 ws :=
    ⟨s₁, s.vm, 0, [], X0, e0, (State.WarmedH.refl s).since 0, Nat.zero_le _, hZ, findClass_of_methodNamed Bd.named, by rw [hh]; exact CHr.refl hC, Fr.nil n0, ⟨hh, Keep.refl _ _, hO, fun x q => ⟨hsf x q, (hws x q).1, (hws x q).2, Or.inl q⟩⟩,
      ⟨Bd.exec, Bd.bytes, hL.trans hml0.symm, Bd.returns, (name_of_methodNamed Bd.named Bd.method).1, BodyLoose.notSynchronized Bd, a0, hEL⟩, fun t q => castTop (ef m) q⟩
  exact body _ H
theorem Met.of_walk {L0 : Array Slot} (pn : plainName y.cls = true) (hEL : EW Z a0 EL) (hO : Old Z n0 h) (hws : ∀ x ∈ ws, x < h.size ∧ n0 ≤ x) (ef : ∀ m, entryFrame m as' mx = mkF m 0 L0 []) (hL : L0.size = mx)
    (body : ∀ k : Ctx, Here k rm Z EL n0 y B ret h ws h 0 L0 [] 0 0 ws → Done k rm Z EL n0 h ws Q) : Met Z EL n0 y B mx ret rm as' h ws Q := Met.of_walkP (plainFor_of_name pn) hEL hO hws ef hL body
theorem Paid.of_met {W : Nat} (hM : Met Z EL n0 z bytes mx rt rm as' h ws' Q) (wc : (Jvm.Cond.code z bytes mx rt).before a0 Z = true) (wz : (Jvm.Cond.initialized z.cls).before a0 Z = true) (hEL : EW Z a0 EL) (hf : rm.frames + 1 ≤ R.frames) (hl : W + (mx + 11) + rm.locals ≤ R.locals) :
    Paid k R Z EL n0 z W as' h ws' rm.cells rm.slots Q := by
  obtain ⟨p, l, e, s, m, args, below, meth, c, start⟩ := k
  intro vm0 hZ H hsf
  exact BackS.of_freeW (bytes := bytes) (maxL := mx) (ret := rt) (E := fun _ first o t L kk n => kk = rm.cells ∧ n = rm.slots ∧ (∃ v, o = .returned v ∧ Q v t.heap ∧ Keep h t.heap ws' ∧ Fr n0 L) ∧ CHr Z EL first.vm first.heap t.vm t.heap) (hM l []) hf hl
    (fun m meth c A a Y hp => have hU : Z.Warmed39 A.U.vm := wtrans (s := s.setVm vm0) hZ Y.warmed
      ⟨by show (Jvm.Cond.and _ .tt).before a A.U = true; rw [Cond.before_and, mv hU wc]; rfl, mv hU wc, mv hU wz, hp.2.2.1, hp.2.2.2⟩)
    (fun m meth c A a g mk Y hp => ⟨hp.1, wtrans (s := s.setVm vm0) hZ Y.warmed, hp.2.1, (CHv.at Y hZ hEL H).1, fun x q => (CHv.at Y hZ hEL H).safe (hsf x q).2 (hsf x q).1⟩) (fun _ _ _ _ _ _ _ _ _ => trivial)
    (fun _ _ _ _ ⟨v, L, h1, h2, h3, h4⟩ => ⟨L, _, _, h4, rfl, rfl, ⟨v, h1, h2⟩, h3⟩)
    (fun m meth c A a g mk v t L kk n Y hp _ _ ⟨e1, e2, ⟨v', e3, e4⟩, e5⟩ => by
      cases e3; subst e1 e2
      refine ⟨L, e4, rfl, rfl, rfl, (CHv.at Y hZ hEL H).trans ?_⟩
      rw [← hp.2.1]; exact e5)
/-- a callee that interns nothing, by the library's 'Back' -/
theorem Paid.of_back {W kc ks : Nat} {QB : Option Value → Heap → List Loc → Prop} (hEL : EW Z a0 EL)
    (hB : ∀ (p : Program) (l : Launch) (e : Env) (s : State) (args : Array Value) (below : List Frame), Z.Warmed39 s.vm → Back l R p e below s args z 3 W (fun A a => a = as' ∧ A.U.heap = h ∧ A.cells + kc ≤ R.cells ∧ A.slots + ks ≤ R.slots) (fun A _ v D => ∃ L, QB v D.U.heap L ∧ D.locs = A.locs ++ L ∧ D.cells = A.cells + kc ∧ D.slots = A.slots + ks))
    (hq : ∀ v h' L, QB v h' L → Q v h' ∧ Keep h h' ws' ∧ Fr n0 L) : Paid k R Z EL n0 z W as' h ws' kc ks Q := by
  obtain ⟨p, l, e, s, m, args, below, meth, c, start⟩ := k
  intro vm0 hZ H hsf
  intro m' meth' c' A g ig mk a X hg hsize hdg hW hn hp
  obtain ⟨v, D, X', ⟨L, q1, q2, q3, q4⟩, hsteps⟩ := hB p l e (s.setVm vm0) args below hZ m' meth' c' A g ig mk a X hg hsize hdg hW hn hp
  obtain ⟨r1, r2, r3⟩ := hq _ _ _ q1
  have hs : ∀ x ∈ ws', Safe Z EL vm0 h x := fun x q => (hsf x q).1
  have h1 : CHr Z EL vm0 h vm0 D.U.heap := CHr.keep r2 hs H
  have h2 : CHr Z EL vm0 D.U.heap D.U.vm D.U.heap := CHv.at X' hZ hEL h1.1
  exact ⟨v, D, X'.retabled X'.warmed.wide, X'.warmed.since _, by rw [hp.2.1]; exact r2.1, ⟨L, ⟨r1, r2, r3⟩, q2, q3, q4, h1.trans h2⟩, hsteps⟩
end Base
section Steps
variable {k : Ctx} {R : Room} {Z : State} {EL : List (String × Nat)} {n0 : Nat} {y : MethodName} {B : ByteArray} {ret : Option FieldType} {h0 h : Heap} {ws sf : List Addr} {pc : Nat} {L L' : Array Slot} {S : List Value} {ce sl : Nat} {a0 : Array Value}
theorem Here.iloadN {i : Fin 4} {v : Int32} (H : Here k R Z EL n0 y B ret h0 ws h pc L S ce sl sf) (pc' : Nat)  (d : decode B pc = .ok (.iload_n i, 1)) (hl : L[i.val]? = some (.val (.int v))) (hp : pc + 1 = pc' := by rfl) : Here k R Z EL n0 y B ret h0 ws h pc' L (.int v :: S) ce sl sf := by
  subst hp
  exact H.go rfl fun p e below m c T t A hx hB q => XS.iloadN A hx rfl (Jvm.hb hB d) hl q
theorem Here.iload {i : Nat} {v : Int32} (H : Here k R Z EL n0 y B ret h0 ws h pc L S ce sl sf) (pc' : Nat)  (d : decode B pc = .ok (.iload i, 2)) (hl : L[i]? = some (.val (.int v))) (hp : pc + 2 = pc' := by rfl) : Here k R Z EL n0 y B ret h0 ws h pc' L (.int v :: S) ce sl sf := by
  subst hp
  exact H.go rfl fun p e below m c T t A hx hB q => XS.iload A hx rfl (Jvm.hb hB d) hl q
theorem Here.aloadN {i : Fin 4} {v : Value} (H : Here k R Z EL n0 y B ret h0 ws h pc L S ce sl sf) (pc' : Nat)  (d : decode B pc = .ok (.aload_n i, 1)) (hl : L[i.val]? = some (.val v)) (hv : v.isRef = true := by rfl) (hp : pc + 1 = pc' := by rfl) : Here k R Z EL n0 y B ret h0 ws h pc' L (v :: S) ce sl sf := by
  subst hp
  exact H.go rfl fun p e below m c T t A hx hB q => XS.aloadN A hx rfl (Jvm.hb hB d) hl hv q
theorem Here.aload {i : Nat} {v : Value} (H : Here k R Z EL n0 y B ret h0 ws h pc L S ce sl sf) (pc' : Nat)  (d : decode B pc = .ok (.aload i, 2)) (hl : L[i]? = some (.val v)) (hv : v.isRef = true := by rfl) (hp : pc + 2 = pc' := by rfl) : Here k R Z EL n0 y B ret h0 ws h pc' L (v :: S) ce sl sf := by
  subst hp
  exact H.go rfl fun p e below m c T t A hx hB q => XS.aload A hx rfl (Jvm.hb hB d) hl hv q
theorem Here.lloadN {i : Fin 4} {v : Int64} (H : Here k R Z EL n0 y B ret h0 ws h pc L S ce sl sf) (pc' : Nat)  (d : decode B pc = .ok (.lload_n i, 1)) (hl : L[i.val]? = some (.val (.long v))) (hp : pc + 1 = pc' := by rfl) : Here k R Z EL n0 y B ret h0 ws h pc' L (.long v :: S) ce sl sf := by
  subst hp
  exact H.go rfl fun p e below m c T t A hx hB q => XT.lloadN A hx rfl (Jvm.hb hB d) hl q
theorem Here.lload {i : Nat} {v : Int64} (H : Here k R Z EL n0 y B ret h0 ws h pc L S ce sl sf) (pc' : Nat)  (d : decode B pc = .ok (.lload i, 2)) (hl : L[i]? = some (.val (.long v))) (hp : pc + 2 = pc' := by rfl) : Here k R Z EL n0 y B ret h0 ws h pc' L (.long v :: S) ce sl sf := by
  subst hp
  exact H.go rfl fun p e below m c T t A hx hB q => XT.lload A hx rfl (Jvm.hb hB d) hl q
theorem Here.iconst {i : Int} (H : Here k R Z EL n0 y B ret h0 ws h pc L S ce sl sf) (pc' : Nat) (v : Int32) (d : decode B pc = .ok (.iconst i, 1)) (hv : Int32.ofInt i = v := by rfl) (hp : pc + 1 = pc' := by rfl) : Here k R Z EL n0 y B ret h0 ws h pc' L (.int v :: S) ce sl sf := by
  subst hp
  exact H.go rfl fun p e below m c T t A hx hB q => XT.iconstV A hx rfl v (Jvm.hb hB d) hv q
theorem Here.bipush {i : Int} (H : Here k R Z EL n0 y B ret h0 ws h pc L S ce sl sf) (pc' : Nat) (v : Int32) (d : decode B pc = .ok (.bipush i, 2)) (hv : (Int8.ofInt i).toInt32 = v := by rfl) (hp : pc + 2 = pc' := by rfl) : Here k R Z EL n0 y B ret h0 ws h pc' L (.int v :: S) ce sl sf := by
  subst hp
  exact H.go rfl fun p e below m c T t A hx hB q => XT.bipushV A hx rfl v (Jvm.hb hB d) hv q
theorem Here.sipush {i : Int} (H : Here k R Z EL n0 y B ret h0 ws h pc L S ce sl sf) (pc' : Nat) (v : Int32) (d : decode B pc = .ok (.sipush i, 3)) (hv : (Int16.ofInt i).toInt32 = v := by rfl) (hp : pc + 3 = pc' := by rfl) : Here k R Z EL n0 y B ret h0 ws h pc' L (.int v :: S) ce sl sf := by
  subst hp
  exact H.go rfl fun p e below m c T t A hx hB q => XT.sipushV A hx rfl v (Jvm.hb hB d) hv q
theorem Here.lconst {i : Fin 2} (H : Here k R Z EL n0 y B ret h0 ws h pc L S ce sl sf) (pc' : Nat) (v : Int64) (d : decode B pc = .ok (.lconst i, 1)) (hv : Int64.ofNat i = v := by rfl) (hp : pc + 1 = pc' := by rfl) : Here k R Z EL n0 y B ret h0 ws h pc' L (.long v :: S) ce sl sf := by
  subst hp
  exact H.go rfl fun p e below m c T t A hx hB q => XT.lconstV A hx rfl v (Jvm.hb hB d) hv q
theorem Here.anull  (H : Here k R Z EL n0 y B ret h0 ws h pc L S ce sl sf) (pc' : Nat)  (d : decode B pc = .ok (.aconst_null, 1))  (hp : pc + 1 = pc' := by rfl) : Here k R Z EL n0 y B ret h0 ws h pc' L (.null :: S) ce sl sf := by
  subst hp
  exact H.go rfl fun p e below m c T t A hx hB q => XS.aconstNull A hx rfl (Jvm.hb hB d) q
theorem Here.iadd {x z : Int32} (H : Here k R Z EL n0 y B ret h0 ws h pc L (.int z :: .int x :: S) ce sl sf) (pc' : Nat)  (d : decode B pc = .ok (.iadd, 1))  (hp : pc + 1 = pc' := by rfl) : Here k R Z EL n0 y B ret h0 ws h pc' L (.int (x + z) :: S) ce sl sf := by
  subst hp
  exact H.go rfl fun p e below m c T t A hx hB q => XS.iadd A hx rfl (Jvm.hb hB d) rfl q
theorem Here.isub {x z : Int32} (H : Here k R Z EL n0 y B ret h0 ws h pc L (.int z :: .int x :: S) ce sl sf) (pc' : Nat)  (d : decode B pc = .ok (.isub, 1))  (hp : pc + 1 = pc' := by rfl) : Here k R Z EL n0 y B ret h0 ws h pc' L (.int (x - z) :: S) ce sl sf := by
  subst hp
  exact H.go rfl fun p e below m c T t A hx hB q => XS.isub A hx rfl (Jvm.hb hB d) rfl q
theorem Here.imul {x z : Int32} (H : Here k R Z EL n0 y B ret h0 ws h pc L (.int z :: .int x :: S) ce sl sf) (pc' : Nat)  (d : decode B pc = .ok (.imul, 1))  (hp : pc + 1 = pc' := by rfl) : Here k R Z EL n0 y B ret h0 ws h pc' L (.int (x * z) :: S) ce sl sf := by
  subst hp
  exact H.go rfl fun p e below m c T t A hx hB q => XS.imul A hx rfl (Jvm.hb hB d) rfl q
theorem Here.iand {x z : Int32} (H : Here k R Z EL n0 y B ret h0 ws h pc L (.int z :: .int x :: S) ce sl sf) (pc' : Nat)  (d : decode B pc = .ok (.iand, 1))  (hp : pc + 1 = pc' := by rfl) : Here k R Z EL n0 y B ret h0 ws h pc' L (.int (x &&& z) :: S) ce sl sf := by
  subst hp
  exact H.go rfl fun p e below m c T t A hx hB q => XS.iand A hx rfl (Jvm.hb hB d) rfl q
theorem Here.ior {x z : Int32} (H : Here k R Z EL n0 y B ret h0 ws h pc L (.int z :: .int x :: S) ce sl sf) (pc' : Nat)  (d : decode B pc = .ok (.ior, 1))  (hp : pc + 1 = pc' := by rfl) : Here k R Z EL n0 y B ret h0 ws h pc' L (.int (x ||| z) :: S) ce sl sf := by
  subst hp
  exact H.go rfl fun p e below m c T t A hx hB q => XT.ior A hx rfl (Jvm.hb hB d) rfl q
theorem Here.ixor {x z : Int32} (H : Here k R Z EL n0 y B ret h0 ws h pc L (.int z :: .int x :: S) ce sl sf) (pc' : Nat)  (d : decode B pc = .ok (.ixor, 1))  (hp : pc + 1 = pc' := by rfl) : Here k R Z EL n0 y B ret h0 ws h pc' L (.int (x ^^^ z) :: S) ce sl sf := by
  subst hp
  exact H.go rfl fun p e below m c T t A hx hB q => XT.ixor A hx rfl (Jvm.hb hB d) rfl q
theorem Here.ishl {x z : Int32} (H : Here k R Z EL n0 y B ret h0 ws h pc L (.int z :: .int x :: S) ce sl sf) (pc' : Nat)  (d : decode B pc = .ok (.ishl, 1))  (hp : pc + 1 = pc' := by rfl) : Here k R Z EL n0 y B ret h0 ws h pc' L (.int (x <<< (z &&& 31)) :: S) ce sl sf := by
  subst hp
  exact H.go rfl fun p e below m c T t A hx hB q => XT.ishl A hx rfl (Jvm.hb hB d) rfl q
theorem Here.ishr {x z : Int32} (H : Here k R Z EL n0 y B ret h0 ws h pc L (.int z :: .int x :: S) ce sl sf) (pc' : Nat)  (d : decode B pc = .ok (.ishr, 1))  (hp : pc + 1 = pc' := by rfl) : Here k R Z EL n0 y B ret h0 ws h pc' L (.int (x >>> (z &&& 31)) :: S) ce sl sf := by
  subst hp
  exact H.go rfl fun p e below m c T t A hx hB q => XT.ishr A hx rfl (Jvm.hb hB d) rfl q
theorem Here.iushr {x z : Int32} (H : Here k R Z EL n0 y B ret h0 ws h pc L (.int z :: .int x :: S) ce sl sf) (pc' : Nat)  (d : decode B pc = .ok (.iushr, 1))  (hp : pc + 1 = pc' := by rfl) : Here k R Z EL n0 y B ret h0 ws h pc' L (.int ((x.toUInt32 >>> (z &&& 31).toUInt32).toInt32) :: S) ce sl sf := by
  subst hp
  exact H.go rfl fun p e below m c T t A hx hB q => XT.iushr A hx rfl (Jvm.hb hB d) rfl q
theorem Here.idiv {x z : Int32} (H : Here k R Z EL n0 y B ret h0 ws h pc L (.int z :: .int x :: S) ce sl sf) (pc' : Nat)  (d : decode B pc = .ok (.idiv, 1)) (hz : z ≠ 0) (hp : pc + 1 = pc' := by rfl) : Here k R Z EL n0 y B ret h0 ws h pc' L (.int (x / z) :: S) ce sl sf := by
  subst hp
  exact H.go rfl fun p e below m c T t A hx hB q => XS.idiv A hx rfl (Jvm.hb hB d) rfl hz q
theorem Here.irem {x z : Int32} (H : Here k R Z EL n0 y B ret h0 ws h pc L (.int z :: .int x :: S) ce sl sf) (pc' : Nat) (d : decode B pc = .ok (.irem, 1)) (hz : z ≠ 0) (hp : pc + 1 = pc' := by rfl) : Here k R Z EL n0 y B ret h0 ws h pc' L (.int (x % z) :: S) ce sl sf := by
  subst hp
  have e1 : x - x / z * z = x % z := irem_eq_mod x z
  exact H.go rfl fun p e below m c T t A hx hB q => XS.irem A hx rfl (Jvm.hb hB d) rfl hz (by rw [e1]; exact q)
theorem Here.ineg {x : Int32} (H : Here k R Z EL n0 y B ret h0 ws h pc L (.int x :: S) ce sl sf) (pc' : Nat)  (d : decode B pc = .ok (.ineg, 1))  (hp : pc + 1 = pc' := by rfl) : Here k R Z EL n0 y B ret h0 ws h pc' L (.int (-x) :: S) ce sl sf := by
  subst hp
  exact H.go rfl fun p e below m c T t A hx hB q => XS.ineg A hx rfl (Jvm.hb hB d) rfl q
theorem Here.i2c {x : Int32} (H : Here k R Z EL n0 y B ret h0 ws h pc L (.int x :: S) ce sl sf) (pc' : Nat)  (d : decode B pc = .ok (.i2c, 1))  (hp : pc + 1 = pc' := by rfl) : Here k R Z EL n0 y B ret h0 ws h pc' L (.int x.toUInt32.toUInt16.toUInt32.toInt32 :: S) ce sl sf := by
  subst hp
  exact H.go rfl fun p e below m c T t A hx hB q => XT.i2c A hx rfl (Jvm.hb hB d) rfl q
theorem Here.i2b {x : Int32} (H : Here k R Z EL n0 y B ret h0 ws h pc L (.int x :: S) ce sl sf) (pc' : Nat)  (d : decode B pc = .ok (.i2b, 1))  (hp : pc + 1 = pc' := by rfl) : Here k R Z EL n0 y B ret h0 ws h pc' L (.int x.toInt8.toInt32 :: S) ce sl sf := by
  subst hp
  exact H.go rfl fun p e below m c T t A hx hB q => XT.i2b A hx rfl (Jvm.hb hB d) rfl q
theorem Here.i2l {x : Int32} (H : Here k R Z EL n0 y B ret h0 ws h pc L (.int x :: S) ce sl sf) (pc' : Nat)  (d : decode B pc = .ok (.i2l, 1))  (hp : pc + 1 = pc' := by rfl) : Here k R Z EL n0 y B ret h0 ws h pc' L (.long x.toInt64 :: S) ce sl sf := by
  subst hp
  exact H.go rfl fun p e below m c T t A hx hB q => XT.i2l A hx rfl (Jvm.hb hB d) rfl q
theorem Here.l2i {x : Int64} (H : Here k R Z EL n0 y B ret h0 ws h pc L (.long x :: S) ce sl sf) (pc' : Nat)  (d : decode B pc = .ok (.l2i, 1))  (hp : pc + 1 = pc' := by rfl) : Here k R Z EL n0 y B ret h0 ws h pc' L (.int x.toInt32 :: S) ce sl sf := by
  subst hp
  exact H.go rfl fun p e below m c T t A hx hB q => XT.l2i A hx rfl (Jvm.hb hB d) rfl q
theorem Here.ladd {x z : Int64} (H : Here k R Z EL n0 y B ret h0 ws h pc L (.long z :: .long x :: S) ce sl sf) (pc' : Nat)  (d : decode B pc = .ok (.ladd, 1))  (hp : pc + 1 = pc' := by rfl) : Here k R Z EL n0 y B ret h0 ws h pc' L (.long (x + z) :: S) ce sl sf := by
  subst hp
  exact H.go rfl fun p e below m c T t A hx hB q => XT.ladd A hx rfl (Jvm.hb hB d) rfl q
theorem Here.lsub {x z : Int64} (H : Here k R Z EL n0 y B ret h0 ws h pc L (.long z :: .long x :: S) ce sl sf) (pc' : Nat)  (d : decode B pc = .ok (.lsub, 1))  (hp : pc + 1 = pc' := by rfl) : Here k R Z EL n0 y B ret h0 ws h pc' L (.long (x - z) :: S) ce sl sf := by
  subst hp
  exact H.go rfl fun p e below m c T t A hx hB q => XT.lsub A hx rfl (Jvm.hb hB d) rfl q
theorem Here.lmul {x z : Int64} (H : Here k R Z EL n0 y B ret h0 ws h pc L (.long z :: .long x :: S) ce sl sf) (pc' : Nat)  (d : decode B pc = .ok (.lmul, 1))  (hp : pc + 1 = pc' := by rfl) : Here k R Z EL n0 y B ret h0 ws h pc' L (.long (x * z) :: S) ce sl sf := by
  subst hp
  exact H.go rfl fun p e below m c T t A hx hB q => XT.lmul A hx rfl (Jvm.hb hB d) rfl q
theorem Here.land {x z : Int64} (H : Here k R Z EL n0 y B ret h0 ws h pc L (.long z :: .long x :: S) ce sl sf) (pc' : Nat)  (d : decode B pc = .ok (.land, 1))  (hp : pc + 1 = pc' := by rfl) : Here k R Z EL n0 y B ret h0 ws h pc' L (.long (x &&& z) :: S) ce sl sf := by
  subst hp
  exact H.go rfl fun p e below m c T t A hx hB q => XT.land A hx rfl (Jvm.hb hB d) rfl q
theorem Here.lor {x z : Int64} (H : Here k R Z EL n0 y B ret h0 ws h pc L (.long z :: .long x :: S) ce sl sf) (pc' : Nat)  (d : decode B pc = .ok (.lor, 1))  (hp : pc + 1 = pc' := by rfl) : Here k R Z EL n0 y B ret h0 ws h pc' L (.long (x ||| z) :: S) ce sl sf := by
  subst hp
  exact H.go rfl fun p e below m c T t A hx hB q => XT.lor A hx rfl (Jvm.hb hB d) rfl q
theorem Here.lushr {x : Int64} {z : Int32} (H : Here k R Z EL n0 y B ret h0 ws h pc L (.int z :: .long x :: S) ce sl sf) (pc' : Nat)  (d : decode B pc = .ok (.lushr, 1))  (hp : pc + 1 = pc' := by rfl) : Here k R Z EL n0 y B ret h0 ws h pc' L (.long (XT.ushrL x z) :: S) ce sl sf := by
  subst hp
  exact H.go rfl fun p e below m c T t A hx hB q => XT.lushr A hx rfl (Jvm.hb hB d) rfl q
theorem Here.ldiv {x z : Int64} (H : Here k R Z EL n0 y B ret h0 ws h pc L (.long z :: .long x :: S) ce sl sf) (pc' : Nat)  (d : decode B pc = .ok (.ldiv, 1)) (hz : z ≠ 0) (hp : pc + 1 = pc' := by rfl) : Here k R Z EL n0 y B ret h0 ws h pc' L (.long (x / z) :: S) ce sl sf := by
  subst hp
  exact H.go rfl fun p e below m c T t A hx hB q => XT.ldiv A hx rfl (Jvm.hb hB d) rfl hz q
theorem Here.lneg {x : Int64} (H : Here k R Z EL n0 y B ret h0 ws h pc L (.long x :: S) ce sl sf) (pc' : Nat)  (d : decode B pc = .ok (.lneg, 1))  (hp : pc + 1 = pc' := by rfl) : Here k R Z EL n0 y B ret h0 ws h pc' L (.long (-x) :: S) ce sl sf := by
  subst hp
  exact H.go rfl fun p e below m c T t A hx hB q => XT.lneg A hx rfl (Jvm.hb hB d) rfl q
theorem Here.lcmp {x z : Int64} (H : Here k R Z EL n0 y B ret h0 ws h pc L (.long z :: .long x :: S) ce sl sf) (pc' : Nat)  (d : decode B pc = .ok (.lcmp, 1))  (hp : pc + 1 = pc' := by rfl) : Here k R Z EL n0 y B ret h0 ws h pc' L (.int (XT.cmpL x z) :: S) ce sl sf := by
  subst hp
  exact H.go rfl fun p e below m c T t A hx hB q => XT.lcmp A hx rfl (Jvm.hb hB d) rfl q
theorem Here.dup {v : Value} (H : Here k R Z EL n0 y B ret h0 ws h pc L (v :: S) ce sl sf) (pc' : Nat)  (d : decode B pc = .ok (.dup, 1)) (hc : v.category = 1 := by rfl) (hp : pc + 1 = pc' := by rfl) : Here k R Z EL n0 y B ret h0 ws h pc' L (v :: v :: S) ce sl sf := by
  subst hp
  exact H.go rfl fun p e below m c T t A hx hB q => XS.dup A hx rfl (Jvm.hb hB d) rfl hc q
theorem Here.pop {v : Value} (H : Here k R Z EL n0 y B ret h0 ws h pc L (v :: S) ce sl sf) (pc' : Nat)  (d : decode B pc = .ok (.pop, 1)) (hc : v.category = 1 := by rfl) (hp : pc + 1 = pc' := by rfl) : Here k R Z EL n0 y B ret h0 ws h pc' L S ce sl sf := by
  subst hp
  exact H.go rfl fun p e below m c T t A hx hB q => XT.pop A hx rfl (Jvm.hb hB d) rfl hc q
theorem Here.istoreN {i : Fin 4} {x : Int32} (H : Here k R Z EL n0 y B ret h0 ws h pc L (.int x :: S) ce sl sf) (pc' : Nat)  (d : decode B pc = .ok (.istore_n i, 1)) (hl : storeLocals L i.val (.int x) = some L') (hz : L'.size = L.size := by rfl) (hp : pc + 1 = pc' := by rfl) : Here k R Z EL n0 y B ret h0 ws h pc' L' S ce sl sf := by
  subst hp
  exact H.go hz fun p e below m c T t A hx hB q => XS.istoreN A hx rfl (Jvm.hb hB d) rfl hl q
theorem Here.istore {i : Nat} {x : Int32} (H : Here k R Z EL n0 y B ret h0 ws h pc L (.int x :: S) ce sl sf) (pc' : Nat)  (d : decode B pc = .ok (.istore i, 2)) (hl : storeLocals L i (.int x) = some L') (hz : L'.size = L.size := by rfl) (hp : pc + 2 = pc' := by rfl) : Here k R Z EL n0 y B ret h0 ws h pc' L' S ce sl sf := by
  subst hp
  exact H.go hz fun p e below m c T t A hx hB q => XS.istore A hx rfl (Jvm.hb hB d) rfl hl q
theorem Here.astoreN {i : Fin 4} {x : Value} (H : Here k R Z EL n0 y B ret h0 ws h pc L (x :: S) ce sl sf) (pc' : Nat)  (d : decode B pc = .ok (.astore_n i, 1)) (hl : storeLocals L i.val x = some L') (hv : x.isRef = true := by rfl) (hz : L'.size = L.size := by rfl) (hp : pc + 1 = pc' := by rfl) : Here k R Z EL n0 y B ret h0 ws h pc' L' S ce sl sf := by
  subst hp
  exact H.go hz fun p e below m c T t A hx hB q => XS.astoreN A hx rfl (Jvm.hb hB d) rfl hv hl q
theorem Here.astore {i : Nat} {x : Value} (H : Here k R Z EL n0 y B ret h0 ws h pc L (x :: S) ce sl sf) (pc' : Nat)  (d : decode B pc = .ok (.astore i, 2)) (hl : storeLocals L i x = some L') (hv : x.isRef = true := by rfl) (hz : L'.size = L.size := by rfl) (hp : pc + 2 = pc' := by rfl) : Here k R Z EL n0 y B ret h0 ws h pc' L' S ce sl sf := by
  subst hp
  exact H.go hz fun p e below m c T t A hx hB q => XS.astore A hx rfl (Jvm.hb hB d) rfl hv hl q
theorem Here.lstoreN {i : Fin 4} {x : Int64} (H : Here k R Z EL n0 y B ret h0 ws h pc L (.long x :: S) ce sl sf) (pc' : Nat)  (d : decode B pc = .ok (.lstore_n i, 1)) (hl : storeLocals L i.val (.long x) = some L') (hz : L'.size = L.size := by rfl) (hp : pc + 1 = pc' := by rfl) : Here k R Z EL n0 y B ret h0 ws h pc' L' S ce sl sf := by
  subst hp
  exact H.go hz fun p e below m c T t A hx hB q => XT.lstoreN A hx rfl (Jvm.hb hB d) rfl hl q
theorem Here.lstore {i : Nat} {x : Int64} (H : Here k R Z EL n0 y B ret h0 ws h pc L (.long x :: S) ce sl sf) (pc' : Nat)  (d : decode B pc = .ok (.lstore i, 2)) (hl : storeLocals L i (.long x) = some L') (hz : L'.size = L.size := by rfl) (hp : pc + 2 = pc' := by rfl) : Here k R Z EL n0 y B ret h0 ws h pc' L' S ce sl sf := by
  subst hp
  exact H.go hz fun p e below m c T t A hx hB q => XT.lstore A hx rfl (Jvm.hb hB d) rfl hl q
theorem Here.iinc {i : Nat} {cst : Int} {x : Int32} (H : Here k R Z EL n0 y B ret h0 ws h pc L S ce sl sf) (pc' : Nat) (v : Int32) (d : decode B pc = .ok (.iinc i cst, 3)) (hl : L[i]? = some (.val (.int x))) (hl' : storeLocals L i (.int (x + v)) = some L') (hv : Int32.ofInt cst = v := by rfl) (hz : L'.size = L.size := by rfl) (hp : pc + 3 = pc' := by rfl) : Here k R Z EL n0 y B ret h0 ws h pc' L' S ce sl sf := by
  subst hp
  exact H.go hz fun p e below m c T t A hx hB q => XT.iincV A hx rfl v (Jvm.hb hB d) hv hl hl' q
theorem Here.goto  (H : Here k R Z EL n0 y B ret h0 ws h pc L S ce sl sf) (pc' : Nat)  {o : Int} (d : decode B pc = .ok (.goto o, 3))  (ho : 0 ≤ (pc : Int) + o := by decide) (hp : ((pc : Int) + o).toNat = pc' := by rfl) : Here k R Z EL n0 y B ret h0 ws h pc' L S ce sl sf :=
  H.go rfl fun p e below m c T t A hx hB q => XS.goto A hx rfl rfl (Jvm.hb hB d) ho hp q
theorem Here.ifYes {cd : ClassFile.Cond} {x : Int32} (H : Here k R Z EL n0 y B ret h0 ws h pc L (.int x :: S) ce sl sf) (pc' : Nat)  {o : Int} (d : decode B pc = .ok (.ifCond cd o, 3)) (hc : ifCond.holds cd x = true) (ho : 0 ≤ (pc : Int) + o := by decide) (hp : ((pc : Int) + o).toNat = pc' := by rfl) : Here k R Z EL n0 y B ret h0 ws h pc' L S ce sl sf :=
  H.go rfl fun p e below m c T t A hx hB q => XS.ifYes A hx rfl rfl (Jvm.hb hB d) rfl hc ho hp q
theorem Here.ifNo {cd : ClassFile.Cond} {o : Int} {x : Int32} (H : Here k R Z EL n0 y B ret h0 ws h pc L (.int x :: S) ce sl sf) (pc' : Nat)  (d : decode B pc = .ok (.ifCond cd o, 3)) (hc : ifCond.holds cd x = false) (hp : pc + 3 = pc' := by rfl) : Here k R Z EL n0 y B ret h0 ws h pc' L S ce sl sf := by
  subst hp
  exact H.go rfl fun p e below m c T t A hx hB q => XS.ifNo A hx rfl (Jvm.hb hB d) rfl hc q
theorem Here.icmpYes {cd : ClassFile.Cond} {x z : Int32} (H : Here k R Z EL n0 y B ret h0 ws h pc L (.int z :: .int x :: S) ce sl sf) (pc' : Nat)  {o : Int} (d : decode B pc = .ok (.if_icmp cd o, 3)) (hc : if_icmp.holds cd x z = true) (ho : 0 ≤ (pc : Int) + o := by decide) (hp : ((pc : Int) + o).toNat = pc' := by rfl) : Here k R Z EL n0 y B ret h0 ws h pc' L S ce sl sf :=
  H.go rfl fun p e below m c T t A hx hB q => XS.icmpYes A hx rfl rfl (Jvm.hb hB d) rfl hc ho hp q
theorem Here.icmpNo {cd : ClassFile.Cond} {o : Int} {x z : Int32} (H : Here k R Z EL n0 y B ret h0 ws h pc L (.int z :: .int x :: S) ce sl sf) (pc' : Nat)  (d : decode B pc = .ok (.if_icmp cd o, 3)) (hc : if_icmp.holds cd x z = false) (hp : pc + 3 = pc' := by rfl) : Here k R Z EL n0 y B ret h0 ws h pc' L S ce sl sf := by
  subst hp
  exact H.go rfl fun p e below m c T t A hx hB q => XS.icmpNo A hx rfl (Jvm.hb hB d) rfl hc q
theorem Here.nullYes  (H : Here k R Z EL n0 y B ret h0 ws h pc L (.null :: S) ce sl sf) (pc' : Nat)  {o : Int} (d : decode B pc = .ok (.ifnull o, 3))  (ho : 0 ≤ (pc : Int) + o := by decide) (hp : ((pc : Int) + o).toNat = pc' := by rfl) : Here k R Z EL n0 y B ret h0 ws h pc' L S ce sl sf :=
  H.go rfl fun p e below m c T t A hx hB q => XS.ifnullYes A hx rfl rfl (Jvm.hb hB d) rfl ho hp q
theorem Here.nullNo {o : Int} {b : Addr} (H : Here k R Z EL n0 y B ret h0 ws h pc L (.ref b :: S) ce sl sf) (pc' : Nat)  (d : decode B pc = .ok (.ifnull o, 3))  (hp : pc + 3 = pc' := by rfl) : Here k R Z EL n0 y B ret h0 ws h pc' L S ce sl sf := by
  subst hp
  exact H.go rfl fun p e below m c T t A hx hB q => XS.ifnullNo A hx rfl (Jvm.hb hB d) rfl q
theorem Here.nonnullYes {b : Addr} (H : Here k R Z EL n0 y B ret h0 ws h pc L (.ref b :: S) ce sl sf) (pc' : Nat)  {o : Int} (d : decode B pc = .ok (.ifnonnull o, 3))  (ho : 0 ≤ (pc : Int) + o := by decide) (hp : ((pc : Int) + o).toNat = pc' := by rfl) : Here k R Z EL n0 y B ret h0 ws h pc' L S ce sl sf :=
  H.go rfl fun p e below m c T t A hx hB q => XT.ifnonnullYes A hx rfl rfl (Jvm.hb hB d) rfl ho hp q
theorem Here.nonnullNo {o : Int} (H : Here k R Z EL n0 y B ret h0 ws h pc L (.null :: S) ce sl sf) (pc' : Nat)  (d : decode B pc = .ok (.ifnonnull o, 3))  (hp : pc + 3 = pc' := by rfl) : Here k R Z EL n0 y B ret h0 ws h pc' L S ce sl sf := by
  subst hp
  exact H.go rfl fun p e below m c T t A hx hB q => XT.ifnonnullNo A hx rfl (Jvm.hb hB d) rfl q
theorem Here.acmpYes {cd : ClassFile.ACond} {u v : Value} (H : Here k R Z EL n0 y B ret h0 ws h pc L (v :: u :: S) ce sl sf) (pc' : Nat)  {o : Int} (d : decode B pc = .ok (.if_acmp cd o, 3)) (hc : XT.acmp cd u v = true) (hu : u.isRef = true := by rfl) (hv : v.isRef = true := by rfl) (ho : 0 ≤ (pc : Int) + o := by decide) (hp : ((pc : Int) + o).toNat = pc' := by rfl) : Here k R Z EL n0 y B ret h0 ws h pc' L S ce sl sf :=
  H.go rfl fun p e below m c T t A hx hB q => XT.acmpYes A hx rfl rfl (Jvm.hb hB d) rfl hu hv hc ho hp q
theorem Here.acmpNo {cd : ClassFile.ACond} {o : Int} {u v : Value} (H : Here k R Z EL n0 y B ret h0 ws h pc L (v :: u :: S) ce sl sf) (pc' : Nat)  (d : decode B pc = .ok (.if_acmp cd o, 3)) (hc : XT.acmp cd u v = false) (hu : u.isRef = true := by rfl) (hv : v.isRef = true := by rfl) (hp : pc + 3 = pc' := by rfl) : Here k R Z EL n0 y B ret h0 ws h pc' L S ce sl sf := by
  subst hp
  exact H.go rfl fun p e below m c T t A hx hB q => XT.acmpNo A hx rfl (Jvm.hb hB d) rfl hu hv hc q
end Steps
section HeapSteps
variable {k : Ctx} {R : Room} {Z : State} {EL : List (String × Nat)} {n0 : Nat} {y : MethodName} {B : ByteArray} {ret : Option FieldType} {h0 h : Heap} {ws sf : List Addr} {pc : Nat} {L : Array Slot} {S : List Value} {ce sl : Nat} {a0 : Array Value}
theorem Here.getF (H : Here k R Z EL n0 y B ret h0 ws h pc L (.ref a :: S) ce sl sf) (pc' : Nat) {index : Nat} {O n d : String} {v : Value} (w : (Jvm.Cond.fieldLink y.cls index O n d).before a0 Z = true) (F : Fld Z h a O n d v) (dd : decode B pc = .ok (.getfield index, 3)) (hp : pc + 3 = pc' := by rfl) : Here k R Z EL n0 y B ret h0 ws h pc' L (v :: S) ce sl sf := by
  subst hp
  exact H.goT rfl fun p l e s m args below meth c T locs ce sl X e1 hZ hown hx hB hl hs => RoadKit.getF X hx hZ hown (host := "") (Or.inl w) Via.refl e1 F (g := mkF m pc L (.ref a :: S)) rfl rfl (Jvm.hb hB dd)
theorem Here.getS (H : Here k R Z EL n0 y B ret h0 ws h pc L S ce sl sf) (pc' : Nat) {index : Nat} {O n d : String} {v : Value} (w : (Jvm.Cond.fieldLink y.cls index O n d).before a0 Z = true) (F : Sta Z h O n d v) (dd : decode B pc = .ok (.getstatic index, 3)) (hp : pc + 3 = pc' := by rfl) : Here k R Z EL n0 y B ret h0 ws h pc' L (v :: S) ce sl sf := by
  subst hp
  exact H.goT rfl fun p l e s m args below meth c T locs ce sl X e1 hZ hown hx hB hl hs => RoadKit.getS X hx hZ (host := "") hown w Via.refl e1 F (g := mkF m pc L S) rfl (Jvm.hb hB dd)
theorem Here.castY (H : Here k R Z EL n0 y B ret h0 ws h pc L (.ref a :: S) ce sl sf) (pc' : Nat) {index : Nat} {K : String} (w : (Jvm.Cond.classLink y.cls index K).before a0 Z = true) (F : Ins Z h a K true) (dd : decode B pc = .ok (.checkcast index, 3)) (hp : pc + 3 = pc' := by rfl) : Here k R Z EL n0 y B ret h0 ws h pc' L (.ref a :: S) ce sl sf := by
  subst hp
  exact H.goT rfl fun p l e s m args below meth c T locs ce sl X e1 hZ hown hx hB hl hs => RoadKit.castY X hx hZ hown w e1 F (g := mkF m pc L (.ref a :: S)) rfl rfl (Jvm.hb hB dd)
theorem Here.instY (H : Here k R Z EL n0 y B ret h0 ws h pc L (.ref a :: S) ce sl sf) (pc' : Nat) {index : Nat} {K : String} (w : (Jvm.Cond.classLink y.cls index K).before a0 Z = true) (F : Ins Z h a K true) (dd : decode B pc = .ok (.instanceof index, 3)) (hp : pc + 3 = pc' := by rfl) : Here k R Z EL n0 y B ret h0 ws h pc' L (.int 1 :: S) ce sl sf := by
  subst hp
  exact H.goT rfl fun p l e s m args below meth c T locs ce sl X e1 hZ hown hx hB hl hs => RoadKit.instY X hx hZ hown w e1 F (g := mkF m pc L (.ref a :: S)) rfl rfl (Jvm.hb hB dd)
theorem Here.instN (H : Here k R Z EL n0 y B ret h0 ws h pc L (.ref a :: S) ce sl sf) (pc' : Nat) {index : Nat} {K C : String} (w : (Jvm.Cond.classLink y.cls index K).before a0 Z = true) (F : Ins Z h0 a K false) (E : Exa Z h0 a C) (dd : decode B pc = .ok (.instanceof index, 3)) (hp : pc + 3 = pc' := by rfl) : Here k R Z EL n0 y B ret h0 ws h pc' L (.int 0 :: S) ce sl sf := by
  subst hp
  exact H.goT rfl fun p l e s m args below meth c T locs ce sl X e1 hZ hown hx hB hl hs => by subst hs; exact RoadKit.instN X hx hZ hown w e1 F E (g := mkF m pc L (.ref a :: S)) rfl rfl (Jvm.hb hB dd)
theorem Here.ldcI (H : Here k R Z EL n0 y B ret h0 ws h pc L S ce sl sf) (pc' : Nat) {index : Nat} {v : Int32} (w : (Jvm.Cond.constant y.cls index v).before a0 Z = true) (dd : decode B pc = .ok (.ldc index, 2)) (hp : pc + 2 = pc' := by rfl) : Here k R Z EL n0 y B ret h0 ws h pc' L (.int v :: S) ce sl sf := by
  subst hp
  exact H.goT rfl fun p l e s m args below meth c T locs ce sl X e1 hZ hown hx hB hl hs => ⟨T, X, e1, fun t q => X.ldcI hx hown (mvT hZ w) (g := mkF m pc L S) rfl (Jvm.hb hB dd) q⟩
theorem Here.ldc2J (H : Here k R Z EL n0 y B ret h0 ws h pc L S ce sl sf) (pc' : Nat) {index : Nat} {v : Int64} (w : (Jvm.Cond.constantLong y.cls index v).before a0 Z = true) (dd : decode B pc = .ok (.ldc2_w index, 3)) (hp : pc + 3 = pc' := by rfl) : Here k R Z EL n0 y B ret h0 ws h pc' L (.long v :: S) ce sl sf := by
  subst hp
  exact H.goT rfl fun p l e s m args below meth c T locs ce sl X e1 hZ hown hx hB hl hs => ⟨T, X, e1, fun t q => X.ldc2J hx hown (mvT hZ w) (g := mkF m pc L S) rfl (Jvm.hb hB dd) q⟩
theorem Here.alen (H : Here k R Z EL n0 y B ret h0 ws h pc L (.ref a :: S) ce sl sf) (pc' : Nat) {kc : ClassId} {ty : FieldType} {z : Int32} {vs : List Value} {dv : Value} (V : Arv Z h a kc ty z vs dv) (dd : decode B pc = .ok (.arraylength, 1)) (hp : pc + 1 = pc' := by rfl) : Here k R Z EL n0 y B ret h0 ws h pc' L (.int z :: S) ce sl sf := by
  subst hp
  obtain ⟨cl, A, -, hsz, hz, -⟩ := V
  exact H.goT rfl fun p l e s m args below meth c T locs ce sl X e1 hZ hown hx hB hl hs => ⟨T, X, e1, fun t q => X.arraylength hx (by rw [e1]; exact A.1) (State.isArrayOf_alike hZ.alike A.2.1) (g := mkF m pc L (.ref a :: S)) rfl rfl (Jvm.hb hB dd) t (by rw [len_of hsz hz]; exact q)⟩
theorem Here.alenA (H : Here k R Z EL n0 y B ret h0 ws h pc L (.ref a :: S) ce sl sf) (pc' : Nat) {cl : Cell} {ty : FieldType} {z : Int32} (A : Arr Z h a cl ty) (hsz : cl.slots.size = z.toNatClampNeg) (hz : ¬ z < 0) (dd : decode B pc = .ok (.arraylength, 1)) (hp : pc + 1 = pc' := by rfl) : Here k R Z EL n0 y B ret h0 ws h pc' L (.int z :: S) ce sl sf := by
  subst hp
  exact H.goT rfl fun p l e s m args below meth c T locs ce sl X e1 hZ hown hx hB hl hs => ⟨T, X, e1, fun t q => X.arraylength hx (by rw [e1]; exact A.1) (State.isArrayOf_alike hZ.alike A.2.1) (g := mkF m pc L (.ref a :: S)) rfl rfl (Jvm.hb hB dd) t (by rw [len_of hsz hz]; exact q)⟩
theorem Here.caload (H : Here k R Z EL n0 y B ret h0 ws h pc L (.int j :: .ref a :: S) ce sl sf) (pc' : Nat) {kc : ClassId} {z : Int32} {vs : List Value} {dv v : Value} (V : Arv Z h a kc .char z vs dv) (hj : ¬ j < 0 ∧ j < z) (hv : vs.getD j.toNatClampNeg dv = v) (dd : decode B pc = .ok (.caload, 1)) (hp : pc + 1 = pc' := by rfl) : Here k R Z EL n0 y B ret h0 ws h pc' L (v :: S) ce sl sf := by
  subst hp
  obtain ⟨cl, A, -, hsz, hz, hh, -⟩ := V
  exact H.goT rfl fun p l e s m args below meth c T locs ce sl X e1 hZ hown hx hB hl hs => ⟨T, X, e1, fun t q => X.caload hx (by rw [e1]; exact A.1) (State.isArrayOf_alike hZ.alike A.2.1) A.2.2 (inb_of hsz hj) (hh.at (inb_of hsz hj) hv) (g := mkF m pc L (.int j :: .ref a :: S)) rfl rfl (Jvm.hb hB dd) t q⟩
theorem Here.baload (H : Here k R Z EL n0 y B ret h0 ws h pc L (.int j :: .ref a :: S) ce sl sf) (pc' : Nat) {kc : ClassId} {z : Int32} {vs : List Value} {dv v : Value} (V : Arv Z h a kc .byte z vs dv) (hj : ¬ j < 0 ∧ j < z) (hv : vs.getD j.toNatClampNeg dv = v) (dd : decode B pc = .ok (.baload, 1)) (hp : pc + 1 = pc' := by rfl) : Here k R Z EL n0 y B ret h0 ws h pc' L (v :: S) ce sl sf := by
  subst hp
  obtain ⟨cl, A, -, hsz, hz, hh, -⟩ := V
  exact H.goT rfl fun p l e s m args below meth c T locs ce sl X e1 hZ hown hx hB hl hs => ⟨T, X, e1, fun t q => X.baloadBytes hx (by rw [e1]; exact A.1) (State.isArrayOf_alike hZ.alike A.2.1) A.2.2 (inb_of hsz hj) (hh.at (inb_of hsz hj) hv) (g := mkF m pc L (.int j :: .ref a :: S)) rfl rfl (Jvm.hb hB dd) t q⟩
theorem Here.aaload (H : Here k R Z EL n0 y B ret h0 ws h pc L (.int j :: .ref a :: S) ce sl sf) (pc' : Nat) {kc : ClassId} {ty : FieldType} {z : Int32} {vs : List Value} {dv v : Value} (V : Arv Z h a kc ty z vs dv) (hty : ty.isReference = true) (hj : ¬ j < 0 ∧ j < z) (hv : vs.getD j.toNatClampNeg dv = v) (dd : decode B pc = .ok (.aaload, 1)) (hp : pc + 1 = pc' := by rfl) : Here k R Z EL n0 y B ret h0 ws h pc' L (v :: S) ce sl sf := by
  subst hp
  obtain ⟨cl, A, -, hsz, hz, hh, -⟩ := V
  exact H.goT rfl fun p l e s m args below meth c T locs ce sl X e1 hZ hown hx hB hl hs => ⟨T, X, e1, fun t q => X.aaload hx (by rw [e1]; exact A.1) (State.isArrayOf_alike hZ.alike A.2.1) hty A.2.2 (inb_of hsz hj) (hh.at (inb_of hsz hj) hv) (g := mkF m pc L (.int j :: .ref a :: S)) rfl rfl (Jvm.hb hB dd) t q⟩
theorem Here.aaloadA (H : Here k R Z EL n0 y B ret h0 ws h pc L (.int j :: .ref a :: S) ce sl sf) (pc' : Nat) {cl : Cell} {ty : FieldType} {v : Value} (A : Arr Z h a cl ty) (hty : ty.isReference = true) (hin : ¬ (j < 0 ∨ cl.slots.size ≤ j.toNatClampNeg)) (hv : cl.slots[j.toNatClampNeg]? = some v) (dd : decode B pc = .ok (.aaload, 1)) (hp : pc + 1 = pc' := by rfl) : Here k R Z EL n0 y B ret h0 ws h pc' L (v :: S) ce sl sf := by
  subst hp
  exact H.goT rfl fun p l e s m args below meth c T locs ce sl X e1 hZ hown hx hB hl hs => ⟨T, X, e1, fun t q => X.aaload hx (by rw [e1]; exact A.1) (State.isArrayOf_alike hZ.alike A.2.1) hty A.2.2 hin hv (g := mkF m pc L (.int j :: .ref a :: S)) rfl rfl (Jvm.hb hB dd) t q⟩
theorem Here.initO (H : Here k R Z EL n0 y B ret h0 ws h pc L (.ref a :: S) ce sl sf) (pc' : Nat) {index : Nat} (w1 : (Jvm.Cond.methodLink y.cls index Lib.objectInit).before a0 Z = true) (w2 : (Jvm.Cond.instanceMethod Lib.objectInit).before a0 Z = true) (w3 : (Jvm.Cond.code Lib.objectInit ⟨#[0xb1]⟩ 1 none).before a0 Z = true) (dd : decode B pc = .ok (.invokespecial index, 3)) (hf : 1 ≤ R.frames) {W : Nat} (hW : (S.map fun v => v.category).sum ≤ W) (hl : W + 12 ≤ R.locals) (hp : pc + 3 = pc' := by rfl) : Here k R Z EL n0 y B ret h0 ws h pc' L S ce sl sf := by
  subst hp
  exact H.goT rfl fun p l e s m args below meth c T locs ce sl X e1 hZ hown hx hB hl' hs => RoadKit.initO X hx hZ hown w1 w2 w3 e1 (g := mkF m pc L (.ref a :: S)) rfl hl' rfl (Jvm.hb hB dd) hf (W := W) (by show 2 * 0 + (S.map fun v => v.category).sum ≤ W; omega) hl
theorem Here.newO (H : Here k R Z EL n0 y B ret h0 ws h pc L S ce sl sf) (pc' : Nat) {index n : Nat} {C : String} (w : (Jvm.Cond.classLink y.cls index C).before a0 Z = true) (wi : (Jvm.Cond.instantiable C n).before a0 Z = true) (wz : (Jvm.Cond.initialized C).before a0 Z = true) (dd : decode B pc = .ok (.new index, 3)) (hc : ce + 1 ≤ R.cells) (hl : sl + n ≤ R.slots) (hp : pc + 3 = pc' := by rfl) :
    ∃ (b : Addr) (h' : Heap), b = h.size ∧ Ext h h' ∧ Exa Z h' b C ∧ (∀ {O nm d : String} {ty : FieldType}, Laid Z a0 C O nm d → parseFieldDescriptor d = some ty → Fld Z h' b O nm d (defaultValue ty)) ∧ Here k R Z EL n0 y B ret h0 ws h' pc' L (.ref b :: S) (ce + 1) (sl + n) (b :: sf) := by
  subst hp
  obtain ⟨p, l, e, s, m, args, below, meth, c, start⟩ := k
  obtain ⟨T, vm0, k0, locs, X, e1, hS, hk, hZ, hown, hC, hN, hF, ⟨hx, hB, hr⟩, st⟩ := H
  obtain ⟨T', h', X', e2, E, A, D, -, st'⟩ := RoadKit.newO X hx (s := s.setVm vm0) hZ hown w wi wz e1 (g := mkF m pc L S) rfl (Jvm.hb hB dd) hc hl
  obtain ⟨u1, u2, u3⟩ := updN hC hk hF E A.lt
  exact ⟨h.size, h', rfl, E, A, D, T', vm0, k0, locs, X', e2, hS, u2, hZ, hown, u1, hN, u3, ⟨hx, hB, hr⟩, fun t q => st t (st' t q)⟩
theorem Here.newP (H : Here k R Z EL n0 y B ret h0 ws h pc L (.int n :: S) ce sl sf) (pc' : Nat) {aty : ArrayType} {ty : FieldType} (hty : newarray.typeOf aty = ty) (w : (Jvm.Cond.arrayClass ty).before a0 Z = true) (dd : decode B pc = .ok (.newarray aty, 2)) (hn : ¬ n < 0) {cap : Nat} (hcap : n.toNatClampNeg ≤ cap) (hb : cap * 8 ≤ 536870912) (hc : ce + 1 ≤ R.cells) (hl : sl + cap ≤ R.slots) (hp : pc + 2 = pc' := by rfl) :
    ∃ (b : Addr) (h' : Heap) (kc : ClassId), b = h.size ∧ Ext h h' ∧ Arv Z h' b kc ty n (List.replicate cap (defaultValue ty)) (defaultValue ty) ∧ Here k R Z EL n0 y B ret h0 ws h' pc' L (.ref b :: S) (ce + 1) (sl + cap) (b :: sf) := by
  subst hp hty
  obtain ⟨p, l, e, s, m, args, below, meth, c, start⟩ := k
  obtain ⟨T, vm0, k0, locs, X, e1, hS, hk, hZ, hown, hC, hN, hF, ⟨hx, hB, hr⟩, st⟩ := H
  obtain ⟨T', h', kc, X', e2, E, A, st'⟩ := RoadKit.newP X hx (s := s.setVm vm0) hZ w e1 (g := mkF m pc L (.int n :: S)) rfl (Jvm.hb hB dd) rfl hn hcap hb hc hl
  have V := (Arv.new A hn).pad (pad_rep [] (defaultValue (newarray.typeOf aty)) cap)
  obtain ⟨u1, u2, u3⟩ := updN hC hk hF E A.lt
  exact ⟨h.size, h', kc, rfl, E, V, T', vm0, k0, locs, X', e2, hS, u2, hZ, hown, u1, hN, u3, ⟨hx, hB, hr⟩, fun t q => st t (st' t q)⟩
theorem Here.putF (H : Here k R Z EL n0 y B ret h0 ws h pc L (v :: .ref a :: S) ce sl sf) (pc' : Nat) {index kk : Nat} {O n d C : String} {ty : FieldType} {old : Value} (w : (Jvm.Cond.fieldLink y.cls index O n d).before a0 Z = true) (F : Fld Z h a O n d old) (E : Exa Z h a C) (Lw : (Jvm.Cond.lays C O n d).before a0 Z = true ∨ ((Jvm.Cond.laysFinal C O n d).before a0 Z = true ∧ y.cls = O ∧ y.name = "<init>")) (wi : (Jvm.Cond.instantiable C kk).before a0 Z = true)
    (hty : parseFieldDescriptor d = some ty) (hn : narrow ty v = v) (hf : fits ty v = true) (dd : decode B pc = .ok (.putfield index, 3)) (ha : a ∈ sf) (hp : pc + 3 = pc' := by rfl) :
    ∃ h' : Heap, Wr h h' a (RoadKit.slotOf Z O n d) v ∧ Keep h h' [a] ∧ Exa Z h' a C ∧ Fld Z h' a O n d v ∧ Here k R Z EL n0 y B ret h0 ws h' pc' L S ce sl sf := by
  subst hp
  obtain ⟨p, l, e, s, m, args, below, meth, c, start⟩ := k
  obtain ⟨T, vm0, k0, locs, X, e1, hS, hk, hZ, hown, hC, hN, hF, ⟨hx, hB, hsz, hr, hnm, hrest⟩, st⟩ := H
  obtain ⟨T', h', X', e2, W', st'⟩ := RoadKit.putF X hx (s := s.setVm vm0) hZ hown (host := "") (Or.inl w) Via.refl e1 F E (Lw.imp id fun q => ⟨q.1, q.2.1, hnm.trans q.2.2⟩) wi hty hn hf (g := mkF m pc L (v :: .ref a :: S)) rfl rfl (Jvm.hb hB dd)
  obtain ⟨u1, u2, u3⟩ := upd hC hk hF (Keep.of_wr W') (allS ha all0)
  exact ⟨h', W', Keep.of_wr W', E.wr W', F.same W', T', vm0, k0, _, X', e2, hS, u2, hZ, hown, u1, Fr.snoc X' hN (hF.2.2.2 a ha).2.2.1, u3, ⟨hx, hB, hsz, hr, hnm, hrest⟩, fun t q => st t (st' t q)⟩
theorem Here.stC (H : Here k R Z EL n0 y B ret h0 ws h pc L (.int x :: .int j :: .ref a :: S) ce sl sf) (pc' : Nat) {kc : ClassId} {z : Int32} {vs : List Value} {dv : Value} (V : Arv Z h a kc .char z vs dv) (i : Nat) (hj : ¬ j < 0 ∧ j < z) (hji : j.toNatClampNeg = i) (hi : i < vs.length) (hx' : nar .char x = x) (dd : decode B pc = .ok (.castore, 1)) (ha : a ∈ sf) (hp : pc + 1 = pc' := by rfl) :
    ∃ h' : Heap, Keep h h' [a] ∧ Arv Z h' a kc .char z (vs.set i (.int x)) dv ∧ Here k R Z EL n0 y B ret h0 ws h' pc' L S ce sl sf := by
  subst hp
  obtain ⟨p, l, e, s, m, args, below, meth, c, start⟩ := k
  obtain ⟨T, vm0, k0, locs, X, e1, hS, hk, hZ, hown, hC, hN, hF, ⟨hx, hB, hr⟩, st⟩ := H
  obtain ⟨cl, A, q1, q2, q3, q4, q5⟩ := V
  obtain ⟨T', h', X', e2, W', st'⟩ := RoadKit.stC X hx (s := s.setVm vm0) hZ e1 A (j := j) (inb_of q2 hj) (g := mkF m pc L (.int x :: .int j :: .ref a :: S)) rfl rfl (Jvm.hb hB dd)
  have V' := Arv.set A q1 q2 q3 q4 q5 (fits_nar_char x) W' i hji hi
  rw [hx'] at V'
  obtain ⟨u1, u2, u3⟩ := upd hC hk hF (Keep.of_wr W') (allS ha all0)
  exact ⟨h', Keep.of_wr W', V', T', vm0, k0, _, X', e2, hS, u2, hZ, hown, u1, Fr.snoc X' hN (hF.2.2.2 a ha).2.2.1, u3, ⟨hx, hB, hr⟩, fun t q => st t (st' t q)⟩
theorem Here.stB (H : Here k R Z EL n0 y B ret h0 ws h pc L (.int x :: .int j :: .ref a :: S) ce sl sf) (pc' : Nat) {kc : ClassId} {z : Int32} {vs : List Value} {dv : Value} (V : Arv Z h a kc .byte z vs dv) (i : Nat) (hj : ¬ j < 0 ∧ j < z) (hji : j.toNatClampNeg = i) (hi : i < vs.length) (dd : decode B pc = .ok (.bastore, 1)) (ha : a ∈ sf) (hp : pc + 1 = pc' := by rfl) :
    ∃ h' : Heap, Keep h h' [a] ∧ Arv Z h' a kc .byte z (vs.set i (.int x.toInt8.toInt32)) dv ∧ Here k R Z EL n0 y B ret h0 ws h' pc' L S ce sl sf := by
  subst hp
  obtain ⟨p, l, e, s, m, args, below, meth, c, start⟩ := k
  obtain ⟨T, vm0, k0, locs, X, e1, hS, hk, hZ, hown, hC, hN, hF, ⟨hx, hB, hr⟩, st⟩ := H
  obtain ⟨cl, A, q1, q2, q3, q4, q5⟩ := V
  obtain ⟨T', h', X', e2, W', st'⟩ := RoadKit.stB X hx (s := s.setVm vm0) hZ e1 A (j := j) (inb_of q2 hj) (g := mkF m pc L (.int x :: .int j :: .ref a :: S)) rfl rfl (Jvm.hb hB dd)
  have V' := Arv.set A q1 q2 q3 q4 q5 (fits_nar_byte x) W' i hji hi
  obtain ⟨u1, u2, u3⟩ := upd hC hk hF (Keep.of_wr W') (allS ha all0)
  exact ⟨h', Keep.of_wr W', V', T', vm0, k0, _, X', e2, hS, u2, hZ, hown, u1, Fr.snoc X' hN (hF.2.2.2 a ha).2.2.1, u3, ⟨hx, hB, hr⟩, fun t q => st t (st' t q)⟩
theorem Here.cloneA (H : Here k R Z EL n0 y B ret h0 ws h pc L (.ref a :: S) ce sl sf) (pc' : Nat) {index : Nat} {ad : String} (w1 : (Jvm.Cond.methodLink y.cls index ⟨ad, "clone", "()Ljava/lang/Object;"⟩).before a0 Z = true) (w2 : (Jvm.Cond.sameMethod ad "java/lang/Object" "clone" "()Ljava/lang/Object;").before a0 Z = true) (w3 : (Jvm.Cond.native ⟨"java/lang/Object", "clone", "()Ljava/lang/Object;"⟩).before a0 Z = true)
    (w4 : (Jvm.Cond.instanceMethod ⟨"java/lang/Object", "clone", "()Ljava/lang/Object;"⟩).before a0 Z = true) (w5 : (Jvm.Cond.selects ad ⟨ad, "clone", "()Ljava/lang/Object;"⟩ ⟨"java/lang/Object", "clone", "()Ljava/lang/Object;"⟩).before a0 Z = true) (w6 : (Jvm.Cond.castable ad "java/lang/Cloneable").before a0 Z = true)
    {cl : Cell} {ty : FieldType} (A : Arr Z h a cl ty) (E : Exa Z h a ad) (F : FitC Z cl) (dd : decode B pc = .ok (.invokevirtual index, 3)) (hf : 1 ≤ R.frames) {W cap : Nat} (hW : (S.map fun v => v.category).sum ≤ W) (hl : W + 14 ≤ R.locals) (hcap : cl.slots.size ≤ cap) (hc : ce + 1 ≤ R.cells) (hs : sl + cap ≤ R.slots) (hp : pc + 3 = pc' := by rfl) :
    ∃ (b : Addr) (h' : Heap), b = h.size ∧ Ext h h' ∧ Arr Z h' b (cloneOf cl) ty ∧ Exa Z h' b ad ∧ Here k R Z EL n0 y B ret h0 ws h' pc' L (.ref b :: S) (ce + 1) (sl + cap) (b :: sf) := by
  subst hp
  obtain ⟨p, l, e, s, m, args, below, meth, c, start⟩ := k
  obtain ⟨T, vm0, k0, locs, X, e1, hS, hk, hZ, hown, hC, hN, hF, ⟨hx, hB, hsz, hr⟩, st⟩ := H
  obtain ⟨T', h', X', e2, E', A', D', st'⟩ := RoadKit.cloneA X hx (s := s.setVm vm0) hZ hown w1 w2 w3 w4 w5 w6 e1 A E F (g := mkF m pc L (.ref a :: S)) rfl hsz rfl (Jvm.hb hB dd) hf (W := W) (by show 2 * 0 + (S.map fun v => v.category).sum ≤ W; omega) hl hcap hc hs
  obtain ⟨u1, u2, u3⟩ := updN hC hk hF E' A'.lt
  exact ⟨h.size, h', rfl, E', A', D', T', vm0, k0, locs, X', e2, hS, u2, hZ, hown, u1, hN, u3, ⟨hx, hB, hsz, hr⟩, fun t q => st t (st' t q)⟩
/-- ldc of a String constant that is only handed on -/
theorem Here.ldcO (H : Here k R Z EL n0 y B ret h0 ws h pc L S ce sl sf) (pc' : Nat) {index : Nat} {text : String} (w : (Jvm.Cond.stringLink y.cls index text).before a0 Z = true) (wS : ∀ a ∈ Bundle.stringAtoms, a.before a0 Z = true) (hEL : EW Z a0 EL) (dd : decode B pc = .ok (.ldc index, 2)) {n : Nat} (hn : 4 * text.toList.length ≤ n) (hbig : n ≤ 536870912) (hc : ce + 2 ≤ R.cells) (hl : sl + (n + 4) ≤ R.slots) (hp : pc + 2 = pc' := by rfl) :
    ∃ (a : Addr) (h' : Heap), Ext h h' ∧ Here k R Z EL n0 y B ret h0 ws h' pc' L (.ref a :: S) (ce + 2) (sl + (n + 4)) sf := by
  subst hp
  obtain ⟨p, l, e, s, m, args, below, meth, c, start⟩ := k
  obtain ⟨T, vm0, k0, locs, X, e1, hS, hk, hZ, hown, hC, hN, hF, ⟨hx, hB, hr⟩, st⟩ := H
  obtain ⟨a, T', h', k1, X', e2, E, hS', hk', hZ', hown', hCr, -, st'⟩ := ldcOH X hx hZ hown w wS e1 hS hk hEL hC.1 (g := mkF m pc L S) rfl (Jvm.hb hB dd) hn hbig hc hl
  obtain ⟨u1, u3⟩ := updC hC hF (extKeep E) all0 hCr
  exact ⟨a, h', E, T', T'.vm, k1, locs, X', e2, hS', hk', hZ', hown', u1, hN, u3, ⟨hx, hB, hr⟩, fun t q => st t (st' t q)⟩
/-- ldc of a String constant that is read -/
theorem Here.ldcR (H : Here k R Z EL n0 y B ret h0 ws h pc L S ce sl sf) (pc' : Nat) {index : Nat} {text : String} (w : (Jvm.Cond.stringLink y.cls index text).before a0 Z = true) (wS : ∀ a ∈ Bundle.stringAtoms, a.before a0 Z = true) (hEL : EW Z a0 EL) (hmem : (y.cls, index) ∈ EL) {vs : List Value} {z : Int32} (ht : (∀ c ∈ text.toList, c.toNat < 256) ∧ text.toList.map (fun c => Value.int (Jvm.Lit.byteI c.toNat.toUInt16)) = vs) (hz : ¬ z < 0) (hlz : z.toNatClampNeg = vs.length) (dd : decode B pc = .ok (.ldc index, 2)) {n : Nat} (hn : 4 * text.toList.length ≤ n) (hbig : n ≤ 536870912) (hc : ce + 2 ≤ R.cells) (hl : sl + (n + 4) ≤ R.slots) (hp : pc + 2 = pc' := by rfl) :
    ∃ (a : Addr) (h' : Heap) (b : Addr) (kc : ClassId), Ext h h' ∧ Exa Z h' a "java/lang/String" ∧ Fld Z h' a "java/lang/String" "coder" "B" (.int 0) ∧ Fld Z h' a "java/lang/String" "value" "[B" (.ref b) ∧ Arv Z h' b kc .byte z vs (.int 0) ∧ (∀ x ∈ sf, x ≠ a ∧ x ≠ b) ∧ Here k R Z EL n0 y B ret h0 ws h' pc' L (.ref a :: S) (ce + 2) (sl + (n + 4)) sf := by
  subst hp
  obtain ⟨p, l, e, s, m, args, below, meth, c, start⟩ := k
  obtain ⟨T, vm0, k0, locs, X, e1, hS, hk, hZ, hown, hC, hN, hF, ⟨hx, hB, hr⟩, st⟩ := H
  obtain ⟨a, T', h', k1, b, kc, X', e2, E, hS', hk', hZ', hown', x1, x2, x3, x4, -, -, hCr, -, hsafe, st'⟩ := ldcCH X hx hZ hown w wS e1 hS hk hEL hmem hC.1 ht hz hlz (g := mkF m pc L S) rfl (Jvm.hb hB dd) hn hbig hc hl
  obtain ⟨u1, u3⟩ := updC hC hF (extKeep E) all0 hCr
  exact ⟨a, h', b, kc, E, x1, x2, x3, x4, fun x q => hsafe x (u3.2.2.2 x q).1, T', T'.vm, k1, locs, X', e2, hS', hk', hZ', hown', u1, hN, u3, ⟨hx, hB, hr⟩, fun t q => st t (st' t q)⟩
end HeapSteps
section Calls
variable {k : Ctx} {R : Room} {Z : State} {EL : List (String × Nat)} {n0 : Nat} {y z : MethodName} {B bytes : ByteArray} {ret rt : Option FieldType} {h0 h : Heap} {ws ws' sf : List Addr} {pc index mx W kc ks : Nat} {L : Array Slot} {S argsL rest : List Value} {ce sl : Nat} {a0 : Array Value} {Q : Option Value → Heap → Prop}
theorem Here.callS (H : Here k R Z EL n0 y B ret h0 ws h pc L S ce sl sf) (pc' : Nat) (w1 : (Jvm.Cond.methodLink y.cls index z).before a0 Z = true) (w2 : (Jvm.Cond.static z).before a0 Z = true) (w3 : (Jvm.Cond.initialized z.cls).before a0 Z = true) (w4 : (Jvm.Cond.code z bytes mx rt).before a0 Z = true) (hy : z.cls ≠ "java/lang/invoke/MethodHandle" ∧ z.cls ≠ "java/lang/invoke/VarHandle")
    (P : Paid k R Z EL n0 z W argsL.toArray h ws' kc ks Q) (hlen : ∀ sig, parseMethodDescriptor z.desc = some sig → argsL.length = sig.parameters.length) (hS : S = argsL.reverse ++ rest) (hW : (rest.map fun v => v.category).sum ≤ W) (dd : decode B pc = .ok (.invokestatic index, 3)) (hc : ce + kc ≤ R.cells) (hl : sl + ks ≤ R.slots) (hws : ∀ x ∈ ws', x ∈ sf) (hp : pc + 3 = pc' := by rfl) :
    ∃ (v : Option Value) (h' : Heap), Q v h' ∧ Keep h h' ws' ∧ Here k R Z EL n0 y B ret h0 ws h' pc' L (v.toList ++ rest) (ce + kc) (sl + ks) sf := by
  subst hp hS
  obtain ⟨p, l, e, s, m, args, below, meth, c, start⟩ := k
  obtain ⟨T, vm0, k0, locs, X, e1, hS, hk, hZ, hown, hC, hN, hF, ⟨hx, hB, hsz, hr⟩, st⟩ := H
  obtain ⟨v, vm1, ⟨U, lo, c1, s1⟩, -, X', hS', hg, ⟨Lx, ⟨hQ, hK, hFr⟩, l1, c1e, s1e, hCr⟩, st'⟩ := callSS X hx (own := y.cls) hown (mvT (s := s.setVm vm0) hZ w1) (mvT (s := s.setVm vm0) hZ w2) (mvT (s := s.setVm vm0) hZ w3) (mvT (s := s.setVm vm0) hZ w4) hy (P vm0 hZ hC.1 fun x q => ⟨(hF.2.2.2 x (hws x q)).1, (hF.2.2.2 x (hws x q)).2.1⟩)
    (g := mkF m pc L (argsL.reverse ++ rest)) rfl hsz hlen rfl (by show 2 * 0 + (rest.map fun v => v.category).sum ≤ W; omega) (Jvm.hb hB dd) (fun _ _ => ⟨rfl, e1, hc, hl⟩)
  dsimp only [Pt.U, Pt.locs, Pt.cells, Pt.slots] at X' hS' hg hQ hK l1 c1e s1e hCr st'
  subst l1 c1e s1e
  obtain ⟨u1, u3⟩ := updC hC hF hK hws hCr
  exact ⟨v, U.heap, hQ, hK, U, U.vm, U.heap.size, _, X', rfl, hS.trans hS' (Nat.le_trans hk hK.1), Nat.le_refl _, State.Warmed39.trans (t := s.setVm vm0) hZ hS'.1, (hS'.1.alike.findClass _ _).trans hown, u1, Fr.app hN hFr, u3, ⟨hx, hB, hsz, hr⟩, fun t q => st t (st'.trans q)⟩
theorem Here.callI (H : Here k R Z EL n0 y B ret h0 ws h pc L S ce sl sf) (pc' : Nat) (hy1 : z.name = "<init>") (w1 : (Jvm.Cond.methodLink y.cls index z).before a0 Z = true) (w2 : (Jvm.Cond.instanceMethod z).before a0 Z = true) (w4 : (Jvm.Cond.code z bytes mx none).before a0 Z = true) (hy : z.cls ≠ "java/lang/invoke/MethodHandle" ∧ z.cls ≠ "java/lang/invoke/VarHandle") {a : Addr}
    (P : Paid k R Z EL n0 z W (.ref a :: argsL).toArray h ws' kc ks Q) (hlen : ∀ sig, parseMethodDescriptor z.desc = some sig → argsL.length = sig.parameters.length) (hS : S = argsL.reverse ++ .ref a :: rest) (hW : (rest.map fun v => v.category).sum ≤ W) (dd : decode B pc = .ok (.invokespecial index, 3)) (hc : ce + kc ≤ R.cells) (hl : sl + ks ≤ R.slots) (hws : ∀ x ∈ ws', x ∈ sf) (hp : pc + 3 = pc' := by rfl) :
    ∃ (v : Option Value) (h' : Heap), Q v h' ∧ Keep h h' ws' ∧ Here k R Z EL n0 y B ret h0 ws h' pc' L (v.toList ++ rest) (ce + kc) (sl + ks) sf := by
  subst hp hS
  obtain ⟨p, l, e, s, m, args, below, meth, c, start⟩ := k
  obtain ⟨T, vm0, k0, locs, X, e1, hS, hk, hZ, hown, hC, hN, hF, ⟨hx, hB, hsz, hr⟩, st⟩ := H
  obtain ⟨v, vm1, ⟨U, lo, c1, s1⟩, -, X', hS', hg, ⟨Lx, ⟨hQ, hK, hFr⟩, l1, c1e, s1e, hCr⟩, st'⟩ := X.specialBackS hx (own := y.cls) hy1 hown (mvT (s := s.setVm vm0) hZ w1) (mvT (s := s.setVm vm0) hZ w2) (mvT (s := s.setVm vm0) hZ w4) hy (P vm0 hZ hC.1 fun x q => ⟨(hF.2.2.2 x (hws x q)).1, (hF.2.2.2 x (hws x q)).2.1⟩)
    (g := mkF m pc L (argsL.reverse ++ .ref a :: rest)) rfl hsz (Steps.refl _) (a := a) hlen rfl (by show 2 * 0 + (rest.map fun v => v.category).sum ≤ W; omega) (Jvm.hb hB dd) (fun _ _ => ⟨rfl, e1, hc, hl⟩)
  dsimp only [Pt.U, Pt.locs, Pt.cells, Pt.slots] at X' hS' hg hQ hK l1 c1e s1e hCr st'
  subst l1 c1e s1e
  obtain ⟨u1, u3⟩ := updC hC hF hK hws hCr
  exact ⟨v, U.heap, hQ, hK, U, U.vm, U.heap.size, _, X', rfl, hS.trans hS' (Nat.le_trans hk hK.1), Nat.le_refl _, State.Warmed39.trans (t := s.setVm vm0) hZ hS'.1, (hS'.1.alike.findClass _ _).trans hown, u1, Fr.app hN hFr, u3, ⟨hx, hB, hsz, hr⟩, fun t q => st t (st'.trans q)⟩
theorem Here.callV (H : Here k R Z EL n0 y B ret h0 ws h pc L S ce sl sf) (pc' : Nat) {C : String} {z1 : MethodName} (w1 : (Jvm.Cond.methodLink y.cls index z1).before a0 Z = true) (w2 : (Jvm.Cond.declares z1).before a0 Z = true) (w3 : (Jvm.Cond.selects C z1 z).before a0 Z = true) (w4 : (Jvm.Cond.instanceMethod z).before a0 Z = true) (hy : z1.cls ≠ "java/lang/invoke/MethodHandle" ∧ z1.cls ≠ "java/lang/invoke/VarHandle") {a : Addr} (E : Exa Z h a C)
    (P : Paid k R Z EL n0 z W (.ref a :: argsL).toArray h ws' kc ks Q) (hlen : ∀ sig, parseMethodDescriptor z1.desc = some sig → argsL.length = sig.parameters.length) (hS : S = argsL.reverse ++ .ref a :: rest) (hW : (rest.map fun v => v.category).sum ≤ W) (dd : decode B pc = .ok (.invokevirtual index, 3)) (hc : ce + kc ≤ R.cells) (hl : sl + ks ≤ R.slots) (hws : ∀ x ∈ ws', x ∈ sf) (hp : pc + 3 = pc' := by rfl) (hz1 : z1 = z := by rfl) :
    ∃ (v : Option Value) (h' : Heap), Q v h' ∧ Keep h h' ws' ∧ Here k R Z EL n0 y B ret h0 ws h' pc' L (v.toList ++ rest) (ce + kc) (sl + ks) sf := by
  subst hz1
  subst hp hS
  obtain ⟨p, l, e, s, m, args, below, meth, c, start⟩ := k
  obtain ⟨T, vm0, k0, locs, X, e1, hS, hk, hZ, hown, hC, hN, hF, ⟨hx, hB, hsz, hr⟩, st⟩ := H
  obtain ⟨cB, kB, i1, i2, i3⟩ := isOf (s := s.setVm vm0) hZ e1 E
  obtain ⟨v, vm1, ⟨U, lo, c1, s1⟩, -, X', hS', hg, ⟨Lx, ⟨hQ, hK, hFr⟩, l1, c1e, s1e, hCr⟩, st'⟩ := X.virtualBackS hx (own := y.cls) hown (mvT (s := s.setVm vm0) hZ w1) (mvT (s := s.setVm vm0) hZ w2) (notFace_of_selects (args := args) (mvT (s := s.setVm vm0) hZ w3)) (mvT (s := s.setVm vm0) hZ w3) (mvT (s := s.setVm vm0) hZ w4) hy (P vm0 hZ hC.1 fun x q => ⟨(hF.2.2.2 x (hws x q)).1, (hF.2.2.2 x (hws x q)).2.1⟩) i1 i3
    (g := mkF m pc L (argsL.reverse ++ .ref a :: rest)) rfl hsz (Steps.refl _) hlen rfl (by show 2 * 0 + (rest.map fun v => v.category).sum ≤ W; omega) (Jvm.hb hB dd) (fun _ _ => ⟨rfl, e1, hc, hl⟩)
  dsimp only [Pt.U, Pt.locs, Pt.cells, Pt.slots] at X' hS' hg hQ hK l1 c1e s1e hCr st'
  subst l1 c1e s1e
  obtain ⟨u1, u3⟩ := updC hC hF hK hws hCr
  exact ⟨v, U.heap, hQ, hK, U, U.vm, U.heap.size, _, X', rfl, hS.trans hS' (Nat.le_trans hk hK.1), Nat.le_refl _, State.Warmed39.trans (t := s.setVm vm0) hZ hS'.1, (hS'.1.alike.findClass _ _).trans hown, u1, Fr.app hN hFr, u3, ⟨hx, hB, hsz, hr⟩, fun t q => st t (st'.trans q)⟩
end Calls
section NotIns
variable {k : Ctx} {R : Room} {Z : State} {EL : List (String × Nat)} {n0 : Nat} {y : MethodName} {B : ByteArray} {ret : Option FieldType} {h0 h : Heap} {ws sf : List Addr} {pc : Nat} {L : Array Slot} {S : List Value} {ce sl : Nat} {a0 : Array Value} {C K O Sp : String} {n : Nat}
theorem ns_root (w : (Jvm.Cond.noSuperclass O).before a0 Z = true) (wi : (Jvm.Cond.instantiable K n).before a0 Z = true) (hn : O ≠ K) : NS Z O K := by
  obtain ⟨c, k, h1, h2, h3, -, -⟩ := Cond.noSuperclass_spec w
  obtain ⟨t, kt, g1, -⟩ := Cond.instantiable_spec wi
  have ne := ids_ne h1 g1 hn
  refine ⟨c, t, h1, g1, fun fuel => ?_⟩
  cases fuel with
  | zero => rfl
  | succ f => simp [Vm.isSubclassAux, ne, h2, h3]
def NoIns (Z : State) (C K : String) : Prop := ∃ c t, Z.vm.findClass C = some c ∧ Z.vm.findClass K = some t ∧ Z.vm.assignable c t = false
theorem ns_no (w : (Jvm.Cond.superclass C Sp).before a0 Z = true) (wi : (Jvm.Cond.instantiable K n).before a0 Z = true) (nn : NS Z C K) (hn : C ≠ K) : NoIns Z C K := by
  obtain ⟨c, t, h0, g0, n3⟩ := nn
  obtain ⟨p, k, kp, h1, h2, h3, h4, h5, -, h7⟩ := Cond.superclass_spec h0 w
  obtain ⟨t', k', g1, g2, g5, g7, -⟩ := Cond.instantiable_spec wi
  cases g0.symm.trans g1
  have g8 : k'.isInterface = false := by cases hq : k'.isInterface <;> simp [hq] at g7 ⊢
  have ne := ids_ne h0 g0 hn
  refine ⟨c, t, h0, g0, ?_⟩
  show Z.vm.assignableAux (255 + 1) c t = false
  simp [Vm.assignableAux, ne, h2, g2, h5, g5, g8, Vm.isSubclass, n3]
theorem Here.instNo (H : Here k R Z EL n0 y B ret h0 ws h pc L (.ref a :: S) ce sl sf) (pc' : Nat) {index : Nat} (w : (Jvm.Cond.classLink y.cls index K).before a0 Z = true) (E : Exa Z h a C) (F : NoIns Z C K) (dd : decode B pc = .ok (.instanceof index, 3)) (hp : pc + 3 = pc' := by rfl) : Here k R Z EL n0 y B ret h0 ws h pc' L (.int 0 :: S) ce sl sf := by
  subst hp
  exact H.goT rfl fun p l e s m args below meth c T locs ce sl X e1 hZ hown hx hB hl hs => RoadKit.instNo X hx hZ hown w e1 E F (g := mkF m pc L (.ref a :: S)) rfl rfl (Jvm.hb hB dd)
theorem Here.instNull (H : Here k R Z EL n0 y B ret h0 ws h pc L (.null :: S) ce sl sf) (pc' : Nat) {index : Nat} (dd : decode B pc = .ok (.instanceof index, 3)) (hp : pc + 3 = pc' := by rfl) : Here k R Z EL n0 y B ret h0 ws h pc' L (.int 0 :: S) ce sl sf := by
  subst hp
  exact H.goT rfl fun p l e s m args below meth c T locs ce sl X e1 hZ hown hx hB hl hs => ⟨T, X, e1, X.instanceofNull hx (g := mkF m pc L (.null :: S)) rfl rfl (Jvm.hb hB dd)⟩
end NotIns
section More
variable {k : Ctx} {R : Room} {Z : State} {EL : List (String × Nat)} {n0 : Nat} {z : MethodName} {h h' : Heap} {ws' ws : List Addr} {W kc ks kc' ks' : Nat} {as' : Array Value} {Q Q' : Option Value → Heap → Prop}
theorem Paid.more (P : Paid k R Z EL n0 z W as' h ws' kc ks Q) (hc : kc ≤ kc') (hs : ks ≤ ks') : Paid k R Z EL n0 z W as' h ws' kc' ks' Q := by
  obtain ⟨p, l, e, s, m, args, below, meth, c, start⟩ := k
  intro vm0 hZ H hsf m meth c A g ig mk a X hg hsize hdg hW hn hp
  obtain ⟨v, D, X', hS, hgr, ⟨L, q1, q2, q3, q4, q5⟩, st⟩ := P vm0 hZ H hsf m meth c A g ig mk a X hg hsize hdg hW hn ⟨hp.1, hp.2.1, by have := hp.2.2.1; omega, by have := hp.2.2.2; omega⟩
  exact ⟨v, ⟨D.U, D.locs, A.cells + kc', A.slots + ks'⟩, X'.more (by show D.cells ≤ A.cells + kc'; rw [q3]; omega) (by show D.slots ≤ A.slots + ks'; rw [q4]; omega), hS, hgr, ⟨L, q1, q2, rfl, rfl, q5⟩, st⟩
theorem Paid.mono (P : Paid k R Z EL n0 z W as' h ws' kc ks Q) (hq : ∀ v h', Q v h' → Q' v h') : Paid k R Z EL n0 z W as' h ws' kc ks Q' := by
  obtain ⟨p, l, e, s, m, args, below, meth, c, start⟩ := k
  intro vm0 hZ H hsf m meth c A g ig mk a X hg hsize hdg hW hn hp
  obtain ⟨v, D, X', hS, hgr, ⟨L, q1, q2⟩, st⟩ := P vm0 hZ H hsf m meth c A g ig mk a X hg hsize hdg hW hn hp
  exact ⟨v, D, X', hS, hgr, ⟨L, ⟨hq _ _ q1.1, q1.2⟩, q2⟩, st⟩
theorem keepExt (K : Keep h h' []) : Ext h h' := ⟨K.1, fun a c q => K.2.1 a c q nin0⟩
theorem Ext.refl' (h : Heap) : Ext h h := ⟨Nat.le_refl _, fun _ _ q => q⟩
theorem Ext.trans' {h1 : Heap} (E : Ext h h1) (F : Ext h1 h') : Ext h h' := ⟨Nat.le_trans E.1 F.1, fun a c q => F.2 a c (E.2 a c q)⟩
/-- what stood in hA stands still: only later cells were written -/
theorem Ext.keep' {hA : Heap} (E : Ext hA h) (K : Keep h h' ws) (hw : ∀ x ∈ ws, hA.size ≤ x) : Ext hA h' := ⟨Nat.le_trans E.1 K.1, fun a c q => K.2.1 a c (E.2 a c q) fun hm => absurd (Array.getElem?_eq_some_iff.mp q).1 (Nat.not_lt.mpr (hw a hm))⟩
theorem staOld {C n d : String} {v : Value} (F : Sta Z Z.heap C n d v) (O : Old Z n0 h) : Sta Z h C n d v := F.ext O.2
theorem nar_char {x : Int32} (h0 : ¬ x < 0) (h1 : ¬ 65535 < x) : nar .char x = x := by
  obtain ⟨q1, q2, q3⟩ := c_i2c x
  have e : nar .char x = x.toUInt32.toUInt16.toUInt32.toInt32 := rfl
  rw [e]
  rw [Int32.lt_iff_toInt_lt] at h0 h1
  have e0 : (0 : Int32).toInt = 0 := rfl
  have e1 : (65535 : Int32).toInt = 65535 := rfl
  exact Int32.toInt_inj.mp (by omega)
end More
section Exc0
open Jvm.Free.Exc
variable {k : Ctx} {R rm : Room} {Z : State} {EL : List (String × Nat)} {n0 : Nat} {y z : MethodName} {B bytes : ByteArray} {ret rt : Option FieldType} {h0 h h' : Heap} {ws ws' sf : List Addr} {pc : Nat} {L : Array Slot} {S : List Value} {ce sl mx : Nat} {a0 as' : Array Value} {Q : Option Value → Heap → Prop}
/-- the launch fills in stack traces and the frames beneath are known -/
def KnownC (k : Ctx) (Z : State) : Prop :=
  match k with
  | (p, l, e, s, m, args, below, meth, c, start) => l.stackTraces = true ∧ Z.vm.FramesKnown below
def MetK (Z : State) (EL : List (String × Nat)) (n0 : Nat) (y : MethodName) (B : ByteArray) (mx : Nat) (ret : Option FieldType) (rm : Room) (as' : Array Value) (h : Heap) (ws : List Addr) (Q : Option Value → Heap → Prop) : Prop :=
  ∀ (l : Launch) (wds : List Jvm.Cond), l.stackTraces = true → MetFree l y (head1 (Jvm.Cond.code y B mx ret :: wds) rm) (fun a U => a = as' ∧ Z.Warmed39 U.vm ∧ U.heap = h ∧ CHv Z EL U.vm h ∧ ∀ x ∈ ws, Safe Z EL U.vm h x) (fun _ _ bl s _ => s.vm.MethodsKnown ∧ s.vm.FramesKnown bl)
    (fun _ U o U' => ∃ v L, o = .returned v ∧ (Q v U'.heap ∧ Keep h U'.heap ws ∧ Fr n0 L) ∧ CHr Z EL U.vm U.heap U'.vm U'.heap ∧ ReturnedEndW U o U' L rm.cells rm.slots)
theorem MetK.of_walk {L0 : Array Slot} (pn : plainName y.cls = true) (hEL : EW Z a0 EL) (hO : Old Z n0 h) (hws : ∀ x ∈ ws, x < h.size ∧ n0 ≤ x) (ef : ∀ m, entryFrame m as' mx = mkF m 0 L0 []) (hL : L0.size = mx)
    (body : ∀ k : Ctx, KnownC k Z → Here k rm Z EL n0 y B ret h ws h 0 L0 [] 0 0 ws → Done k rm Z EL n0 h ws Q) : MetK Z EL n0 y B mx ret rm as' h ws Q := by
  intro l wds hl
  refine MetFree.of_bodySF (plainFor_of_name pn) hisR ?_
  intro p e s m args below meth c s₁ Bd hml0 hP hK
  obtain ⟨rfl, hZ, hh, hC, hsf⟩ := hP
  have X0 : Stand p l e rm s m args below meth c s₁ [] 0 0 := Stand.of_body Bd
  have e0 : s₁.heap = h := by rw [← hh, Bd.state]; rfl
  have H : Here (p, l, e, s, m, args, below, meth, c, s₁.setTop (entryFrame m args mx)) rm Z EL n0 y B ret h ws h 0 L0 [] 0 0 ws :=
    ⟨s₁, s.vm, 0, [], X0, e0, (State.WarmedH.refl s).since 0, Nat.zero_le _, hZ, findClass_of_methodNamed Bd.named, by rw [hh]; exact CHr.refl hC, Fr.nil n0, ⟨hh, Keep.refl _ _, hO, fun x q => ⟨hsf x q, (hws x q).1, (hws x q).2, Or.inl q⟩⟩,
      ⟨Bd.exec, Bd.bytes, hL.trans hml0.symm, Bd.returns, (name_of_methodNamed Bd.named Bd.method).1, BodyLoose.notSynchronized Bd, a0, hEL⟩, fun t q => castTop (ef m) q⟩
  exact body _ ⟨hl, Vm.FramesKnown.alikeC hZ.alike.symm hK.2⟩ H
theorem Paid.of_metK {W : Nat} (hkn : KnownC k Z) (hTK : Z.vm.MethodsKnown) (hM : MetK Z EL n0 z bytes mx rt rm as' h ws' Q) (wc : (Jvm.Cond.code z bytes mx rt).before a0 Z = true) (wz : (Jvm.Cond.initialized z.cls).before a0 Z = true) (hEL : EW Z a0 EL) (hf : rm.frames + 1 ≤ R.frames) (hl : W + (mx + 11) + rm.locals ≤ R.locals) :
    Paid k R Z EL n0 z W as' h ws' rm.cells rm.slots Q := by
  obtain ⟨p, l, e, s, m, args, below, meth, c, start⟩ := k
  obtain ⟨hl1, hbl⟩ := hkn
  intro vm0 hZ H hsf
  exact BackS.of_freeWG (bytes := bytes) (maxL := mx) (ret := rt) (E := fun _ first o t L kk n => kk = rm.cells ∧ n = rm.slots ∧ (∃ v, o = .returned v ∧ Q v t.heap ∧ Keep h t.heap ws' ∧ Fr n0 L) ∧ CHr Z EL first.vm first.heap t.vm t.heap) (hM l [] hl1) hf hl
    (fun m meth c A a Y hp => have hU : Z.Warmed39 A.U.vm := wtrans (s := s.setVm vm0) hZ Y.warmed
      ⟨by show (Jvm.Cond.and _ .tt).before a A.U = true; rw [Cond.before_and, mv hU wc]; rfl, mv hU wc, mv hU wz, hp.2.2.1, hp.2.2.2⟩)
    (fun m meth c A a g mk Y hp => ⟨hp.1, wtrans (s := s.setVm vm0) hZ Y.warmed, hp.2.1, (CHv.at Y hZ hEL H).1, fun x q => (CHv.at Y hZ hEL H).safe (hsf x q).2 (hsf x q).1⟩)
    (fun m meth c A a g mk Y _ hg => known_frames Y hg (Vm.MethodsKnown.alikeC hZ.alike hTK) (Vm.FramesKnown.alikeC hZ.alike hbl))
    (fun _ _ _ _ ⟨v, L, h1, h2, h3, h4⟩ => ⟨L, _, _, h4, rfl, rfl, ⟨v, h1, h2⟩, h3⟩)
    (fun m meth c A a g mk v t L kk n Y hp _ _ ⟨e1, e2, ⟨v', e3, e4⟩, e5⟩ => by
      cases e3; subst e1 e2
      refine ⟨L, e4, rfl, rfl, rfl, (CHv.at Y hZ hEL H).trans ?_⟩
      rw [← hp.2.1]; exact e5)
/-- 'new', with the fresh cell's monitor -/
theorem Here.newU (H : Here k R Z EL n0 y B ret h0 ws h pc L S ce sl sf) (pc' : Nat) {index n : Nat} {C : String} (w : (Jvm.Cond.classLink y.cls index C).before a0 Z = true) (wi : (Jvm.Cond.instantiable C n).before a0 Z = true) (wz : (Jvm.Cond.initialized C).before a0 Z = true) (dd : decode B pc = .ok (.new index, 3)) (hc : ce + 1 ≤ R.cells) (hl : sl + n ≤ R.slots) (hp : pc + 3 = pc' := by rfl) :
    ∃ (b : Addr) (h' : Heap), b = h.size ∧ Ext h h' ∧ Exa Z h' b C ∧ Unt h' b ∧ (∀ {O nm d : String} {ty : FieldType}, Laid Z a0 C O nm d → parseFieldDescriptor d = some ty → Fld Z h' b O nm d (defaultValue ty)) ∧ Here k R Z EL n0 y B ret h0 ws h' pc' L (.ref b :: S) (ce + 1) (sl + n) (b :: sf) := by
  subst hp
  obtain ⟨p, l, e, s, m, args, below, meth, c, start⟩ := k
  obtain ⟨T, vm0, k0, locs, X, e1, hS, hk, hZ, hown, hC, hN, hF, ⟨hx, hB, hr⟩, st⟩ := H
  obtain ⟨T', h', X', e2, E, A, D, N, st'⟩ := RoadKit.newO X hx (s := s.setVm vm0) hZ hown w wi wz e1 (g := mkF m pc L S) rfl (Jvm.hb hB dd) hc hl
  obtain ⟨u1, u2, u3⟩ := updN hC hk hF E A.lt
  exact ⟨h.size, h', rfl, E, A, N, D, T', vm0, k0, locs, X', e2, hS, u2, hZ, hown, u1, hN, u3, ⟨hx, hB, hr⟩, fun t q => st t (st' t q)⟩
/-- the constructor (String) of a Throwable's subclass, called on an object of the walk's own -/
theorem Here.exc1 {msg : Value} {a : Addr} (H : Here k R Z EL n0 y B ret h0 ws h pc L (msg :: .ref a :: S) ce sl sf) (pc' : Nat) (hkn : KnownC k Z) (hTK : Z.vm.MethodsKnown) (hO0 : Old Z n0 h0) {rc : String} {links : List Link} {ic n : Nat} (hok : linksOk 1 links = true)
    (w1 : (Jvm.Cond.methodLink y.cls ic (ctor 1 (headName links))).before a0 Z = true) (w2 : (Jvm.Cond.instanceMethod (ctor 1 (headName links))).before a0 Z = true) (wT : (chainTab 1 rc links).before a0 Z = true) (wi : (Jvm.Cond.instantiable rc n).before a0 Z = true) (r : ∀ d ∈ twoRefs, d.before a0 Z = true)
    (E : Exa Z h a rc) (N : Unt h a) (B1 : Fld Z h a tN "backtrace" obD .null) (B2 : Fld Z h a tN "detailMessage" msgD .null) (hmsg : msg.isRef = true) (dd : decode B pc = .ok (.invokespecial ic, 3)) (hf : 4 + links.length ≤ R.frames) {W : Nat} (hW : (S.map fun v => v.category).sum ≤ W) (hlo : W + (56 + 14 * links.length) ≤ R.locals) (hc : ce + 1 ≤ R.cells) (hsl : sl + 2752 ≤ R.slots) (ha : a ∈ sf) (hp : pc + 3 = pc' := by rfl) :
    ∃ h' : Heap, Kp Z h h' a ∧ Keep h h' [a] ∧ Exa Z h' a rc ∧ Fld Z h' a tN "detailMessage" msgD msg ∧ Here k R Z EL n0 y B ret h0 ws h' pc' L S (ce + 1) (sl + 2752) sf := by
  subst hp
  have hOh := H.old
  obtain ⟨p, l, e, s, m, args, below, meth, c, start⟩ := k
  obtain ⟨T, vm0, k0, locs, X, e1, hS, hk, hZ, hown, hC, hN, hF, ⟨hx, hB, hsz, hr⟩, st⟩ := H
  obtain ⟨T', h', X', e2, K, E', N', M', -, -, st'⟩ := RoadKit.excL1 X hx hkn.1 (s := s.setVm vm0) hZ (own := y.cls) hown hok w1 w2 wT wi r (by show ThS Z s.heap; rw [hF.1]; exact ThS.start.ext hO0.2) (ThS.start.ext hOh) (Vm.MethodsKnown.alikeC hZ.alike hTK) (Vm.FramesKnown.alikeC hZ.alike hkn.2) e1 E N B1 B2 hmsg
    (g := mkF m pc L (msg :: .ref a :: S)) rfl hsz rfl (Jvm.hb hB dd) hf (by show 2 * 0 + (S.map fun v => v.category).sum + _ ≤ _; omega) hc hsl
  obtain ⟨u1, u2, u3⟩ := upd hC hk hF (keep_of_kp K) (allS ha all0)
  exact ⟨h', K, keep_of_kp K, E', M', T', vm0, k0, _, X', e2, hS, u2, hZ, hown, u1, Fr.six hN (hF.2.2.2 a ha).2.2.1, u3, ⟨hx, hB, hsz, hr⟩, fun t q => st t (st' t q)⟩
/-- a virtual call whose entry names a subclass of the declaring class -/
theorem Here.callU {index W kc ks : Nat} {argsL rest : List Value} (H : Here k R Z EL n0 y B ret h0 ws h pc L S ce sl sf) (pc' : Nat) {C owner : String} {z1 : MethodName} (w1 : (Jvm.Cond.methodLink y.cls index z1).before a0 Z = true) (w2 : (Jvm.Cond.sameMethod z1.cls owner z1.name z1.desc).before a0 Z = true) (w2' : (Jvm.Cond.declares ⟨owner, z1.name, z1.desc⟩).before a0 Z = true) (w3 : (Jvm.Cond.selects C z1 z).before a0 Z = true) (w4 : (Jvm.Cond.instanceMethod z).before a0 Z = true) (hy : owner ≠ "java/lang/invoke/MethodHandle" ∧ owner ≠ "java/lang/invoke/VarHandle") {a : Addr} (E : Exa Z h a C)
    (P : Paid k R Z EL n0 z W (.ref a :: argsL).toArray h ws' kc ks Q) (hlen : ∀ sig, parseMethodDescriptor z1.desc = some sig → argsL.length = sig.parameters.length) (hS : S = argsL.reverse ++ .ref a :: rest) (hW : (rest.map fun v => v.category).sum ≤ W) (dd : decode B pc = .ok (.invokevirtual index, 3)) (hc : ce + kc ≤ R.cells) (hl : sl + ks ≤ R.slots) (hws : ∀ x ∈ ws', x ∈ sf) (hp : pc + 3 = pc' := by rfl) :
    ∃ (v : Option Value) (h' : Heap), Q v h' ∧ Keep h h' ws' ∧ Here k R Z EL n0 y B ret h0 ws h' pc' L (v.toList ++ rest) (ce + kc) (sl + ks) sf := by
  subst hp hS
  obtain ⟨p, l, e, s, m, args, below, meth, c, start⟩ := k
  obtain ⟨T, vm0, k0, locs, X, e1, hS, hk, hZ, hown, hC, hN, hF, ⟨hx, hB, hsz, hr⟩, st⟩ := H
  obtain ⟨cB, kB, i1, i2, i3⟩ := isOf (s := s.setVm vm0) hZ e1 E
  obtain ⟨v, vm1, ⟨U, lo, c1, s1⟩, -, X', hS', hg, ⟨Lx, ⟨hQ, hK, hFr⟩, l1, c1e, s1e, hCr⟩, st'⟩ := X.virtualBackUpS hx (own := y.cls) hown (mvT (s := s.setVm vm0) hZ w1) (mvT (s := s.setVm vm0) hZ w2) (mvT (s := s.setVm vm0) hZ w2') hy (mvT (s := s.setVm vm0) hZ w3) (mvT (s := s.setVm vm0) hZ w4) (P vm0 hZ hC.1 fun x q => ⟨(hF.2.2.2 x (hws x q)).1, (hF.2.2.2 x (hws x q)).2.1⟩) i1 i3
    (g := mkF m pc L (argsL.reverse ++ .ref a :: rest)) rfl hsz (Steps.refl _) hlen rfl (by show 2 * 0 + (rest.map fun v => v.category).sum ≤ W; omega) (Jvm.hb hB dd) (fun _ _ => ⟨rfl, e1, hc, hl⟩)
  dsimp only [Pt.U, Pt.locs, Pt.cells, Pt.slots] at X' hS' hg hQ hK l1 c1e s1e hCr st'
  subst l1 c1e s1e
  obtain ⟨u1, u3⟩ := updC hC hF hK hws hCr
  exact ⟨v, U.heap, hQ, hK, U, U.vm, U.heap.size, _, X', rfl, hS.trans hS' (Nat.le_trans hk hK.1), Nat.le_refl _, State.Warmed39.trans (t := s.setVm vm0) hZ hS'.1, (hS'.1.alike.findClass _ _).trans hown, u1, Fr.app hN hFr, u3, ⟨hx, hB, hsz, hr⟩, fun t q => st t (st'.trans q)⟩
end Exc0
/-! Throwable.fillInStackTrace() on an object of the walk's own, where the sheet lacks the word `wMiss` -/
section Fill0
open Jvm.Free.Exc Jvm.Lib.Cold LibCode.Throwable
abbrev wMiss : Jvm.Cond := .lays tN tN "suppressedExceptions" listD
set_option maxRecDepth 65536 in
set_option maxHeartbeats 4000000 in
theorem own_links {rc : String} (hrc : rc ≠ tN) {args : Array Value} {s : State} {pl : Platform} (ho : pl.frameOwnsMonitors = true) (hf : pl.finalization = false) (hp : pl.magicAccessors = ({} : Platform).magicAccessors)
    (hh : ∀ c ∈ excAtoms rc, c ≠ wMiss → c.before args s = true) :
    ∃ T : ThrowableC, T.Links pl s ∧ s.vm.findClass tN = some T.cT ∧ s.methodNamed? tFill = some T.fill ∧ s.methodNamed? tFill0 = some T.fill0 ∧ s.fieldFound? tN "stackTrace" steD = some (T.cT, T.kT, T.i17, T.fStack) ∧ s.fieldFound? tN "UNASSIGNED_STACK" steD = some (T.cT, T.kT, T.i13, T.fUnassigned) ∧ T.fStack.type = .array (.object "java/lang/StackTraceElement") := by
  have W : ∀ c ∈ excAtoms rc, c ≠ wMiss → c.holds args s none s [] = true := fun c h1 h2 => hh c h1 h2
  -- the class
  obtain ⟨⟨c, ix0⟩, m0, n0', d0, na0, co0, lk0, sg0⟩ := Cond.native_spec (W (.native tFill0) (by simp [excAtoms, throwableAtoms]) (by simp))
  have fc : s.vm.findClass tN = some c := findClass_of_methodNamed n0'
  obtain ⟨k, kc, kn⟩ := Vm.findClass_spec fc
  obtain ⟨_, k', _, _, kc', _, _, -, _, nint⟩ := Cond.superclass_spec fc (W (.superclass tN "java/lang/Object") (by simp [excAtoms, throwableAtoms]) (by simp))
  cases Option.some.inj (kc.symm.trans kc')
  -- the methods
  obtain ⟨ix1, m1, n1', d1, at1, st1, ab1, -, -⟩ := Cond.ownMethod (x := tFill) fc kc (W (.instanceMethod tFill) (by simp [excAtoms, throwableAtoms]) (by simp))
  obtain ⟨m1', co1, d1', cd1, by1, lo1, re1, sy1, -, sg1⟩ := Cond.codeSync_spec n1' (W (.codeSync tFill Fill.code 1 (some (.object tN))) (by simp [excAtoms, throwableAtoms]) (by simp))
  cases Option.some.inj (d1.symm.trans d1')
  obtain ⟨ix0', m0', n0'', d0', at0, st0, ab0, nm0, ds0⟩ := Cond.ownMethod (x := tFill0) fc kc (W (.instanceMethod tFill0) (by simp [excAtoms, throwableAtoms]) (by simp))
  have e0 : ix0 = ix0' := by have := Option.some.inj (n0'.symm.trans n0''); simpa using this
  subst e0
  cases Option.some.inj (d0.symm.trans d0')
  obtain ⟨mo, m2, n2', d2, st2, ab2⟩ := Cond.instanceMethod_spec (W (.instanceMethod oInit) (by simp [excAtoms, throwableAtoms]) (by simp))
  obtain ⟨m2', co2, d2', cd2, by2, lo2, -, sy2, -, sg2⟩ := Cond.code_spec n2' (W (.code oInit ⟨#[0xb1]⟩ 1 none) (by simp [excAtoms, throwableAtoms]) (by simp))
  cases Option.some.inj (d2.symm.trans d2')
  obtain ⟨ko, kco, kno⟩ := Vm.findClass_spec (findClass_of_methodNamed n2')
  obtain ⟨on, od⟩ := name_of_methodNamed n2' d2
  -- the links
  obtain ⟨p1, q1, cf, l1, r1, f1, w1⟩ := Cond.linkedMethod fc kc n2' (W (.methodLink tN 1 oInit) (by simp [excAtoms, throwableAtoms]) (by simp)) pl hp
  obtain ⟨p2, q2, cf2, l2, r2, f2, w2⟩ := Cond.linkedMethod fc kc n1' (W (.methodLink tN 27 tFill) (by simp [excAtoms, throwableAtoms]) (by simp)) pl hp
  cases Option.some.inj (f1.symm.trans f2)
  obtain ⟨p3, q3, cf3, l3, r3, f3, w3⟩ := Cond.linkedMethod fc kc n0' (W (.methodLink tN 202 tFill0) (by simp [excAtoms, throwableAtoms]) (by simp)) pl hp
  cases Option.some.inj (f1.symm.trans f3)
  -- the fields: by the words on rc
  have lc := W (.lays rc tN "cause" thD) (by simp [excAtoms]) (by simp [wMiss])
  have ls := W (.lays rc tN "stackTrace" steD) (by simp [excAtoms]) (by simp [wMiss])
  have lp := W (.lays rc tN "suppressedExceptions" listD) (by simp [excAtoms]) (by intro q; injection q with q1; exact hrc q1)
  have lm := W (.lays rc tN "detailMessage" msgD) (by simp [excAtoms]) (by simp [wMiss])
  obtain ⟨a7, i7, g7, x7, y7, z7, s7, f7, nm7, ty7, ff7⟩ := Cond.ownField (t := .object tN) fc kc (by decide +kernel) (W (.fieldLink tN 7 tN "cause" thD) (by simp [excAtoms, throwableAtoms]) (by simp)) lc pl hp
  obtain ⟨a17, i17, g17, x17, y17, z17, s17, f17, nm17, ty17, ff17⟩ := Cond.ownField (t := .array (.object "java/lang/StackTraceElement")) fc kc (by decide +kernel) (W (.fieldLink tN 17 tN "stackTrace" steD) (by simp [excAtoms, throwableAtoms]) (by simp)) ls pl hp
  obtain ⟨a24, i24, g24, x24, y24, z24, s24, f24, nm24, ty24, ff24⟩ := Cond.ownField (t := .object "java/util/List") fc kc (by decide +kernel) (W (.fieldLink tN 24 tN "suppressedExceptions" listD) (by simp [excAtoms, throwableAtoms]) (by simp)) lp pl hp
  obtain ⟨a13, i13, g13, aS, cS, x13, y13, z13, s13, -, -, sa, -, -, -, -, ff13⟩ := Cond.ownStatic (t := .array (.object "java/lang/StackTraceElement")) fc kc (by decide +kernel) (W (.fieldLink tN 13 tN "UNASSIGNED_STACK" steD) (by simp [excAtoms, throwableAtoms]) (by simp)) (W (.laysStatic tN "UNASSIGNED_STACK" steD) (by simp [excAtoms, throwableAtoms]) (by simp)) pl hp
  obtain ⟨a20, i20, g20, _, _, x20, y20, z20, s20, -⟩ := Cond.ownStatic (t := .object "java/util/List") fc kc (by decide +kernel) (W (.fieldLink tN 20 tN "SUPPRESSED_SENTINEL" listD) (by simp [excAtoms, throwableAtoms]) (by simp)) (W (.laysStatic tN "SUPPRESSED_SENTINEL" listD) (by simp [excAtoms, throwableAtoms]) (by simp)) pl hp
  obtain ⟨cX, kX, _, _, _, gM, fX, kcX, ffM, sM, fM, -⟩ := Cond.lays_spec lm
  obtain ⟨-, dS, hdS, hnS⟩ := Cond.laysAt fX kcX ff17 ls
  obtain ⟨-, dP, hdP, hnP⟩ := Cond.laysAt fX kcX ff24 lp
  have apart := Cond.laysApart hdS hdP hnS hnP (by rw [nm17, nm24]; decide)
  have par : ∀ {d : String} {m : Method} {ps : List FieldType}, (parseMethodDescriptor d).map (·.parameters) = some ps → parseMethodDescriptor d = some m.sig → m.sig.parameters = ps := fun h1 h2 => by rw [h2] at h1; simpa using h1
  have u1 : m1.sig.parameters = [] := par (d := tFill.desc) (by decide +kernel) sg1
  have u0 : m0.sig.parameters = [.int] := par (d := tFill0.desc) (by decide +kernel) sg0
  have u2 : m2.sig.parameters = [] := par (d := oInit.desc) (by decide +kernel) sg2
  refine ⟨ThrowableC.mk (ThrowableT.mk c k c aS ix1 ix0 ix1 mo ko m1 m0 m1 m2 co1 co1 co2 g7 g7 g17 g7 g24 gM g13 g20) cf p1 q1 p2 q2 p3 q3 a7 i7 a13 i13 a17 i17 a20 i20 a24 i24, ?_, fc, n1', n0', ff17, ff13, ty17⟩
  constructor
  all_goals first | assumption | exact Vm.findClass_boot fc kc | exact Cond.initialized_spec fc kc (W (.initialized tN) (by simp [excAtoms, throwableAtoms]) (by simp)) | (show List.length _ = 0; rw [u2]; rfl) | (rw [od]; exact lookupSpecial_of_named n2' d2 st2 ab2) | (rw [od]; exact lookupSpecial_of_named n2' d2 st2)
variable {k : Ctx} {R : Room} {Z : State} {EL : List (String × Nat)} {n0 : Nat} {y : MethodName} {B : ByteArray} {ret : Option FieldType} {h0 h : Heap} {ws sf : List Addr} {pc : Nat} {L : Array Slot} {S : List Value} {ce sl : Nat} {a0 : Array Value}
set_option maxRecDepth 65536 in
set_option maxHeartbeats 4000000 in
theorem Here.fill {a u : Addr} {rc : String} {kk : Nat} (H : Here k R Z EL n0 y B ret h0 ws h pc L (.ref a :: S) ce sl sf) (pc' : Nat) (hkn : KnownC k Z) (hTK : Z.vm.MethodsKnown) (hO0 : Old Z n0 h0) (hy : y.cls = tN) (hrc : rc ≠ tN) (hw : ∀ c ∈ excAtoms rc, c ≠ wMiss → c.before a0 Z = true) (wi : (Jvm.Cond.instantiable rc kk).before a0 Z = true)
    (E : Exa Z h a rc) (N : Unt h a) (Su : Sta Z Z.heap tN "UNASSIGNED_STACK" steD (.ref u)) (F : Fld Z h a tN "stackTrace" steD (.ref u)) (Bk : Fld Z h a tN "backtrace" obD .null) (dd : decode B pc = .ok (.invokevirtual 27, 3)) (hf : 3 ≤ R.frames) {W : Nat} (hW : (S.map fun v => v.category).sum ≤ W) (hlo : W + 42 ≤ R.locals) (hc : ce + 1 ≤ R.cells) (hsl : sl + 2752 ≤ R.slots) (ha : a ∈ sf) (hp : pc + 3 = pc' := by rfl) :
    ∃ h' : Heap, Keep h h' [a] ∧ (∀ O n d v, Fld Z h a O n d v → RoadKit.slotOf Z O n d ≠ RoadKit.slotOf Z tN "backtrace" obD → RoadKit.slotOf Z O n d ≠ RoadKit.slotOf Z tN "depth" "I" → RoadKit.slotOf Z O n d ≠ RoadKit.slotOf Z tN "stackTrace" steD → Fld Z h' a O n d v) ∧ Here k R Z EL n0 y B ret h0 ws h' pc' L (.ref a :: S) (ce + 1) (sl + 2752) sf := by
  subst hp
  have hOh := H.old
  obtain ⟨p, l, e, s, m, args, below, meth, c, start⟩ := k
  obtain ⟨T, vm0, k0, locs, X, e1, hS, hk, hZ, hown, hC, hN, hF, ⟨hx, hB, hsz, hr⟩, st⟩ := H
  obtain ⟨kn1, kn2⟩ := hkn
  have hT0 : ThS Z (s.setVm vm0).heap := by show ThS Z s.heap; rw [hF.1]; exact ThS.start.ext hO0.2
  have W1 : ∀ d ∈ excAtoms rc, d ≠ wMiss → d.before args (s.setVm vm0) = true := fun d hd hne => mvX hT0 hZ (List.all_eq_true.mp exc_ok d hd) (hw d hd hne)
  have hal : Z.vm.Alike (s.setVm vm0).vm := hZ.alike
  have fnd : ∀ {O n d : String} {cf : ClassId} {kf : Class} {i : Nat} {f : Field}, Z.fieldFound? O n d = some (cf, kf, i, f) → ∃ k2, (s.setVm vm0).fieldFound? O n d = some (cf, k2, i, f) := fun q => by
    obtain ⟨k2, q2, -⟩ := State.fieldFound?_setVm (s := Z) hal q
    exact ⟨k2, q2⟩
  obtain ⟨TT, LL, t1, t2, t3, t4, t5, t6⟩ := own_links hrc (args := args) (pl := e.platform) (by rw [X.admits.platform]) (by rw [X.admits.platform]) (by rw [X.admits.platform]) W1
  have hpl : e.platform.magicAccessors = ({} : Platform).magicAccessors := by rw [X.admits.platform]
  have htr : e.platform.stackTraces = true := by rw [X.admits.platform]; exact kn1
  have A1 : ∀ d ∈ excAtoms rc, d ≠ wMiss → d.holds args (s.setVm vm0) none (s.setVm vm0) [] = true := fun d h1 h2 => W1 d h1 h2
  -- the object
  obtain ⟨cell, kc, o1, o2, o3, o4, o5⟩ := E
  obtain ⟨_, v1, v2, v3⟩ := N
  cases o1.symm.trans v1
  obtain ⟨_, k9, j1, j2, j3, -⟩ := Cond.instantiable_spec wi
  cases o2.symm.trans j1
  cases o3.symm.trans j2
  obtain ⟨kX, x1, x2⟩ := hal.2.2 _ _ o3
  have cX : (s.setVm vm0).vm.findClass rc = some cell.cls := by rw [hal.findClass]; exact o2
  obtain ⟨_, cfs, kfs, ifs, fs, b1, b2, -, -, -, -, b7⟩ := F
  cases o1.symm.trans b1
  obtain ⟨_, cfb, kfb, ifb, fB, d1, d2, -, -, -, -, d7⟩ := Bk
  cases o1.symm.trans d1
  obtain ⟨_, q4⟩ := fnd b2
  cases q4.symm.trans t4
  -- the statics
  obtain ⟨cfU, iU, kU, fU, aU, cU, u1, u2, u3, u4, u5, u6, u7⟩ := Su.ext hOh
  obtain ⟨_, q5⟩ := fnd u1
  obtain ⟨kU', q6, q7⟩ := State.fieldFound?_setVm (s := Z) hal u1
  have q6' : (s.setVm vm0).fieldFound? tN "UNASSIGNED_STACK" steD = some (cfU, kU', iU, fU) := q6
  cases q6'.symm.trans t5
  have eaS : TT.aS = aU := by
    have h1 := LL.statics
    rw [q7] at h1
    exact (Option.some.inj (u4.symm.trans h1)).symm
  have hcell : h[a]? = some cell := o1
  have neS : TT.aS ≠ a := fun q => by
    rw [eaS] at q; subst q
    cases hcell.symm.trans u5
    rw [v2] at u6; cases u6
  -- the fields that are filled
  have lS := A1 (.lays rc tN "stackTrace" steD) (by simp [excAtoms]) (by simp [wMiss])
  have lB := A1 (.lays rc tN "backtrace" obD) (by simp [excAtoms]) (by simp [wMiss])
  have lD := A1 (.lays rc tN "depth" "I") (by simp [excAtoms]) (by simp [wMiss])
  obtain ⟨c8, i8, fb, w1, w2, w3, w4, -, w6, w7, w8⟩ := Cond.ownField (t := .object "java/lang/Object") t1 LL.cls (by decide +kernel) (A1 (.fieldLink tN 198 tN "backtrace" obD) (by simp [excAtoms]) (by simp)) lB e.platform hpl
  obtain ⟨_, q8⟩ := fnd d2
  cases q8.symm.trans w8
  obtain ⟨_, _, cd, kd, idd, fd, -, -, g3, g4, -⟩ := Cond.lays_spec lD
  cases Option.some.inj ((Cond.lays_declared lD g3).symm.trans t1)
  obtain ⟨g5, g6⟩ := State.fieldFound?_spec g3
  cases Option.some.inj (g5.symm.trans LL.cls)
  obtain ⟨g7, g8⟩ := State.fieldFound?_type g3 (t := .int) (by decide +kernel)
  have fb1 := Cond.soleField_find t1 LL.cls (A1 (.soleField tN "backtrace") (by simp [excAtoms]) (by simp)) w3 w6 w4
  have fd1 := Cond.soleField_find t1 LL.cls (A1 (.soleField tN "depth") (by simp [excAtoms]) (by simp)) g6 g7 g4
  obtain ⟨comp, cO, kO, -, -, kO1, kO2, kO3⟩ := Cond.arrayOver_spec (A1 (.arrayOver (.object "java/lang/Object")) (by simp [excAtoms]) (by simp))
  have okX : kX.kind = .ordinary := by rw [x2]; exact j3
  have szX : cell.slots.size = kX.instanceTypes.size := by rw [x2]; exact o5 j3
  have tk : ∀ {f : Field} {v : Value}, kX.instanceTypes[f.slot]? = some f.type → fits f.type v = true → Jvm.Takes (s.setVm vm0) cell f v := fun {f v} a1 a2 => by
    obtain ⟨z1, z2⟩ := Takes.of_laid (v := v) x1 okX a1 a2
    exact ⟨by rw [szX]; simpa using z1, by rw [v2]; exact z2⟩
  have tS := (Cond.laysAt cX x1 t4 lS).1
  have tB := (Cond.laysAt cX x1 w8 lB).1
  have tD := (Cond.laysAt cX x1 g3 lD).1
  have sel0 : selectMethod e.platform (s.setVm vm0).vm cell.cls TT.fill0 = .method TT.fill0 := by
    obtain ⟨c2, r2, m2, z1, z2, z3, z4, -⟩ := Cond.selects_spec (A1 (.selects rc tFill0 tFill0) (by simp [excAtoms]) (by simp))
    cases Option.some.inj (z1.symm.trans cX)
    cases Option.some.inj (z2.symm.trans (State.methodFound?_of_named t3 (by decide)))
    cases Option.some.inj (z3.symm.trans t3)
    rw [Launch.admits_selectMethod X.admits]; exact z4
  have selF := W1 (.selects rc tFill tFill) (by simp [excAtoms]) (by simp)
  have mk1 : (s.setVm vm0).vm.MethodsKnown := Vm.MethodsKnown.alikeC hal hTK
  have mk2 : (s.setVm vm0).vm.FramesKnown below := Vm.FramesKnown.alikeC hal kn2
  have hTe : T.heap = h := e1
  have hown' : (s.setVm vm0).vm.findClass tN = some m.cls := by rw [← hy]; exact hown
  obtain ⟨v, vm1, ⟨U, lo, c1, s1⟩, -, X', ⟨hv, vm', lines, hlen, -, hU, hL, hcc, hss⟩, st'⟩ := X.virtualBack hx (own := tN) (C := rc) (index := 27) (y := tFill) (z := tFill) hown' (W1 (.methodLink tN 27 tFill) (by simp [excAtoms, throwableAtoms]) (by simp)) (W1 (.declares tFill) (by simp [excAtoms]) (by simp)) (notFace_of_selects selF) selF (W1 (.instanceMethod tFill) (by simp [excAtoms, throwableAtoms]) (by simp)) (by decide)
    (Jvm.Free.Str.fillPays (l := l) (R := R) (len := 3) (W := W) (sargs := args) hx htr TT LL t2 (u0 := ⟨.ref u, rfl⟩) (by simp) (self := a) (cell := cell) (cellS := cU) (fun _ => by rw [v2]; simp) (by rw [v2]; simp) (by rw [v3]) (by rw [v3]) b7 sel0 neS (fun q => by rw [q] at u6; cases u6) u7 (tk tS (by rw [t6]; rfl))
      ⟨{ ci198 := c8, i198 := ifb, fBack := fB }, ⟨w1, w2, w3, w4⟩, d7⟩ mk1 mk2 t1 kO3 kO1 kO2 fb1 fd1 (fun x => tk tB (by rw [w7]; rfl)) (fun x => tk tD (by rw [g8]; rfl)) (by omega) hlo)
    (b := a) (cB := cell.cls) cX ⟨cell, by rw [hTe]; exact hcell, rfl, by rw [v2]; rfl⟩ (g := mkF m pc L (.ref a :: S)) rfl hsz (Steps.refl _) (argsL := []) (rest := S)
    (fun sig hh => by rw [show parseMethodDescriptor tFill.desc = some ⟨[], some (.object tN)⟩ from by decide +kernel] at hh; rw [← Option.some.inj hh]; rfl) rfl (by show 2 * 0 + (S.map fun v => v.category).sum ≤ W; omega) (Jvm.hb hB dd) (fun vmx _ => ⟨rfl, hc, hsl, by show T.heap[a]? = _; rw [hTe]; exact hcell, by show T.heap[TT.aS]? = _; rw [hTe, eaS]; exact u5⟩)
  dsimp only [Pt.U, Pt.locs, Pt.cells, Pt.slots] at X' hU hL hcc hss st'
  subst hv hL hcc hss
  have hlt : a < h.size := (Array.getElem?_eq_some_iff.mp hcell).1
  have eH : U.heap = (h.push (traceHolder cO lines)).setIfInBounds a (Jvm.Free.Str.filledOn TT.toThrowableT fB fd cell ⟨.ref u, rfl⟩ h.size lines.length.toInt32) := by
    rw [hU]; show ((T.heap.push _).setIfInBounds a _) = _; rw [hTe, show (T.setVm vm1).heap = h from hTe]
  have other : ∀ x cl, h[x]? = some cl → x ≠ a → U.heap[x]? = some cl := fun x cl q ne => by
    have hx' : x < h.size := (Array.getElem?_eq_some_iff.mp q).1
    rw [eH, Array.getElem?_setIfInBounds_ne (Ne.symm ne), Array.getElem?_push_lt hx']
    exact (Array.getElem?_eq_getElem _).symm.trans q
  have self : U.heap[a]? = some (Jvm.Free.Str.filledOn TT.toThrowableT fB fd cell ⟨.ref u, rfl⟩ h.size lines.length.toInt32) := by
    rw [eH, Array.getElem?_setIfInBounds_self_of_lt (Nat.lt_of_lt_of_le hlt (by rw [Array.size_push]; exact Nat.le_succ _))]
  have K : Keep h U.heap [a] := by
    refine ⟨by rw [eH]; simp, fun x cl q ne => other x cl q (by simpa using ne), fun x cl q => ?_⟩
    by_cases qa : x = a
    · subst qa
      cases hcell.symm.trans q
      exact ⟨_, self, rfl, rfl, by simp [Cell.setSlot]⟩
    · exact ⟨cl, other x cl q qa, rfl, rfl, rfl⟩
  have hold : (traceHolder cO lines).slots.size ≤ 2752 := traceHolder_size_le cO hlen
  obtain ⟨r1, r2, r3⟩ := upd hC hk hF K (allS ha all0)
  have na := (hF.2.2.2 a ha).2.2.1
  have slb : RoadKit.slotOf Z tN "backtrace" obD = fB.slot := by unfold RoadKit.slotOf; rw [d2]; rfl
  have sls : RoadKit.slotOf Z tN "stackTrace" steD = TT.fStack.slot := by unfold RoadKit.slotOf; rw [b2]; rfl
  have sld : RoadKit.slotOf Z tN "depth" "I" = fd.slot := by
    obtain ⟨_, _, cz, kz, iz, fz, -, -, z3, -⟩ := Cond.lays_spec (show (Jvm.Cond.lays rc tN "depth" "I").holds a0 Z none Z [] = true from hw _ (by simp [excAtoms]) (by simp [wMiss]))
    obtain ⟨_, z4⟩ := fnd z3
    cases z4.symm.trans g3
    unfold RoadKit.slotOf; rw [z3]; rfl
  refine ⟨U.heap, K, fun O n d v FF n1 n2 n3 => ?_, U, vm0, k0, _, X'.more (Nat.le_refl _) (Nat.add_le_add_left hold _), rfl, hS, r2, hZ, hown, r1, Fr.app hN ?_, r3, ⟨hx, hB, hsz, hr⟩, fun t q => st t (st'.trans q)⟩
  · obtain ⟨cc, cf, kf, i, f, y1, y2, y3, y4, y5, y6, y7⟩ := FF
    cases hcell.symm.trans y1
    have slf : RoadKit.slotOf Z O n d = f.slot := by unfold RoadKit.slotOf; rw [y2]; rfl
    rw [slf, slb] at n1
    rw [slf, sld] at n2
    rw [slf, sls] at n3
    refine ⟨_, cf, kf, i, f, self, y2, y3, y4, y5, y6, ?_⟩
    simp only [Cell.setSlot]
    rw [Array.getElem?_setIfInBounds_ne (Ne.symm n3), Array.getElem?_setIfInBounds_ne (Ne.symm n2), Array.getElem?_setIfInBounds_ne (Ne.symm n1)]
    exact y7
  · intro yy hyy
    simp only [List.mem_cons, List.not_mem_nil, or_false] at hyy
    rcases hyy with rfl | rfl | rfl <;> exact na
end Fill0
end Jvm.OwnKit
/- laws to paste: Road.backV, Road.codOf, Road.lenW (cut by pick.py; bodies as the Statement names them) -/
namespace Jvm.Pilot.@@N@@
namespace StrChars
open Jvm Sem ClassFile Op Lib Jvm.Stand Jvm.Free.XT Jvm.Free.ALB Jvm.Free.JM Jvm.Free
open Jvm.Lib.Cold (StaticIs)
/-- a char array whose places are chars -/
def Ch (a : Addr) (A : Cell) (U : State) : Prop := Arr .char a A U ∧ Typed .char A
theorem Ch.mv {a : Addr} {A : Cell} {U U' : State} (h : Ch a A U) (hal : U.vm.Alike U'.vm) (hh : U'.heap = U.heap) : Ch a A U' := ⟨h.1.mv hal hh, h.2⟩
theorem Ch.keep {a : Addr} {A : Cell} {U U' : State} (h : Ch a A U) (hal : U.vm.Alike U'.vm) (hk : U'.heap[a]? = some A) : Ch a A U' := ⟨h.1.keep hal hk, h.2⟩
/-- what place i of a char[]'s cell holds -/
def cv (A : Cell) (i : Nat) : Int32 := match A.slots[i]? with | some (.int x) => x | _ => 0
theorem Ch.get {a : Addr} {A : Cell} {U : State} (h : Ch a A U) {i : Nat} (hi : i < A.slots.size) : A.slots[i]? = some (.int (cv A i)) := by
  have e := Array.getElem?_eq_getElem hi
  have f := h.2 i _ e
  unfold cv; rw [e]
  generalize A.slots[i] = v at f
  cases v <;> simp [fits] at f ⊢
/-- the byte that i2b leaves of a char -/
def lo8 (x : Int32) : Int32 := x.toInt8.toInt32
theorem fits_lo8 (y : Int32) : fits .byte (.int (lo8 y)) = true := by
  have h1 := y.toInt8.le_toInt
  have h2 := y.toInt8.toInt_lt
  simp only [lo8, fits, Bool.and_eq_true, decide_eq_true_eq, Int32.le_iff_toInt_le, Int8.toInt_toInt32, show (-128 : Int32).toInt = -128 from by decide, show (127 : Int32).toInt = 127 from by decide]
  omega
/-- A' is A but that each place j of lo .. hi - 1 holds f j -/
def Laid (A A' : Cell) (lo hi : Nat) (f : Nat → Value) : Prop := A'.cls = A.cls ∧ A'.vm = A.vm ∧ A'.slots.size = A.slots.size ∧ ∀ i, A'.slots[i]? = if lo ≤ i ∧ i < hi then some (f i) else A.slots[i]?
theorem Laid.zero (A : Cell) (lo : Nat) (f : Nat → Value) : Laid A A lo (lo + 0) f := ⟨rfl, rfl, rfl, fun i => by rw [if_neg (by omega)]⟩
theorem Laid.step {A Ak : Cell} {lo k : Nat} {f : Nat → Value} {v : Value} (h : Laid A Ak lo k f) (hlo : lo ≤ k) (hk : k < Ak.slots.size) (hv : v = f k) : Laid A (Ak.setSlot k v) lo (k + 1) f := by
  refine ⟨h.1, h.2.1, by simpa [Cell.setSlot] using h.2.2.1, fun i => ?_⟩
  by_cases e : k = i
  · subst e; rw [Cell.slots_setSlot_self v hk, if_pos (by omega), hv]
  · rw [Cell.slots_setSlot_ne v e, h.2.2.2 i]
    by_cases q : lo ≤ i ∧ i < k
    · rw [if_pos q, if_pos (by omega)]
    · rw [if_neg q, if_neg (by omega)]
def U16 : String := "java/lang/StringUTF16"
namespace Cmp5
def yN : MethodName := ⟨"java/lang/StringUTF16", "compress", "([CI[BII)I"⟩
abbrev yB : ByteArray := jdk_52_method_21_code
theorem d0 : decode yB 0 = .ok (.iconst 0, 1) := by decide +kernel
theorem d1 : decode yB 1 = .ok (.istore 5, 2) := by decide +kernel
theorem d3 : decode yB 3 = .ok (.iload 5, 2) := by decide +kernel
theorem d5 : decode yB 5 = .ok (.iload 4, 2) := by decide +kernel
theorem d7 : decode yB 7 = .ok (.if_icmp (.ge) 37, 3) := by decide +kernel
theorem d10 : decode yB 10 = .ok (.aload_n 0, 1) := by decide +kernel
theorem d11 : decode yB 11 = .ok (.iload_n 1, 1) := by decide +kernel
theorem d12 : decode yB 12 = .ok (.caload, 1) := by decide +kernel
theorem d13 : decode yB 13 = .ok (.istore 6, 2) := by decide +kernel
theorem d15 : decode yB 15 = .ok (.iload 6, 2) := by decide +kernel
theorem d17 : decode yB 17 = .ok (.sipush 255, 3) := by decide +kernel
theorem d20 : decode yB 20 = .ok (.if_icmp (.le) 6, 3) := by decide +kernel
theorem d26 : decode yB 26 = .ok (.aload_n 2, 1) := by decide +kernel
theorem d27 : decode yB 27 = .ok (.iload_n 3, 1) := by decide +kernel
theorem d28 : decode yB 28 = .ok (.iload 6, 2) := by decide +kernel
theorem d30 : decode yB 30 = .ok (.i2b, 1) := by decide +kernel
theorem d31 : decode yB 31 = .ok (.bastore, 1) := by decide +kernel
theorem d32 : decode yB 32 = .ok (.iinc 1 1, 3) := by decide +kernel
theorem d35 : decode yB 35 = .ok (.iinc 3 1, 3) := by decide +kernel
theorem d38 : decode yB 38 = .ok (.iinc 5 1, 3) := by decide +kernel
theorem d41 : decode yB 41 = .ok (.goto (-38), 3) := by decide +kernel
theorem d44 : decode yB 44 = .ok (.iload 4, 2) := by decide +kernel
theorem d46 : decode yB 46 = .ok (.ireturn, 1) := by decide +kernel
def site : List Cond := []
def tab : Cond := tabOf yN yB 7 (some .int) site
def P (b : Addr) (A : Cell) (d : Addr) (B : Cell) (o q len : Nat) (args : Array Value) (s : State) : Prop := args = #[.ref b, .int (Int32.ofNat o), .ref d, .int (Int32.ofNat q), .int (Int32.ofNat len)] ∧ Ch b A s ∧ Arr .byte d B s ∧ b ≠ d ∧ o + len ≤ A.slots.size ∧ q + len ≤ B.slots.size ∧ ∀ i, i < len → ¬ 255 < cv A (o + i)
def E (b : Addr) (A : Cell) (d : Addr) (B : Cell) (o q len : Nat) (r : Option Value) (s u : State) : Prop := r = some (.int (Int32.ofNat len)) ∧ ∃ B', Put d B' s u ∧ Laid B B' q (q + len) (fun j => Value.int (lo8 (cv A (o + (j - q)))))
/-- no char of the range above 255: len; the places written hold each char's low byte -/
theorem law (l : Launch) (b : Addr) (A : Cell) (d : Addr) (B : Cell) (o q len : Nat) : Law l yN 5 5 0 0 yB 7 (some .int) site (P b A d B o q len) (E b A d B o q len) (copyLocs d q len) 0 0 := by
  refine Law.of_walk (plainFor_of_name (by decide +kernel)) (by decide +kernel) (by decide +kernel) (by decide) (fun _ _ h => by rw [h.1]; rfl) (fun _ U U' hal hh h => ⟨h.1, h.2.1.mv hal hh, h.2.2.1.mv hal hh, h.2.2.2⟩) (fun r U U' V V' h1 hal h2 h => ⟨h.1, h.2.elim fun B' q => ⟨B', q.1.mv h1 h2, q.2⟩⟩) ?_
  intro p e s m args below meth c s₁ X0 hexec hbytes hml hret hlk hnm hown hh0 W hP
  obtain ⟨rfl, hA, hB, hne, l1, l2, hp⟩ := hP
  have c1 : Steps p.tables e below (s₁.setTop (entryFrame m #[.ref b, .int (Int32.ofNat o), .ref d, .int (Int32.ofNat q), .int (Int32.ofNat len)] 7)) (s₁.setTop (mkF m 0 #[.val (.ref b), .val (.int (Int32.ofNat o)), .val (.ref d), .val (.int (Int32.ofNat q)), .val (.int (Int32.ofNat len)), .unset, .unset] [])) := entry rfl
  have hA0 := hA.1.mv X0.warmed.alike hh0
  have hB0 := hB.mv X0.warmed.alike hh0
  have a31 := hA.1.2.2.2
  have c2 : Steps p.tables e below (s₁.setTop (entryFrame m #[.ref b, .int (Int32.ofNat o), .ref d, .int (Int32.ofNat q), .int (Int32.ofNat len)] 7)) (s₁.setTop (mkF m 3 #[.val (.ref b), .val (.int (Int32.ofNat o)), .val (.ref d), .val (.int (Int32.ofNat q)), .val (.int (Int32.ofNat len)), .val (.int 0), .unset] [])) := c1.trans (by
    refine iconstV X0.here hexec rfl 0 (hb hbytes d0) (by decide) ?_
    refine XS.istore X0.here hexec rfl (hb hbytes d1) rfl rfl ?_
    exact Steps.refl _)
  have loop : ∀ (r i : Nat), i + r = len → ∀ (z : Slot), (z = .unset ∨ ∃ w, z = .val w ∧ w.category = 1) → ∀ (Tl : State) (Bk : Cell), Stand p l e { frames := 0, locals := 0, cells := 0, slots := 0 } s m #[.ref b, .int (Int32.ofNat o), .ref d, .int (Int32.ofNat q), .int (Int32.ofNat len)] below meth c Tl ([] ++ copyLocs d q i) 0 0 → Put d Bk s₁ Tl → Laid B Bk q (q + i) (fun j => Value.int (lo8 (cv A (o + (j - q))))) →
      Steps p.tables e below (s₁.setTop (entryFrame m #[.ref b, .int (Int32.ofNat o), .ref d, .int (Int32.ofNat q), .int (Int32.ofNat len)] 7)) (Tl.setTop (mkF m 3 #[.val (.ref b), .val (.int (Int32.ofNat (o + i))), .val (.ref d), .val (.int (Int32.ofNat (q + i))), .val (.int (Int32.ofNat len)), .val (.int (Int32.ofNat i)), z] [])) → ∃ (T' : State) (B' : Cell) (z' : Slot), Stand p l e { frames := 0, locals := 0, cells := 0, slots := 0 } s m #[.ref b, .int (Int32.ofNat o), .ref d, .int (Int32.ofNat q), .int (Int32.ofNat len)] below meth c T' ([] ++ copyLocs d q len) 0 0 ∧ Put d B' s₁ T' ∧ Laid B B' q (q + len) (fun j => Value.int (lo8 (cv A (o + (j - q))))) ∧
      Steps p.tables e below (s₁.setTop (entryFrame m #[.ref b, .int (Int32.ofNat o), .ref d, .int (Int32.ofNat q), .int (Int32.ofNat len)] 7)) (T'.setTop (mkF m 3 #[.val (.ref b), .val (.int (Int32.ofNat (o + len))), .val (.ref d), .val (.int (Int32.ofNat (q + len))), .val (.int (Int32.ofNat len)), .val (.int (Int32.ofNat len)), z'] [])) := by
    intro r
    induction r with
    | zero =>
      intro i hi z hz Tl Bk Xl pl fl cl
      have hil : i = len := by omega
      rw [hil] at Xl fl cl
      exact ⟨Tl, Bk, z, Xl, pl, fl, cl⟩
    | succ r ih =>
      intro i hi z hz Tl Bk Xl pl fl cl
      have all := X0.warmed.alike.symm.trans Xl.warmed.alike
      have hAl := hA0.keep all (pl.other hne hA0.1)
      have hBk := hB0.like all pl.1 fl.1 fl.2.1 fl.2.2.1
      have hlt : q + i < Bk.slots.size := by rw [fl.2.2.1]; omega
      have c3 : Steps p.tables e below (s₁.setTop (entryFrame m #[.ref b, .int (Int32.ofNat o), .ref d, .int (Int32.ofNat q), .int (Int32.ofNat len)] 7)) (Tl.setTop (mkF m 12 #[.val (.ref b), .val (.int (Int32.ofNat (o + i))), .val (.ref d), .val (.int (Int32.ofNat (q + i))), .val (.int (Int32.ofNat len)), .val (.int (Int32.ofNat i)), z] [.int (Int32.ofNat (o + i)), .ref b])) := cl.trans (by
        refine XS.iload Xl.here hexec rfl (hb hbytes d3) rfl ?_
        refine XS.iload Xl.here hexec rfl (hb hbytes d5) rfl ?_
        refine XS.icmpNo Xl.here hexec rfl (hb hbytes d7) rfl (ii_ge_f (lt32 (by omega) (by omega))) ?_
        refine XS.aloadN Xl.here hexec rfl (hb hbytes d10) rfl rfl ?_
        refine XS.iloadN Xl.here hexec rfl (hb hbytes d11) rfl ?_
        exact Steps.refl _)
      have c4 : Steps p.tables e below (s₁.setTop (entryFrame m #[.ref b, .int (Int32.ofNat o), .ref d, .int (Int32.ofNat q), .int (Int32.ofNat len)] 7)) (Tl.setTop (mkF m 13 #[.val (.ref b), .val (.int (Int32.ofNat (o + i))), .val (.ref d), .val (.int (Int32.ofNat (q + i))), .val (.int (Int32.ofNat len)), .val (.int (Int32.ofNat i)), z] [.int (cv A (o + i))])) := c3.trans (by
        refine Xl.aget hexec hAl rfl (hA.get (i := o + i) (by omega)) rfl rfl (hb hbytes d12) ?_
        exact Steps.refl _)
      have c5 : Steps p.tables e below (s₁.setTop (entryFrame m #[.ref b, .int (Int32.ofNat o), .ref d, .int (Int32.ofNat q), .int (Int32.ofNat len)] 7)) (Tl.setTop (mkF m 15 #[.val (.ref b), .val (.int (Int32.ofNat (o + i))), .val (.ref d), .val (.int (Int32.ofNat (q + i))), .val (.int (Int32.ofNat len)), .val (.int (Int32.ofNat i)), .val (.int (cv A (o + i)))] [])) := c4.trans (by
        refine XS.istoreS Xl.here hexec rfl (hb hbytes d13) rfl rfl hz ?_
        exact Steps.refl _)
      have c6 : Steps p.tables e below (s₁.setTop (entryFrame m #[.ref b, .int (Int32.ofNat o), .ref d, .int (Int32.ofNat q), .int (Int32.ofNat len)] 7)) (Tl.setTop (mkF m 31 #[.val (.ref b), .val (.int (Int32.ofNat (o + i))), .val (.ref d), .val (.int (Int32.ofNat (q + i))), .val (.int (Int32.ofNat len)), .val (.int (Int32.ofNat i)), .val (.int (cv A (o + i)))] [.int (lo8 (cv A (o + i))), .int (Int32.ofNat (q + i)), .ref d])) := c5.trans (by
        refine XS.iload Xl.here hexec rfl (hb hbytes d15) rfl ?_
        refine sipushV Xl.here hexec rfl 255 (hb hbytes d17) (by decide) ?_
        refine XS.icmpYes Xl.here hexec rfl (pc0 := 20) rfl (hb hbytes d20) rfl (ii_le_t (hp i (by omega))) (by decide) rfl ?_
        refine XS.aloadN Xl.here hexec rfl (hb hbytes d26) rfl rfl ?_
        refine XS.iloadN Xl.here hexec rfl (hb hbytes d27) rfl ?_
        refine XS.iload Xl.here hexec rfl (hb hbytes d28) rfl ?_
        refine i2b Xl.here hexec rfl (hb hbytes d30) rfl ?_
        exact Steps.refl _)
      obtain ⟨T7, X7, p7, st7⟩ := Xl.aput hexec hBk rfl hlt rfl (fits_lo8 (cv A (o + i))) (g := (mkF m 31 #[.val (.ref b), .val (.int (Int32.ofNat (o + i))), .val (.ref d), .val (.int (Int32.ofNat (q + i))), .val (.int (Int32.ofNat len)), .val (.int (Int32.ofNat i)), .val (.int (cv A (o + i)))] [.int (lo8 (cv A (o + i))), .int (Int32.ofNat (q + i)), .ref d])) rfl (rest := []) rfl (hb hbytes d31)
      have c8 : Steps p.tables e below (s₁.setTop (entryFrame m #[.ref b, .int (Int32.ofNat o), .ref d, .int (Int32.ofNat q), .int (Int32.ofNat len)] 7)) (T7.setTop (mkF m 32 #[.val (.ref b), .val (.int (Int32.ofNat (o + i))), .val (.ref d), .val (.int (Int32.ofNat (q + i))), .val (.int (Int32.ofNat len)), .val (.int (Int32.ofNat i)), .val (.int (cv A (o + i)))] [])) := c6.trans (st7 _ (Steps.refl _))
      have c9 : Steps p.tables e below (s₁.setTop (entryFrame m #[.ref b, .int (Int32.ofNat o), .ref d, .int (Int32.ofNat q), .int (Int32.ofNat len)] 7)) (T7.setTop (mkF m 3 #[.val (.ref b), .val (.int (Int32.ofNat (o + i) + 1)), .val (.ref d), .val (.int (Int32.ofNat (q + i) + 1)), .val (.int (Int32.ofNat len)), .val (.int (Int32.ofNat i + 1)), .val (.int (cv A (o + i)))] [])) := c8.trans (by
        refine iincV X7.here hexec rfl 1 (hb hbytes d32) (by decide) rfl rfl ?_
        refine iincV X7.here hexec rfl 1 (hb hbytes d35) (by decide) rfl rfl ?_
        refine iincV X7.here hexec rfl 1 (hb hbytes d38) (by decide) rfl rfl ?_
        refine XS.goto X7.here hexec rfl (pc0 := 41) rfl (hb hbytes d41) (by decide) rfl ?_
        exact Steps.refl _)
      have c10 : Steps p.tables e below (s₁.setTop (entryFrame m #[.ref b, .int (Int32.ofNat o), .ref d, .int (Int32.ofNat q), .int (Int32.ofNat len)] 7)) (T7.setTop (mkF m 3 #[.val (.ref b), .val (.int (Int32.ofNat (o + (i + 1)))), .val (.ref d), .val (.int (Int32.ofNat (q + (i + 1)))), .val (.int (Int32.ofNat len)), .val (.int (Int32.ofNat (i + 1))), .val (.int (cv A (o + i)))] [])) := by
        have := c9
        rw [succ32, succ32, succ32] at this
        exact this
      exact ih (i + 1) (by omega) _ (Or.inr ⟨_, rfl, rfl⟩) T7 _ (by rw [copyLocs_step, ← List.append_assoc]; exact X7) (pl.trans p7) (fl.step (by omega) hlt (by simp)) c10
  obtain ⟨T9, B9, z9, X9, p9, f9, g9⟩ := loop len 0 (by omega) .unset (Or.inl rfl) s₁ B (by simpa [copyLocs] using X0) ⟨hB0.1, fun _ _ => rfl, rfl⟩ (Laid.zero _ _ _) c2
  have c11 : Steps p.tables e below (s₁.setTop (entryFrame m #[.ref b, .int (Int32.ofNat o), .ref d, .int (Int32.ofNat q), .int (Int32.ofNat len)] 7)) (T9.setTop (mkF m 46 #[.val (.ref b), .val (.int (Int32.ofNat (o + len))), .val (.ref d), .val (.int (Int32.ofNat (q + len))), .val (.int (Int32.ofNat len)), .val (.int (Int32.ofNat len)), z9] [.int (Int32.ofNat len)])) := g9.trans (by
    refine XS.iload X9.here hexec rfl (hb hbytes d3) rfl ?_
    refine XS.iload X9.here hexec rfl (hb hbytes d5) rfl ?_
    refine XS.icmpYes X9.here hexec rfl (pc0 := 7) rfl (hb hbytes d7) rfl (ii_ge_t (nlt32 (by omega) (Nat.le_refl _))) (by decide) rfl ?_
    refine XS.iload X9.here hexec rfl (hb hbytes d44) rfl ?_
    exact Steps.refl _)
  exact ⟨T9, some (.int (Int32.ofNat len)), _, _, _, X9, by simp, rfl, rfl, (fun h => by cases h), ⟨rfl, B9, p9.from hh0, f9⟩, fun fs hl => c11.trans (X9.ireturnOut hexec hret rfl (Or.inl rfl) (hb hbytes d46) hl)⟩
end Cmp5
namespace Cmp3
def yN : MethodName := ⟨"java/lang/StringUTF16", "compress", "([CII)[B"⟩
abbrev yB : ByteArray := jdk_52_method_16_code
theorem d0 : decode yB 0 = .ok (.iload_n 2, 1) := by decide +kernel
theorem d1 : decode yB 1 = .ok (.newarray .byte, 2) := by decide +kernel
theorem d3 : decode yB 3 = .ok (.astore_n 3, 1) := by decide +kernel
theorem d4 : decode yB 4 = .ok (.aload_n 0, 1) := by decide +kernel
theorem d5 : decode yB 5 = .ok (.iload_n 1, 1) := by decide +kernel
theorem d6 : decode yB 6 = .ok (.aload_n 3, 1) := by decide +kernel
theorem d7 : decode yB 7 = .ok (.iconst 0, 1) := by decide +kernel
theorem d8 : decode yB 8 = .ok (.iload_n 2, 1) := by decide +kernel
theorem d9 : decode yB 9 = .ok (.invokestatic 115, 3) := by decide +kernel
theorem d12 : decode yB 12 = .ok (.istore 4, 2) := by decide +kernel
theorem d14 : decode yB 14 = .ok (.iload 4, 2) := by decide +kernel
theorem d16 : decode yB 16 = .ok (.iload_n 2, 1) := by decide +kernel
theorem d17 : decode yB 17 = .ok (.if_icmp (.eq) 40, 3) := by decide +kernel
theorem d57 : decode yB 57 = .ok (.aload_n 3, 1) := by decide +kernel
theorem d58 : decode yB 58 = .ok (.areturn, 1) := by decide +kernel
def site : List Cond := [.arrayClass .byte, Cmp5.tab] ++ staticW U16 115 Cmp5.yN
def tab : Cond := tabOf yN yB 6 (some (.array .byte)) site
def P (b : Addr) (A : Cell) (o len : Nat) (args : Array Value) (s : State) : Prop := args = #[.ref b, .int (Int32.ofNat o), .int (Int32.ofNat len)] ∧ Ch b A s ∧ o + len ≤ A.slots.size ∧ len ≤ 536870912 ∧ ∀ i, i < len → ¬ 255 < cv A (o + i)
def E (b : Addr) (A : Cell) (o len : Nat) (r : Option Value) (s u : State) : Prop := NewArr .byte "[B" len (fun j => .int (lo8 (cv A (o + j)))) r s u ∧ u.heap.size = s.heap.size + 1
/-- no char of the range above 255: a new byte[] of their low bytes -/
theorem law (l : Launch) (b : Addr) (A : Cell) (o len : Nat) : Law l yN 3 3 1 18 yB 6 (some (.array .byte)) site (P b A o len) (E b A o len) [] 1 len := by
  refine Law.of_walk (plainFor_of_name (by decide +kernel)) (by decide +kernel) (by decide +kernel) (by decide) (fun _ _ h => by rw [h.1]; rfl) (fun _ U U' hal hh h => ⟨h.1, h.2.1.mv hal hh, h.2.2⟩) (fun r U U' V V' h1 hal h2 h => ⟨NewArr.mv r U U' V V' h1 hal h2 h.1, by rw [h1, h2]; exact h.2⟩) ?_
  intro p e s m args below meth c s₁ X0 hexec hbytes hml hret hlk hnm hown hh0 W hP
  obtain ⟨rfl, hA, l1, l2, hp⟩ := hP
  have a31 := hA.1.2.2.2
  have c1 : Steps p.tables e below (s₁.setTop (entryFrame m #[.ref b, .int (Int32.ofNat o), .int (Int32.ofNat len)] 6)) (s₁.setTop (mkF m 0 #[.val (.ref b), .val (.int (Int32.ofNat o)), .val (.int (Int32.ofNat len)), .unset, .unset, .unset] [])) := entry rfl
  have c2 : Steps p.tables e below (s₁.setTop (entryFrame m #[.ref b, .int (Int32.ofNat o), .int (Int32.ofNat len)] 6)) (s₁.setTop (mkF m 1 #[.val (.ref b), .val (.int (Int32.ofNat o)), .val (.int (Int32.ofNat len)), .unset, .unset, .unset] [.int (Int32.ofNat len)])) := c1.trans (by
    refine XS.iloadN X0.here hexec rfl (hb hbytes d0) rfl ?_
    exact Steps.refl _)
  obtain ⟨T3, B3, X3, ba3, bs3, bv3, bh3, bf3, st3⟩ := X0.anew hexec (atype := .byte) (wk W (.arrayClass .byte)) rfl (by show len * 1 ≤ _; omega) (by omega) (g := (mkF m 1 #[.val (.ref b), .val (.int (Int32.ofNat o)), .val (.int (Int32.ofNat len)), .unset, .unset, .unset] [.int (Int32.ofNat len)])) rfl (hb hbytes d1) (rest := []) rfl (Nat.le_refl _) (by show 0 + len ≤ len; omega)
  rw [hh0] at ba3 st3
  have kp3 : XT.Kept s T3 := (XT.Kept.of_eq hh0).push bh3
  have hA3 := hA.keep X3.warmed.alike (kp3 _ _ hA.1.1)
  have hne : b ≠ s.heap.size := hA.1.ne
  have c4 : Steps p.tables e below (s₁.setTop (entryFrame m #[.ref b, .int (Int32.ofNat o), .int (Int32.ofNat len)] 6)) (T3.setTop (mkF m 3 #[.val (.ref b), .val (.int (Int32.ofNat o)), .val (.int (Int32.ofNat len)), .unset, .unset, .unset] [.ref s.heap.size])) := c2.trans (st3 _ (Steps.refl _))
  have c5 : Steps p.tables e below (s₁.setTop (entryFrame m #[.ref b, .int (Int32.ofNat o), .int (Int32.ofNat len)] 6)) (T3.setTop (mkF m 9 #[.val (.ref b), .val (.int (Int32.ofNat o)), .val (.int (Int32.ofNat len)), .val (.ref s.heap.size), .unset, .unset] [.int (Int32.ofNat len), .int 0, .ref s.heap.size, .int (Int32.ofNat o), .ref b])) := c4.trans (by
    refine XS.astoreN X3.here hexec rfl (hb hbytes d3) rfl rfl rfl ?_
    refine XS.aloadN X3.here hexec rfl (hb hbytes d4) rfl rfl ?_
    refine XS.iloadN X3.here hexec rfl (hb hbytes d5) rfl ?_
    refine XS.aloadN X3.here hexec rfl (hb hbytes d6) rfl rfl ?_
    refine iconstV X3.here hexec rfl 0 (hb hbytes d7) (by decide) ?_
    refine XS.iloadN X3.here hexec rfl (hb hbytes d8) rfl ?_
    exact Steps.refl _)
  obtain ⟨v6, T6, X6, E6, g6⟩ := X3.callS hexec (Cmp5.law l b A s.heap.size B3 o 0 len) hown (wks W (staticW U16 115 Cmp5.yN)) (wk W Cmp5.tab) (W := 0) (Nat.le_of_ble_eq_true rfl) (Nat.le_of_ble_eq_true rfl) (Nat.le_refl _) (by show 0 + len + 0 ≤ len; omega) (g := (mkF m 9 #[.val (.ref b), .val (.int (Int32.ofNat o)), .val (.int (Int32.ofNat len)), .val (.ref s.heap.size), .unset, .unset] [.int (Int32.ofNat len), .int (Int32.ofNat 0), .ref s.heap.size, .int (Int32.ofNat o), .ref b])) rfl (by rw [hml]; rfl) c5 (argsL := [.ref b, .int (Int32.ofNat o), .ref s.heap.size, .int (Int32.ofNat 0), .int (Int32.ofNat len)]) (rest := []) rfl rfl (by show 2 * 0 + 0 ≤ _; decide) (hb hbytes d9) (⟨rfl, hA3, ba3, hne, l1, by rw [bs3]; simp, hp⟩)
  obtain ⟨rfl, B6, p6, f6⟩ := E6
  have c7 : Steps p.tables e below (s₁.setTop (entryFrame m #[.ref b, .int (Int32.ofNat o), .int (Int32.ofNat len)] 6)) (T6.setTop (mkF m 12 #[.val (.ref b), .val (.int (Int32.ofNat o)), .val (.int (Int32.ofNat len)), .val (.ref s.heap.size), .unset, .unset] [.int (Int32.ofNat len)])) := g6
  have c8 : Steps p.tables e below (s₁.setTop (entryFrame m #[.ref b, .int (Int32.ofNat o), .int (Int32.ofNat len)] 6)) (T6.setTop (mkF m 58 #[.val (.ref b), .val (.int (Int32.ofNat o)), .val (.int (Int32.ofNat len)), .val (.ref s.heap.size), .val (.int (Int32.ofNat len)), .unset] [.ref s.heap.size])) := c7.trans (by
    refine XS.istore X6.here hexec rfl (hb hbytes d12) rfl rfl ?_
    refine XS.iload X6.here hexec rfl (hb hbytes d14) rfl ?_
    refine XS.iloadN X6.here hexec rfl (hb hbytes d16) rfl ?_
    refine XS.icmpYes X6.here hexec rfl (pc0 := 17) rfl (hb hbytes d17) rfl (ii_eq_t rfl) (by decide) rfl ?_
    refine XS.aloadN X6.here hexec rfl (hb hbytes d57) rfl rfl ?_
    exact Steps.refl _)
  have X8 := X6.wide (L' := []) (cells' := 1) (slots' := len) (fun x hx hlt => by
    simp only [List.nil_append, copyLocs, List.mem_map, List.mem_range] at hx
    obtain ⟨i, -, rfl⟩ := hx
    exact absurd hlt (Nat.lt_irrefl _)) (Nat.le_refl _) (by omega)
  exact ⟨T6, some (.ref s.heap.size), _, _, _, X8, rfl, rfl, rfl, (fun h => by cases h), ⟨⟨rfl, B6, ba3.like (X3.warmed.alike.symm.trans X6.warmed.alike) p6.1 f6.1 f6.2.1 f6.2.2.1, f6.2.1.trans bv3, by rw [X6.warmed.alike.findClass, f6.1]; exact bf3, by rw [f6.2.2.1, bs3]; simp, fun j hj => by rw [f6.2.2.2 j, if_pos (by omega)]; rfl, kp3.put p6 (Nat.le_refl _)⟩, by rw [p6.2.2, bh3, hh0]; simp⟩, fun fs hl => c8.trans (X8.areturnOut hexec rfl hret rfl (hb hbytes d58) hl)⟩
end Cmp3
namespace CodL
def yN : MethodName := ⟨"java/lang/StringUTF16", "coderFromArrayLen", "([BI)B"⟩
abbrev yB : ByteArray := jdk_52_method_15_code
theorem d0 : decode yB 0 = .ok (.iload_n 1, 1) := by decide +kernel
theorem d1 : decode yB 1 = .ok (.aload_n 0, 1) := by decide +kernel
theorem d2 : decode yB 2 = .ok (.arraylength, 1) := by decide +kernel
theorem d3 : decode yB 3 = .ok (.isub, 1) := by decide +kernel
theorem d4 : decode yB 4 = .ok (.bipush 31, 2) := by decide +kernel
theorem d6 : decode yB 6 = .ok (.iushr, 1) := by decide +kernel
theorem d7 : decode yB 7 = .ok (.i2b, 1) := by decide +kernel
theorem d8 : decode yB 8 = .ok (.ireturn, 1) := by decide +kernel
def site : List Cond := []
def tab : Cond := tabOf yN yB 2 (some .byte) site
def P (d : Addr) (B : Cell) (args : Array Value) (s : State) : Prop := args = #[.ref d, .int (Int32.ofNat B.slots.size)] ∧ Arr .byte d B s
def E (r : Option Value) (s u : State) : Prop := XT.PureE (some (.int 0)) r s u
/-- an array as long as the number of chars: LATIN1 -/
theorem law (l : Launch) (d : Addr) (B : Cell) : Law l yN 2 2 0 0 yB 2 (some .byte) site (P d B) E [] 0 0 := by
  refine Law.of_walk (plainFor_of_name (by decide +kernel)) (by decide +kernel) (by decide +kernel) (by decide) (fun _ _ h => by rw [h.1]; rfl) (fun _ U U' hal hh h => ⟨h.1, h.2.mv hal hh⟩) (fun r U U' V V' h1 hal h2 h => XT.PureE.mv r U U' V V' h1 hal h2 h) ?_
  intro p e s m args below meth c s₁ X0 hexec hbytes hml hret hlk hnm hown hh0 W hP
  obtain ⟨rfl, hB⟩ := hP
  have hB0 := hB.mv X0.warmed.alike hh0
  have c1 : Steps p.tables e below (s₁.setTop (entryFrame m #[.ref d, .int (Int32.ofNat B.slots.size)] 2)) (s₁.setTop (mkF m 0 #[.val (.ref d), .val (.int (Int32.ofNat B.slots.size))] [])) := entry rfl
  have c2 : Steps p.tables e below (s₁.setTop (entryFrame m #[.ref d, .int (Int32.ofNat B.slots.size)] 2)) (s₁.setTop (mkF m 2 #[.val (.ref d), .val (.int (Int32.ofNat B.slots.size))] [.ref d, .int (Int32.ofNat B.slots.size)])) := c1.trans (by
    refine XS.iloadN X0.here hexec rfl (hb hbytes d0) rfl ?_
    refine XS.aloadN X0.here hexec rfl (hb hbytes d1) rfl rfl ?_
    exact Steps.refl _)
  have c3 : Steps p.tables e below (s₁.setTop (entryFrame m #[.ref d, .int (Int32.ofNat B.slots.size)] 2)) (s₁.setTop (mkF m 8 #[.val (.ref d), .val (.int (Int32.ofNat B.slots.size))] [.int (lo8 (ushr (Int32.ofNat B.slots.size - Int32.ofNat B.slots.size) 31))])) := c2.trans (by
    refine X0.alen hexec hB0 rfl rfl (hb hbytes d2) ?_
    refine XS.isub X0.here hexec rfl (hb hbytes d3) rfl ?_
    refine bipushV X0.here hexec rfl 31 (hb hbytes d4) (by decide) ?_
    refine iushr X0.here hexec rfl (hb hbytes d6) rfl ?_
    refine i2b X0.here hexec rfl (hb hbytes d7) rfl ?_
    exact Steps.refl _)
  have e0 : lo8 (ushr (Int32.ofNat B.slots.size - Int32.ofNat B.slots.size) 31) = 0 := by rw [Int32.sub_self]; decide
  rw [e0] at c3
  exact ⟨s₁, some (.int 0), _, _, _, X0, rfl, rfl, rfl, (fun h => by cases h), ⟨rfl, hh0⟩, fun fs hl => c3.trans (X0.ireturnOut hexec hret rfl (Or.inr (Or.inr (Or.inl rfl))) (hb hbytes d8) hl)⟩
end CodL
/-- the String at a is Latin-1 over a new byte[] (the heap's one new cell): the low bytes of the len chars of A from o on; every cell but a is kept -/
def Got (a : Addr) (D : Cell) (fV fC : Field) (A : Cell) (o len : Nat) (r : Option Value) (s u : State) : Prop := r = none ∧ ∃ D' V : Cell, Blank "java/lang/String" a D' u ∧ Same D D' [fV.slot, fC.slot] ∧ D'.slots[fV.slot]? = some (.ref s.heap.size) ∧ D'.slots[fC.slot]? = some (.int 0) ∧ Arr .byte s.heap.size V u ∧ V.vm = .none ∧ u.vm.findClass "[B" = some V.cls ∧ V.slots.size = len ∧ (∀ j, j < len → V.slots[j]? = some (.int (lo8 (cv A (o + j))))) ∧ (∀ (y : Addr) (c : Cell), y ≠ a → s.heap[y]? = some c → u.heap[y]? = some c) ∧ u.heap.size = s.heap.size + 1
theorem Got.mv {a : Addr} {D A : Cell} {fV fC : Field} {o len : Nat} : ∀ r (U U' V V' : State), U'.heap = U.heap → V.vm.Alike V'.vm → V'.heap = V.heap → Got a D fV fC A o len r U V → Got a D fV fC A o len r U' V' :=
  fun r U U' V V' h1 hal h2 ⟨e0, D', X, a1, a2, a3, a4, a5, a6, a7, a8, a9, a10, a11⟩ => ⟨e0, D', X, a1.mv hal h2, a2, by rw [h1]; exact a3, a4, by rw [h1]; exact a5.mv hal h2, a6, by rw [hal.findClass]; exact a7, a8, a9, by rw [h1, h2]; exact a10, by rw [h1, h2]; exact a11⟩
namespace New4
def yN : MethodName := ⟨"java/lang/String", "<init>", "([CIILjava/lang/Void;)V"⟩
abbrev yB : ByteArray := jdk_42_method_149_code
theorem d0 : decode yB 0 = .ok (.aload_n 0, 1) := by decide +kernel
theorem d1 : decode yB 1 = .ok (.invokespecial 1, 3) := by decide +kernel
theorem d4 : decode yB 4 = .ok (.iload_n 3, 1) := by decide +kernel
theorem d5 : decode yB 5 = .ok (.ifCond (.ne) 22, 3) := by decide +kernel
theorem d27 : decode yB 27 = .ok (.getstatic 38, 3) := by decide +kernel
theorem d30 : decode yB 30 = .ok (.ifCond (.eq) 28, 3) := by decide +kernel
theorem d33 : decode yB 33 = .ok (.aload_n 1, 1) := by decide +kernel
theorem d34 : decode yB 34 = .ok (.iload_n 2, 1) := by decide +kernel
theorem d35 : decode yB 35 = .ok (.iload_n 3, 1) := by decide +kernel
theorem d36 : decode yB 36 = .ok (.invokestatic 177, 3) := by decide +kernel
theorem d39 : decode yB 39 = .ok (.astore 5, 2) := by decide +kernel
theorem d41 : decode yB 41 = .ok (.aload_n 0, 1) := by decide +kernel
theorem d42 : decode yB 42 = .ok (.aload 5, 2) := by decide +kernel
theorem d44 : decode yB 44 = .ok (.iload_n 3, 1) := by decide +kernel
theorem d45 : decode yB 45 = .ok (.invokestatic 47, 3) := by decide +kernel
theorem d48 : decode yB 48 = .ok (.putfield 15, 3) := by decide +kernel
theorem d51 : decode yB 51 = .ok (.aload_n 0, 1) := by decide +kernel
theorem d52 : decode yB 52 = .ok (.aload 5, 2) := by decide +kernel
theorem d54 : decode yB 54 = .ok (.putfield 9, 3) := by decide +kernel
theorem d57 : decode yB 57 = .ok (.return_, 1) := by decide +kernel
def site : List Cond := [.fieldLink "java/lang/String" 38 "java/lang/String" "COMPACT_STRINGS" "Z", Cmp3.tab, CodL.tab, .laysFinal "java/lang/String" "java/lang/String" "value" "[B", .fieldLink "java/lang/String" 9 "java/lang/String" "value" "[B", .laysFinal "java/lang/String" "java/lang/String" "coder" "B", .fieldLink "java/lang/String" 15 "java/lang/String" "coder" "B"] ++ objW "java/lang/String" 1 ++ staticW "java/lang/String" 177 Cmp3.yN ++ staticW "java/lang/String" 47 CodL.yN
def tab : Cond := tabOf yN yB 6 none site
def P (a : Addr) (D : Cell) (fV fC : Field) (b : Addr) (A : Cell) (z : Int32) (o len : Nat) (args : Array Value) (s : State) : Prop := args = #[.ref a, .ref b, .int (Int32.ofNat o), .int (Int32.ofNat len), .null] ∧ Blank "java/lang/String" a D s ∧ Found "java/lang/String" "value" "[B" fV s ∧ Found "java/lang/String" "coder" "B" fC s ∧ Ch b A s ∧ StaticIs s "java/lang/String" "COMPACT_STRINGS" "Z" (.int z) ∧ ¬ z = 0 ∧ 0 < len ∧ o + len ≤ A.slots.size ∧ len ≤ 536870912 ∧ ∀ i, i < len → ¬ 255 < cv A (o + i)
def E (a : Addr) (D : Cell) (fV fC : Field) (A : Cell) (o len : Nat) (r : Option Value) (s u : State) : Prop := Got a D fV fC A o len r s u
/-- len > 0, no char of the range above 255: a Latin-1 String of their low bytes -/
theorem law (l : Launch) (a : Addr) (D : Cell) (fV fC : Field) (b : Addr) (A : Cell) (z : Int32) (o len : Nat) : Law l yN 5 4 2 35 yB 6 none site (P a D fV fC b A z o len) (E a D fV fC A o len) [⟨a, fC.slot⟩, ⟨a, fV.slot⟩] 1 len := by
  refine Law.of_walk (plainFor_of_name (by decide +kernel)) (by decide +kernel) (by decide +kernel) (by decide) (fun _ _ h => by rw [h.1]; rfl) (fun _ U U' hal hh h => ⟨h.1, h.2.1.mv hal hh, h.2.2.1.al hal, h.2.2.2.1.al hal, h.2.2.2.2.1.mv hal hh, h.2.2.2.2.2.1.there hal hh, h.2.2.2.2.2.2⟩) (fun r U U' V V' h1 hal h2 h => Got.mv r U U' V V' h1 hal h2 h) ?_
  intro p e s m args below meth c s₁ X0 hexec hbytes hml hret hlk hnm hown hh0 W hP
  obtain ⟨rfl, hB, f1, f2, hA, s1, hz, l0, l1, l2, hp⟩ := hP
  have a31 := hA.1.2.2.2
  have c1 : Steps p.tables e below (s₁.setTop (entryFrame m #[.ref a, .ref b, .int (Int32.ofNat o), .int (Int32.ofNat len), .null] 6)) (s₁.setTop (mkF m 0 #[.val (.ref a), .val (.ref b), .val (.int (Int32.ofNat o)), .val (.int (Int32.ofNat len)), .val .null, .unset] [])) := entry rfl
  have c2 : Steps p.tables e below (s₁.setTop (entryFrame m #[.ref a, .ref b, .int (Int32.ofNat o), .int (Int32.ofNat len), .null] 6)) (s₁.setTop (mkF m 1 #[.val (.ref a), .val (.ref b), .val (.int (Int32.ofNat o)), .val (.int (Int32.ofNat len)), .val .null, .unset] [.ref a])) := c1.trans (by
    refine XS.aloadN X0.here hexec rfl (hb hbytes d0) rfl rfl ?_
    exact Steps.refl _)
  obtain ⟨T3, X3, q3, st3⟩ := X0.oinit hexec hown (wks W (objW "java/lang/String" 1)) (g := (mkF m 1 #[.val (.ref a), .val (.ref b), .val (.int (Int32.ofNat o)), .val (.int (Int32.ofNat len)), .val .null, .unset] [.ref a])) rfl (by rw [hml]; rfl) (rest := []) rfl (hb hbytes d1) (W := 0) (by show 2 * 0 + 0 ≤ _; decide) (Nat.le_of_ble_eq_true rfl) (Nat.le_of_ble_eq_true rfl)
  have hh3 := q3.trans hh0
  have c4 : Steps p.tables e below (s₁.setTop (entryFrame m #[.ref a, .ref b, .int (Int32.ofNat o), .int (Int32.ofNat len), .null] 6)) (T3.setTop (mkF m 27 #[.val (.ref a), .val (.ref b), .val (.int (Int32.ofNat o)), .val (.int (Int32.ofNat len)), .val .null, .unset] [])) := (c2.trans (st3 _ (Steps.refl _))).trans (by
    refine XS.iloadN X3.here hexec rfl (hb hbytes d4) rfl ?_
    refine XS.ifYes X3.here hexec rfl (pc0 := 5) rfl (hb hbytes d5) rfl (i0_ne_t (nz32 (by omega) l0)) (by decide) rfl ?_
    exact Steps.refl _)
  obtain ⟨T5, X5, q5, st5⟩ := X3.sget hexec hown (wk W (.fieldLink "java/lang/String" 38 "java/lang/String" "COMPACT_STRINGS" "Z")) s1 (fun _ _ h => by rw [hh3]; exact h) (g := (mkF m 27 #[.val (.ref a), .val (.ref b), .val (.int (Int32.ofNat o)), .val (.int (Int32.ofNat len)), .val .null, .unset] [])) rfl (hb hbytes d27)
  have hh5 := q5.trans hh3
  have c6 : Steps p.tables e below (s₁.setTop (entryFrame m #[.ref a, .ref b, .int (Int32.ofNat o), .int (Int32.ofNat len), .null] 6)) (T5.setTop (mkF m 30 #[.val (.ref a), .val (.ref b), .val (.int (Int32.ofNat o)), .val (.int (Int32.ofNat len)), .val .null, .unset] [.int z])) := c4.trans (st5 _ (Steps.refl _))
  have c7 : Steps p.tables e below (s₁.setTop (entryFrame m #[.ref a, .ref b, .int (Int32.ofNat o), .int (Int32.ofNat len), .null] 6)) (T5.setTop (mkF m 36 #[.val (.ref a), .val (.ref b), .val (.int (Int32.ofNat o)), .val (.int (Int32.ofNat len)), .val .null, .unset] [.int (Int32.ofNat len), .int (Int32.ofNat o), .ref b])) := c6.trans (by
    refine XS.ifNo X5.here hexec rfl (hb hbytes d30) rfl (i0_eq_f hz) ?_
    refine XS.aloadN X5.here hexec rfl (hb hbytes d33) rfl rfl ?_
    refine XS.iloadN X5.here hexec rfl (hb hbytes d34) rfl ?_
    refine XS.iloadN X5.here hexec rfl (hb hbytes d35) rfl ?_
    exact Steps.refl _)
  obtain ⟨v8, T8, X8, E8, g8⟩ := X5.callS hexec (Cmp3.law l b A o len) hown (wks W (staticW "java/lang/String" 177 Cmp3.yN)) (wk W Cmp3.tab) (W := 0) (Nat.le_of_ble_eq_true rfl) (Nat.le_of_ble_eq_true rfl) (Nat.le_refl _) (by show 0 + len ≤ len; omega) (g := (mkF m 36 #[.val (.ref a), .val (.ref b), .val (.int (Int32.ofNat o)), .val (.int (Int32.ofNat len)), .val .null, .unset] [.int (Int32.ofNat len), .int (Int32.ofNat o), .ref b])) rfl (by rw [hml]; rfl) c7 (argsL := [.ref b, .int (Int32.ofNat o), .int (Int32.ofNat len)]) (rest := []) rfl rfl (by show 2 * 0 + 0 ≤ _; decide) (hb hbytes d36) (⟨rfl, hA.mv X5.warmed.alike hh5, l1, l2, hp⟩)
  obtain ⟨e8, z8⟩ := E8
  obtain ⟨rfl, N, n1, n2, n3, n4, n5, n6⟩ := NewArr.mv _ T5 s _ _ hh5.symm (Vm.Alike.refl _) rfl e8
  rw [hh5] at z8
  have hB1 := hB.keep X8.warmed.alike (n6 _ _ hB.1)
  have hne : s.heap.size ≠ a := (Nat.ne_of_lt (Array.getElem?_eq_some_iff.mp hB.1).1).symm
  have c9 : Steps p.tables e below (s₁.setTop (entryFrame m #[.ref a, .ref b, .int (Int32.ofNat o), .int (Int32.ofNat len), .null] 6)) (T8.setTop (mkF m 39 #[.val (.ref a), .val (.ref b), .val (.int (Int32.ofNat o)), .val (.int (Int32.ofNat len)), .val .null, .unset] [.ref s.heap.size])) := g8
  have c10 : Steps p.tables e below (s₁.setTop (entryFrame m #[.ref a, .ref b, .int (Int32.ofNat o), .int (Int32.ofNat len), .null] 6)) (T8.setTop (mkF m 45 #[.val (.ref a), .val (.ref b), .val (.int (Int32.ofNat o)), .val (.int (Int32.ofNat len)), .val .null, .val (.ref s.heap.size)] [.int (Int32.ofNat N.slots.size), .ref s.heap.size, .ref a])) := by
    have hc : Steps p.tables e below (s₁.setTop (entryFrame m #[.ref a, .ref b, .int (Int32.ofNat o), .int (Int32.ofNat len), .null] 6)) (T8.setTop (mkF m 45 #[.val (.ref a), .val (.ref b), .val (.int (Int32.ofNat o)), .val (.int (Int32.ofNat len)), .val .null, .val (.ref s.heap.size)] [.int (Int32.ofNat len), .ref s.heap.size, .ref a])) := c9.trans (by
      refine XS.astore X8.here hexec rfl (hb hbytes d39) rfl rfl rfl ?_
      refine XS.aloadN X8.here hexec rfl (hb hbytes d41) rfl rfl ?_
      refine XS.aload X8.here hexec rfl (hb hbytes d42) rfl rfl ?_
      refine XS.iloadN X8.here hexec rfl (hb hbytes d44) rfl ?_
      exact Steps.refl _)
    rw [n4]; exact hc
  obtain ⟨v11, T11, X11, E11, g11⟩ := X8.callS hexec (CodL.law l s.heap.size N) hown (wks W (staticW "java/lang/String" 47 CodL.yN)) (wk W CodL.tab) (W := 1) (Nat.le_of_ble_eq_true rfl) (Nat.le_of_ble_eq_true rfl) (Nat.le_refl _) (by show 0 + len + 0 ≤ len; omega) (g := (mkF m 45 #[.val (.ref a), .val (.ref b), .val (.int (Int32.ofNat o)), .val (.int (Int32.ofNat len)), .val .null, .val (.ref s.heap.size)] [.int (Int32.ofNat N.slots.size), .ref s.heap.size, .ref a])) rfl (by rw [hml]; rfl) c10 (argsL := [.ref s.heap.size, .int (Int32.ofNat N.slots.size)]) (rest := [.ref a]) rfl rfl (by show 2 * 0 + (1 + 0) ≤ _; decide) (hb hbytes d45) (⟨rfl, n1⟩)
  obtain ⟨rfl, q11⟩ := E11
  have hB11 := hB1.mv (X8.warmed.alike.symm.trans X11.warmed.alike) q11
  have c12 : Steps p.tables e below (s₁.setTop (entryFrame m #[.ref a, .ref b, .int (Int32.ofNat o), .int (Int32.ofNat len), .null] 6)) (T11.setTop (mkF m 48 #[.val (.ref a), .val (.ref b), .val (.int (Int32.ofNat o)), .val (.int (Int32.ofNat len)), .val .null, .val (.ref s.heap.size)] [.int 0, .ref a])) := g11
  obtain ⟨T13, X13, p13, bl13, sl13, st13⟩ := X11.finit hexec hown (wk W (.fieldLink "java/lang/String" 15 "java/lang/String" "coder" "B")) (Or.inr ⟨_, (wk W (.laysFinal "java/lang/String" "java/lang/String" "coder" "B"))⟩) (Or.inl ⟨rfl, hnm⟩) f2 (Or.inl rfl) hB11 (t := .byte) (by decide +kernel) rfl (g := (mkF m 48 #[.val (.ref a), .val (.ref b), .val (.int (Int32.ofNat o)), .val (.int (Int32.ofNat len)), .val .null, .val (.ref s.heap.size)] [.int 0, .ref a])) rfl (rest := []) rfl (hb hbytes d48)
  have c14 : Steps p.tables e below (s₁.setTop (entryFrame m #[.ref a, .ref b, .int (Int32.ofNat o), .int (Int32.ofNat len), .null] 6)) (T13.setTop (mkF m 54 #[.val (.ref a), .val (.ref b), .val (.int (Int32.ofNat o)), .val (.int (Int32.ofNat len)), .val .null, .val (.ref s.heap.size)] [.ref s.heap.size, .ref a])) := (c12.trans (st13 _ (Steps.refl _))).trans (by
    refine XS.aloadN X13.here hexec rfl (hb hbytes d51) rfl rfl ?_
    refine XS.aload X13.here hexec rfl (hb hbytes d52) rfl rfl ?_
    exact Steps.refl _)
  obtain ⟨T15, X15, p15, bl15, sl15, st15⟩ := X13.finit hexec hown (wk W (.fieldLink "java/lang/String" 9 "java/lang/String" "value" "[B")) (Or.inr ⟨_, (wk W (.laysFinal "java/lang/String" "java/lang/String" "value" "[B"))⟩) (Or.inl ⟨rfl, hnm⟩) f1 (Or.inl rfl) bl13 (t := (.array .byte)) (by decide +kernel) rfl (g := (mkF m 54 #[.val (.ref a), .val (.ref b), .val (.int (Int32.ofNat o)), .val (.int (Int32.ofNat len)), .val .null, .val (.ref s.heap.size)] [.ref s.heap.size, .ref a])) rfl (rest := []) rfl (hb hbytes d54)
  have c16 : Steps p.tables e below (s₁.setTop (entryFrame m #[.ref a, .ref b, .int (Int32.ofNat o), .int (Int32.ofNat len), .null] 6)) (T15.setTop (mkF m 57 #[.val (.ref a), .val (.ref b), .val (.int (Int32.ofNat o)), .val (.int (Int32.ofNat len)), .val .null, .val (.ref s.heap.size)] [])) := c14.trans (st15 _ (Steps.refl _))
  have ap := apart (Or.inr ⟨_, (wk W (.laysFinal "java/lang/String" "java/lang/String" "value" "[B"))⟩) (Or.inr ⟨_, (wk W (.laysFinal "java/lang/String" "java/lang/String" "coder" "B"))⟩) f1 f2 (t₁ := .array .byte) (t₂ := .byte) (by decide +kernel) (by decide +kernel) (by decide)
  have al := X8.warmed.alike.symm.trans X15.warmed.alike
  have n7 : T11.heap[s.heap.size]? = some N := by rw [q11]; exact n1.1
  exact ⟨T15, none, _, _, _, X15, by simp, rfl, by omega, (fun _ => rfl), ⟨rfl, _, N, bl15, ((Same.refl D _).set _ (by simp)).set _ (by simp), sl15, (Cell.slots_setSlot_ne _ ap).trans sl13, n1.keep al (p15.other hne (p13.other hne n7)), n2, by rw [al.findClass]; exact n3, n4, n5, fun y c h1 h2 => p15.other h1 (p13.other h1 (by rw [q11]; exact n6 y c h2)), by rw [p15.2.2, p13.2.2, q11]; exact z8⟩, fun fs hl => c16.trans (X15.returnOut hexec hret (hb hbytes d57) hl)⟩
end New4
namespace New1
def yN : MethodName := ⟨"java/lang/String", "<init>", "([C)V"⟩
abbrev yB : ByteArray := jdk_42_method_3_code
theorem d0 : decode yB 0 = .ok (.aload_n 0, 1) := by decide +kernel
theorem d1 : decode yB 1 = .ok (.aload_n 1, 1) := by decide +kernel
theorem d2 : decode yB 2 = .ok (.iconst 0, 1) := by decide +kernel
theorem d3 : decode yB 3 = .ok (.aload_n 1, 1) := by decide +kernel
theorem d4 : decode yB 4 = .ok (.arraylength, 1) := by decide +kernel
theorem d5 : decode yB 5 = .ok (.aconst_null, 1) := by decide +kernel
theorem d6 : decode yB 6 = .ok (.invokespecial 27, 3) := by decide +kernel
theorem d9 : decode yB 9 = .ok (.return_, 1) := by decide +kernel
def site : List Cond := [New4.tab] ++ initW "java/lang/String" 27 New4.yN
def tab : Cond := tabOf yN yB 2 none site
def P (a : Addr) (D : Cell) (fV fC : Field) (b : Addr) (A : Cell) (z : Int32) (args : Array Value) (s : State) : Prop := args = #[.ref a, .ref b] ∧ Blank "java/lang/String" a D s ∧ Found "java/lang/String" "value" "[B" fV s ∧ Found "java/lang/String" "coder" "B" fC s ∧ Ch b A s ∧ StaticIs s "java/lang/String" "COMPACT_STRINGS" "Z" (.int z) ∧ ¬ z = 0 ∧ 0 < A.slots.size ∧ A.slots.size ≤ 536870912 ∧ ∀ i, i < A.slots.size → ¬ 255 < cv A i
def E (a : Addr) (D : Cell) (fV fC : Field) (A : Cell) (r : Option Value) (s u : State) : Prop := Got a D fV fC A 0 A.slots.size r s u
/-- new String(chars), not empty, no char above 255: a Latin-1 String of their low bytes -/
theorem law (l : Launch) (a : Addr) (D : Cell) (fV fC : Field) (b : Addr) (A : Cell) (z : Int32) : Law l yN 2 1 3 52 yB 2 none site (P a D fV fC b A z) (E a D fV fC A) [⟨a, fC.slot⟩, ⟨a, fV.slot⟩] 1 A.slots.size := by
  refine Law.of_walk (plainFor_of_name (by decide +kernel)) (by decide +kernel) (by decide +kernel) (by decide) (fun _ _ h => by rw [h.1]; rfl) (fun _ U U' hal hh h => ⟨h.1, h.2.1.mv hal hh, h.2.2.1.al hal, h.2.2.2.1.al hal, h.2.2.2.2.1.mv hal hh, h.2.2.2.2.2.1.there hal hh, h.2.2.2.2.2.2⟩) (fun r U U' V V' h1 hal h2 h => Got.mv r U U' V V' h1 hal h2 h) ?_
  intro p e s m args below meth c s₁ X0 hexec hbytes hml hret hlk hnm hown hh0 W hP
  obtain ⟨rfl, hB, f1, f2, hA, s1, hz, l0, l2, hp⟩ := hP
  have c1 : Steps p.tables e below (s₁.setTop (entryFrame m #[.ref a, .ref b] 2)) (s₁.setTop (mkF m 0 #[.val (.ref a), .val (.ref b)] [])) := entry rfl
  have c2 : Steps p.tables e below (s₁.setTop (entryFrame m #[.ref a, .ref b] 2)) (s₁.setTop (mkF m 6 #[.val (.ref a), .val (.ref b)] [.null, .int (Int32.ofNat A.slots.size), .int 0, .ref b, .ref a])) := c1.trans (by
    refine XS.aloadN X0.here hexec rfl (hb hbytes d0) rfl rfl ?_
    refine XS.aloadN X0.here hexec rfl (hb hbytes d1) rfl rfl ?_
    refine iconstV X0.here hexec rfl 0 (hb hbytes d2) (by decide) ?_
    refine XS.aloadN X0.here hexec rfl (hb hbytes d3) rfl rfl ?_
    refine X0.alen hexec (hA.1.mv X0.warmed.alike hh0) rfl rfl (hb hbytes d4) ?_
    refine XS.aconstNull X0.here hexec rfl (hb hbytes d5) ?_
    exact Steps.refl _)
  obtain ⟨v3, T3, X3, E3, g3⟩ := X0.callN hexec (New4.law l a D fV fC b A z 0 A.slots.size) rfl hown (wks W (initW "java/lang/String" 27 New4.yN)) (W New4.tab (by simp only [site, List.mem_cons, List.mem_append, true_or, or_true])) (W := 0) (Nat.le_of_ble_eq_true rfl) (Nat.le_of_ble_eq_true rfl) (Nat.le_refl _) (by show 0 + A.slots.size ≤ A.slots.size; omega) (g := (mkF m 6 #[.val (.ref a), .val (.ref b)] [.null, .int (Int32.ofNat A.slots.size), .int (Int32.ofNat 0), .ref b, .ref a])) rfl (by rw [hml]; rfl) c2 (argsL := [.ref b, .int (Int32.ofNat 0), .int (Int32.ofNat A.slots.size), .null]) (rest := []) rfl rfl (by show 2 * 0 + 0 ≤ _; decide) (hb hbytes d6) (⟨rfl, hB.mv X0.warmed.alike hh0, f1.al X0.warmed.alike, f2.al X0.warmed.alike, hA.mv X0.warmed.alike hh0, s1.there X0.warmed.alike hh0, hz, l0, by omega, l2, fun i hi => by rw [Nat.zero_add]; exact hp i hi⟩)
  have e0 := Got.mv _ s₁ s _ _ hh0.symm (Vm.Alike.refl _) rfl E3
  obtain rfl := e0.1
  have c4 : Steps p.tables e below (s₁.setTop (entryFrame m #[.ref a, .ref b] 2)) (T3.setTop (mkF m 9 #[.val (.ref a), .val (.ref b)] [])) := g3
  exact ⟨T3, none, _, _, _, X3, by simp, rfl, by omega, (fun _ => rfl), e0, fun fs hl => c4.trans (X3.returnOut hexec hret (hb hbytes d9) hl)⟩
theorem pays {l : Launch} {R : Room} {p : Program} {e : Env} {below : List Frame} {s : State} {sargs : Array Value} {len W : Nat} (a : Addr) (D : Cell) (fV fC : Field) (b : Addr) (A : Cell) (z : Int32) (htab : tab.before sargs s = true) (hfr : 4 ≤ R.frames) (hlo : W + 65 ≤ R.locals) :
    Back l R p e below s sargs yN len W (fun A₁ a₁ => A₁.cells + 1 ≤ R.cells ∧ A₁.slots + A.slots.size ≤ R.slots ∧ P a D fV fC b A z a₁ A₁.U) (fun A₁ _ v₁ B₁ => E a D fV fC A v₁ A₁.U B₁.U ∧ B₁.locs = A₁.locs ++ [⟨a, fC.slot⟩, ⟨a, fV.slot⟩] ∧ B₁.cells = A₁.cells + 1 ∧ B₁.slots = A₁.slots + A.slots.size) :=
  (law l a D fV fC b A z).pays htab hfr (by omega)
end New1
end StrChars
namespace StrChars.Road
open Jvm Sem ClassFile Op Lib Jvm.Stand Jvm.Free Jvm.Free.XT
open Jvm.Lib.Cold (StaticIs)
abbrev ST : String := "java/lang/String"
/-- every table word that New1's law asks, flat -/
abbrev words : List Jvm.Cond := [.code New1.yN New1.yB 2 none, .initialized ST, .methodLink ST 27 New4.yN, .instanceMethod New4.yN,
  .code New4.yN New4.yB 6 none, .fieldLink ST 38 ST "COMPACT_STRINGS" "Z", .laysFinal ST ST "value" "[B", .fieldLink ST 9 ST "value" "[B", .laysFinal ST ST "coder" "B", .fieldLink ST 15 ST "coder" "B",
  .methodLink ST 1 Lib.objectInit, .instanceMethod Lib.objectInit, .code Lib.objectInit ⟨#[0xb1]⟩ 1 none, .methodLink ST 177 Cmp3.yN, .static Cmp3.yN, .methodLink ST 47 CodL.yN, .static CodL.yN,
  .code Cmp3.yN Cmp3.yB 6 (some (.array .byte)), .initialized U16, .arrayClass .byte, .methodLink U16 115 Cmp5.yN, .static Cmp5.yN, .code Cmp5.yN Cmp5.yB 7 (some .int), .code CodL.yN CodL.yB 2 (some .byte)]
theorem tab_of {a : Array Value} {s : State} (h : ∀ w ∈ words, w.before a s = true) : New1.tab.before a s = true := by
  have h5 : Cmp5.tab.before a s = true := unparts (wk h (.code Cmp5.yN Cmp5.yB 7 (some .int))) (wks h (.initialized Cmp5.yN.cls :: Cmp5.site))
  have hc : CodL.tab.before a s = true := unparts (wk h (.code CodL.yN CodL.yB 2 (some .byte))) (wks h (.initialized CodL.yN.cls :: CodL.site))
  have q5 : ∀ w ∈ Cmp5.tab :: words, w.before a s = true := fun w hw => (List.mem_cons.mp hw).elim (fun e => e ▸ h5) (h w)
  have h3 : Cmp3.tab.before a s = true := unparts (wk q5 (.code Cmp3.yN Cmp3.yB 6 (some (.array .byte)))) (wks q5 (.initialized Cmp3.yN.cls :: Cmp3.site))
  have q3 : ∀ w ∈ Cmp3.tab :: CodL.tab :: words, w.before a s = true := fun w hw => (List.mem_cons.mp hw).elim (fun e => e ▸ h3) fun hw => (List.mem_cons.mp hw).elim (fun e => e ▸ hc) (h w)
  have h4 : New4.tab.before a s = true := unparts (wk q3 (.code New4.yN New4.yB 6 none)) (wks q3 (.initialized New4.yN.cls :: New4.site))
  have q4 : ∀ w ∈ New4.tab :: words, w.before a s = true := fun w hw => (List.mem_cons.mp hw).elim (fun e => e ▸ h4) (h w)
  exact unparts (wk q4 (.code New1.yN New1.yB 2 none)) (wks q4 (.initialized New1.yN.cls :: New1.site))
/-- the words ride from the start Z to the walk's own state -/
theorem moved {Z s : State} {a0 args : Array Value} (hZ : Z.Warmed39 s.vm) (hw : ∀ d ∈ words, d.before a0 Z = true) : ∀ d ∈ words, d.before args s = true := fun d hd => by
  have q := hw d hd
  have t : ∀ d ∈ words, d = .arrayClass .byte ∨ (d.onTables && d.keepsFace) = true := by decide +kernel
  rcases t d hd with rfl | t
  · exact RoadKit.mvA hZ q
  · exact RoadKit.mv hZ q t
/-- WHAT COMES BACK, over the tables of the start Z: h the heap at the call, h' behind it -/
def Q (Z : State) (x : Addr) (A : Cell) (h : Heap) (v : Option Value) (h' : Heap) (L : List Loc) : Prop := v = none ∧ (∀ y ∈ L, y.base = x) ∧ RoadKit.Keep h h' [x] ∧ h'.size = h.size + 1 ∧ RoadKit.Exa Z h' x ST ∧ RoadKit.Fld Z h' x ST "value" "[B" (.ref h.size) ∧ RoadKit.Fld Z h' x ST "coder" "B" (.int 0) ∧
  (∃ V : Cell, RoadKit.Arr Z h' h.size V .byte ∧ V.vm = .none ∧ Z.vm.findClass "[B" = some V.cls ∧ V.slots.size = A.slots.size ∧ ∀ j, j < A.slots.size → V.slots[j]? = some (.int (lo8 (cv A j)))) ∧
  ∀ (O n d : String) (w : Value), RoadKit.Fld Z h x O n d w → RoadKit.slotOf Z O n d ≠ RoadKit.slotOf Z ST "value" "[B" → RoadKit.slotOf Z O n d ≠ RoadKit.slotOf Z ST "coder" "B" → RoadKit.Fld Z h' x O n d w
/-- **new String(chars) AT A CALL, IN THE ROAD'S FORM**: for specialBack behind newO: x the fresh String, b the char[] with the cell A -/
theorem back {p : Program} {l : Launch} {e : Env} {R : Room} {s : State} {args : Array Value} {below : List Frame} {len W : Nat} {Z : State} {a0 : Array Value} {h : Heap} (hZ : Z.Warmed39 s.vm) (hw : ∀ d ∈ words, d.before a0 Z = true) {kI : Nat} (wi : (Jvm.Cond.instantiable ST kI).before a0 Z = true)
    {x b : Addr} {A : Cell} {z : Int32} {v0 c0 : Value} (E : RoadKit.Exa Z h x ST) (V : RoadKit.Fld Z h x ST "value" "[B" v0) (C : RoadKit.Fld Z h x ST "coder" "B" c0) (K : RoadKit.Arr Z h b A .char) (hty : Typed .char A) (S : RoadKit.Sta Z h ST "COMPACT_STRINGS" "Z" (.int z)) (hz : ¬ z = 0)
    (l0 : 0 < A.slots.size) (l2 : A.slots.size ≤ 536870912) (hp : ∀ i, i < A.slots.size → ¬ 255 < cv A i) (hfr : 4 ≤ R.frames) (hlo : W + 65 ≤ R.locals) :
    Back l R p e below s args New1.yN len W (fun P a => a = #[.ref x, .ref b] ∧ P.U.heap = h ∧ P.cells + 1 ≤ R.cells ∧ P.slots + A.slots.size ≤ R.slots)
      (fun P _ v B => ∃ L, Q Z x A h v B.U.heap L ∧ B.locs = P.locs ++ L ∧ B.cells = P.cells + 1 ∧ B.slots = P.slots + A.slots.size) := by
  intro m meth c P g ig mk a X hg hsize hdg hW hn hp'
  obtain ⟨rfl, rfl, r1, r2⟩ := hp'
  have al : Z.vm.Alike P.U.vm := hZ.alike.trans X.warmed.alike
  obtain ⟨D, cfV, kV, iV, fV, hD, gV, stV, knV, obV, asV, slV⟩ := id V
  obtain ⟨D', cfC, kC, iC, fC, hD', gC, stC, -, -, asC, slC⟩ := id C
  cases hD.symm.trans hD'
  obtain ⟨D2, kD, e1, e2, e3, e4, e5⟩ := id E
  cases hD.symm.trans e1
  obtain ⟨c2, k2, i1, i2, i3, -⟩ := Cond.instantiable_spec wi
  cases e2.symm.trans i1
  cases e3.symm.trans i2
  obtain ⟨kU, u1, u2⟩ := al.2.2 _ _ e3
  have hB : Blank ST x D P.U := ⟨hD, ⟨knV, fun q hq => by rw [hq] at obV; cases obV⟩, by rw [al.findClass]; exact e2, kU, u1, by rw [u2]; exact i3, by rw [u2]; exact e5 i3⟩
  have F1 : Found ST "value" "[B" fV P.U := ⟨SBG.found_only al ⟨cfV, kV, iV, gV⟩, stV⟩
  have F2 : Found ST "coder" "B" fC P.U := ⟨SBG.found_only al ⟨cfC, kC, iC, gC⟩, stC⟩
  have hA : Ch b A P.U := ⟨⟨K.1, State.isArrayOf_alike al K.2.1, K.2.2, by omega⟩, hty⟩
  have hS : StaticIs P.U ST "COMPACT_STRINGS" "Z" (.int z) := by
    obtain ⟨cfS, iS, kS, fS, st, cS, t1, t2, t3, t4, t5, t6, t7⟩ := S
    exact StaticIs.there (s := { Z with heap := P.U.heap }) ⟨cfS, iS, kS, fS, st, cS, t1, t2, t3, t4, t5, (fun q => by rw [q] at t6; cases t6), t7⟩ al rfl
  obtain ⟨v, B, X', ⟨⟨hv, E', V', q1, q2, q3, q4, q5, q6, q7, q8, q9, q10, q11⟩, hl, hc, hs⟩, st⟩ := New1.pays x D fV fC b A z (tab_of (moved hZ hw)) hfr hlo m meth c P g ig mk _ X hg hsize hdg hW hn ⟨r1, r2, rfl, hB, F1, F2, hA, hS, hz, l0, l2, hp⟩
  have al' : Z.vm.Alike B.U.vm := hZ.alike.trans X'.warmed.alike
  have hsz : E'.slots.size = D.slots.size := by
    obtain ⟨-, -, -, kB, w1, w2, w3⟩ := q1
    obtain ⟨kB', y1, y2⟩ := al'.2.2 _ _ e3
    rw [q2.2.1] at w1
    cases w1.symm.trans y1
    rw [w3, e5 i3, y2]
  refine ⟨v, B, X', ⟨_, ⟨hv, ?_, ⟨by omega, fun y cy hy hn' => q10 y cy (by simpa using hn') hy, fun y cy hy => ?_⟩, q11, ⟨E', _, q1.1, by rw [q2.2.1]; exact e2, by rw [q2.2.1]; exact e3, by rw [q2.1]; exact obV, fun _ => by rw [hsz]; exact e5 i3⟩,
    ⟨E', cfV, kV, iV, fV, q1.1, gV, stV, by rw [q2.1]; exact knV, by rw [q2.1]; exact obV, by rw [q2.2.1]; exact asV, q3⟩, ⟨E', cfC, kC, iC, fC, q1.1, gC, stC, by rw [q2.1]; exact knV, by rw [q2.1]; exact obV, by rw [q2.2.1]; exact asC, q4⟩,
    ⟨V', ⟨q5.1, State.isArrayOf_alike al'.symm q5.2.1, q5.2.2.1⟩, q6, by rw [← al'.findClass]; exact q7, q8, fun j hj => by have := q9 j hj; rwa [Nat.zero_add] at this⟩, fun O n d w F n1 n2 => ?_⟩, hl, hc, hs⟩, st⟩
  · intro y hy
    simp only [List.mem_cons, List.not_mem_nil, or_false] at hy
    rcases hy with rfl | rfl <;> rfl
  · by_cases q : y = x
    · subst q
      cases hD.symm.trans hy
      exact ⟨E', q1.1, q2.2.1, q2.1, hsz⟩
    · exact ⟨cy, q10 y cy q hy, rfl, rfl, rfl⟩
  · obtain ⟨D3, cf, k, i, f, g1, g2, g3, g4, g5, g6, g7⟩ := F
    cases hD.symm.trans g1
    simp only [RoadKit.slotOf, g2, gV, gC, Option.map_some, Option.getD_some] at n1 n2
    exact ⟨E', cf, k, i, f, q1.1, g2, g3, by rw [q2.1]; exact g4, by rw [q2.1]; exact g5, by rw [q2.2.1]; exact g6, by rw [q2.2.2 f.slot (by simp [n1, n2])]; exact g7⟩
end StrChars.Road
namespace StrChars.Road
open Jvm Sem ClassFile Op Lib Jvm.Stand Jvm.Free Jvm.Free.XT
/-- WHAT COMES BACK, the byte[] as a list of values -/
def QA (Z : State) (x : Addr) (zn : Int32) (cs : List Int32) (h : Heap) (v : Option Value) (h' : Heap) (L : List Loc) : Prop := v = none ∧ (∀ y ∈ L, y.base = x) ∧ RoadKit.Keep h h' [x] ∧ h'.size = h.size + 1 ∧ RoadKit.Exa Z h' x ST ∧ RoadKit.Fld Z h' x ST "value" "[B" (.ref h.size) ∧ RoadKit.Fld Z h' x ST "coder" "B" (.int 0) ∧
  (∃ kb, Z.vm.findClass "[B" = some kb ∧ RoadKit.Arv Z h' h.size kb .byte zn (cs.map fun c => .int (lo8 c)) (.int 0)) ∧
  ∀ (O n d : String) (w : Value), RoadKit.Fld Z h x O n d w → RoadKit.slotOf Z O n d ≠ RoadKit.slotOf Z ST "value" "[B" → RoadKit.slotOf Z O n d ≠ RoadKit.slotOf Z ST "coder" "B" → RoadKit.Fld Z h' x O n d w
/-- **new String(chars) AT A CALL, THE ARRAYS AS LISTS**: the char[] at b holds cs, not empty, no char above 255 -/
theorem backArv {p : Program} {l : Launch} {e : Env} {R : Room} {s : State} {args : Array Value} {below : List Frame} {len W : Nat} {Z : State} {a0 : Array Value} {h : Heap} (hZ : Z.Warmed39 s.vm) (hw : ∀ d ∈ words, d.before a0 Z = true) {kI : Nat} (wi : (Jvm.Cond.instantiable ST kI).before a0 Z = true)
    {x b : Addr} {k : ClassId} {zn z : Int32} {cs : List Int32} {dv v0 c0 : Value} (E : RoadKit.Exa Z h x ST) (V : RoadKit.Fld Z h x ST "value" "[B" v0) (C : RoadKit.Fld Z h x ST "coder" "B" c0) (K : RoadKit.Arv Z h b k .char zn (cs.map Value.int) dv) (S : RoadKit.Sta Z h ST "COMPACT_STRINGS" "Z" (.int z)) (hz : ¬ z = 0)
    (hlen : zn.toNatClampNeg = cs.length) (h0 : 0 < cs.length) (hbig : cs.length ≤ 536870912) (hall : ∀ c ∈ cs, ¬ 255 < c) (hfr : 4 ≤ R.frames) (hlo : W + 65 ≤ R.locals) :
    Back l R p e below s args New1.yN len W (fun P a => a = #[.ref x, .ref b] ∧ P.U.heap = h ∧ P.cells + 1 ≤ R.cells ∧ P.slots + cs.length ≤ R.slots)
      (fun P _ v B => ∃ L, QA Z x zn cs h v B.U.heap L ∧ B.locs = P.locs ++ L ∧ B.cells = P.cells + 1 ∧ B.slots = P.slots + cs.length) := by
  obtain ⟨A, K1, K2, K3, K4, K5, K6⟩ := K
  have e : A.slots.size = cs.length := K3.trans hlen
  have hat : ∀ (i : Nat) (hi : i < cs.length), A.slots[i]? = some (.int cs[i]) := fun i hi => by rw [K5 i (by omega)]; simp [List.getD_eq_getElem?_getD, hi]
  have hcv : ∀ (i : Nat) (hi : i < cs.length), cv A i = cs[i] := fun i hi => by unfold cv; rw [hat i hi]
  have hty : Typed .char A := fun i v hv => by
    have hi : i < A.slots.size := (Array.getElem?_eq_some_iff.mp hv).1
    have q := K5 i hi
    rw [hv] at q
    rw [Option.some.inj q]
    exact K6 i hi
  refine Back.mono (back hZ hw wi E V C K1 hty S hz (by omega) (by omega) (fun i hi => by rw [hcv i (by omega)]; exact hall _ (List.getElem_mem _)) hfr hlo) (fun P a hp => ⟨hp.1, hp.2.1, hp.2.2.1, by rw [e]; exact hp.2.2.2⟩) (fun P a v B hp hq => ?_)
  obtain ⟨L, ⟨q1, q2, q3, q4, q5, q6, q7, ⟨V', v1, v2, v3, v4, v5⟩, q9⟩, hl, hc, hs⟩ := hq
  refine ⟨L, ⟨q1, q2, q3, q4, q5, q6, q7, ⟨V'.cls, v3, V', v1, rfl, by rw [v4, e, hlen], K4, fun i hi => ?_, fun i hi => ?_⟩, q9⟩, hl, hc, by rw [hs, e]⟩
  · have hi' : i < cs.length := by omega
    rw [v5 i (by omega), hcv i hi']; simp [List.getD_eq_getElem?_getD, hi']
  · have hi' : i < cs.length := by omega
    simp only [List.getD_eq_getElem?_getD, List.getElem?_map, List.getElem?_eq_getElem hi', Option.map_some, Option.getD_some]
    exact fits_lo8 _
end StrChars.Road
namespace StrChars.Road
open Jvm Sem ClassFile Op Lib Jvm.Stand Jvm.Free Jvm.Free.XT
/-- WHAT COMES BACK, in the writer's own shape -/
def QV (Z : State) (x : Addr) (N : Int32) (bs : List Int32) (h : Heap) (n0 : Nat) (v : Option Value) (h' : Heap) (L : List Loc) : Prop := v = none ∧ RoadKit.Fr n0 L ∧ RoadKit.Keep h h' [x] ∧ RoadKit.Exa Z h' x ST ∧ RoadKit.Fld Z h' x ST "coder" "B" (.int 0) ∧
  ∃ (t : Addr) (kb : ClassId), n0 ≤ t ∧ h.size ≤ t ∧ ¬ t = x ∧ RoadKit.Fld Z h' x ST "value" "[B" (.ref t) ∧ RoadKit.Arv Z h' t kb .byte N (bs.map Value.int) (.int 0)
/-- **new String(chars) AT A CALL, FOR THE WRITER**: a char[] of n known ints, each 0 to 255 -/
theorem backV {p : Program} {l : Launch} {e : Env} {R : Room} {s : State} {args : Array Value} {below : List Frame} {len W : Nat} {Z : State} {a0 : Array Value} {h : Heap} (hZ : Z.Warmed39 s.vm) (hw : ∀ d ∈ words, d.before a0 Z = true) {kI : Nat} (wi : (Jvm.Cond.instantiable ST kI).before a0 Z = true)
    {x b : Addr} {kC : ClassId} {cs bs : List Int32} {d v0 c0 : Value} {z N : Int32} {n n0 : Nat} (hx0 : n0 ≤ x) (hh0 : n0 ≤ h.size) (E : RoadKit.Exa Z h x ST) (V : RoadKit.Fld Z h x ST "value" "[B" v0) (C : RoadKit.Fld Z h x ST "coder" "B" c0) (K : RoadKit.Arv Z h b kC .char N (cs.map Value.int) d) (S : RoadKit.Sta Z h ST "COMPACT_STRINGS" "Z" (.int z)) (hz : ¬ z = 0)
    (hn : cs.length = n) (hN : N = Int32.ofNat n) (l0 : 0 < n) (l2 : n ≤ 4000) (hp : ∀ c ∈ cs, ¬ c < 0 ∧ ¬ (255 : Int32) < c) (hb : bs = cs.map (fun c => c.toInt8.toInt32)) (hfr : 4 ≤ R.frames) (hlo : W + 65 ≤ R.locals) :
    Back l R p e below s args (⟨"java/lang/String", "<init>", "([C)V"⟩ : MethodName) len W (fun P a => a = #[.ref x, .ref b] ∧ P.U.heap = h ∧ P.cells + 1 ≤ R.cells ∧ P.slots + n ≤ R.slots)
      (fun P _ v B => ∃ L, QV Z x N bs h n0 v B.U.heap L ∧ B.locs = P.locs ++ L ∧ B.cells = P.cells + 1 ∧ B.slots = P.slots + n) := by
  subst hn hN hb
  refine Back.mono (backArv hZ hw wi E V C K S hz (n32 (by omega)) l0 (by omega) (fun c hc => (hp c hc).2) hfr hlo) (fun P a hp => hp) (fun P a v B hp hq => ?_)
  obtain ⟨L, ⟨q1, q2, q3, q4, q5, q6, q7, ⟨kb, v1, v2⟩, q9⟩, hl, hc, hs⟩ := hq
  exact ⟨L, ⟨q1, fun y hy => by rw [q2 y hy]; exact hx0, q3, q5, q7, h.size, kb, hh0, Nat.le_refl _, Nat.ne_of_gt E.lt, q6, by rw [List.map_map]; exact v2⟩, hl, hc, hs⟩
end StrChars.Road
namespace StrChars
open Jvm Sem ClassFile Op Lib Jvm.Stand Jvm.Free.XT Jvm.Free.ALB Jvm.Free.JM Jvm.Free
open Jvm.Lib.Cold (StaticIs)
def hi8 (x : Int32) : Int32 := lo8 (x >>> ((8 : Int32) &&& 31))
theorem shr0 (c : Int32) : c >>> ((0 : Int32) &&& 31) = c := by
  have e : ((0 : Int32) &&& 31) = 0 := by decide
  rw [e]
  apply Int32.toBitVec_inj.mp
  rw [Int32.toBitVec_shiftRight]
  have e1 : ((0 : Int32).toBitVec.smod 32) = 0#32 := by decide
  rw [e1, BitVec.sshiftRight_eq']
  exact BitVec.sshiftRight_zero
end StrChars
namespace StrChars
open Jvm Sem ClassFile Op Lib Jvm.Stand Jvm.Free.XT Jvm.Free.ALB Jvm.Free.JM Jvm.Free
open Jvm.Lib.Cold (StaticIs)
theorem shr1 {n : Nat} (h : 2 * n < 2 ^ 31) : Int32.ofNat (2 * n) >>> ((1 : Int32) &&& 31) = Int32.ofNat n := by
  have e : ((1 : Int32) &&& 31) = 1 := by decide
  rw [e]
  apply Int32.toBitVec_inj.mp
  rw [Int32.toBitVec_shiftRight]
  have e1 : ((1 : Int32).toBitVec.smod 32) = 1#32 := by decide
  have hm : (BitVec.ofNat 32 (2 * n)).toNat = 2 * n := by rw [BitVec.toNat_ofNat, Nat.mod_eq_of_lt (by omega)]
  rw [e1, BitVec.sshiftRight_eq']
  apply BitVec.eq_of_toNat_eq
  show ((BitVec.ofNat 32 (2 * n)).sshiftRight 1).toNat = (BitVec.ofNat 32 n).toNat
  rw [BitVec.toNat_sshiftRight_of_msb_false (by rw [BitVec.msb_eq_false_iff_two_mul_lt, hm]; omega), hm, BitVec.toNat_ofNat, Nat.shiftRight_eq_div_pow]
  omega
/-- the array's cell V codes the n chars f 0 .. f (n - 1) by the coder cd, as the JDK does: coder 1 just where some char is above 255 -/
def Cod (cd : Int32) (n : Nat) (f : Nat → Int32) (V : Cell) : Prop := (cd = 0 ∧ V.slots.size = n ∧ ∀ j, j < n → V.slots[j]? = some (.int (lo8 (f j))) ∧ ¬ 255 < f j) ∨ (cd = 1 ∧ V.slots.size = 2 * n ∧ (∀ j, j < n → V.slots[2 * j]? = some (.int (lo8 (f j))) ∧ V.slots[2 * j + 1]? = some (.int (hi8 (f j)))) ∧ ∃ j, j < n ∧ 255 < f j)
theorem Cod.cd {cd : Int32} {n : Nat} {f : Nat → Int32} {V : Cell} (h : Cod cd n f V) : cd = 0 ∨ cd = 1 := h.imp (fun q => q.1) fun q => q.1
theorem Cod.len {cd : Int32} {n : Nat} {f : Nat → Int32} {V : Cell} (h : Cod cd n f V) (hs : V.slots.size < 2 ^ 31) : Int32.ofNat V.slots.size >>> (cd &&& 31) = Int32.ofNat n := by
  rcases h with ⟨rfl, h, -⟩ | ⟨rfl, h, -⟩
  · rw [shr0, h]
  · rw [h, shr1 (by omega)]
/-- **x is a String of the n chars f 0 .. f (n - 1)**, Latin-1 or UTF-16; its array at t has the cell V -/
def Txt (x t : Addr) (V : Cell) (cd : Int32) (n : Nat) (f : Nat → Int32) (U : State) : Prop := Exact "java/lang/String" x U ∧ Has x "java/lang/String" "value" "[B" (.ref t) U ∧ Has x "java/lang/String" "coder" "B" (.int cd) U ∧ XT.Arr .byte t V U ∧ Cod cd n f V ∧ ∀ j, j < n → ¬ f j < 0 ∧ ¬ 65535 < f j
theorem Txt.mv {x t : Addr} {V : Cell} {cd : Int32} {n : Nat} {f : Nat → Int32} {U U' : State} (h : Txt x t V cd n f U) (hal : U.vm.Alike U'.vm) (hh : U'.heap = U.heap) : Txt x t V cd n f U' := ⟨h.1.mv hal hh, h.2.1.mv hal hh, h.2.2.1.mv hal hh, h.2.2.2.1.mv hal hh, h.2.2.2.2⟩
namespace Cdr
def yN : MethodName := ⟨"java/lang/String", "coder", "()B"⟩
abbrev yB : ByteArray := jdk_42_method_152_code
theorem d0 : decode yB 0 = .ok (.getstatic 38, 3) := by decide +kernel
theorem d3 : decode yB 3 = .ok (.ifCond (.eq) 10, 3) := by decide +kernel
theorem d6 : decode yB 6 = .ok (.aload_n 0, 1) := by decide +kernel
theorem d7 : decode yB 7 = .ok (.getfield 15, 3) := by decide +kernel
theorem d10 : decode yB 10 = .ok (.goto 4, 3) := by decide +kernel
theorem d14 : decode yB 14 = .ok (.ireturn, 1) := by decide +kernel
def site : List Cond := [.fieldLink "java/lang/String" 38 "java/lang/String" "COMPACT_STRINGS" "Z", .fieldLink "java/lang/String" 15 "java/lang/String" "coder" "B"]
def tab : Cond := tabOf yN yB 1 (some .byte) site
def P (x : Addr) (cd z : Int32) (args : Array Value) (s : State) : Prop := args = #[.ref x] ∧ Has x "java/lang/String" "coder" "B" (.int cd) s ∧ (cd = 0 ∨ cd = 1) ∧ StaticIs s "java/lang/String" "COMPACT_STRINGS" "Z" (.int z) ∧ ¬ z = 0
def E (cd : Int32) (r : Option Value) (s u : State) : Prop := XT.PureE (some (.int cd)) r s u
theorem law (l : Launch) (x : Addr) (cd z : Int32) : Law l yN 1 0 0 0 yB 1 (some .byte) site (P x cd z) (E cd) [] 0 0 := by
  refine Law.of_walk (plainFor_of_name (by decide +kernel)) (by decide +kernel) (by decide +kernel) (by decide) (fun _ _ h => by rw [h.1]; rfl) (fun _ U U' hal hh h => ⟨h.1, h.2.1.mv hal hh, h.2.2.1, h.2.2.2.1.there hal hh, h.2.2.2.2⟩) (fun r U U' V V' h1 hal h2 h => XT.PureE.mv r U U' V V' h1 hal h2 h) ?_
  intro p e s m args below meth c s₁ X0 hexec hbytes hml hret hlk hnm hown hh0 W hP
  obtain ⟨rfl, hx, hc, s1, hz⟩ := hP
  have c1 : Steps p.tables e below (s₁.setTop (entryFrame m #[.ref x] 1)) (s₁.setTop (mkF m 0 #[.val (.ref x)] [])) := entry rfl
  obtain ⟨T2, X2, q2, st2⟩ := X0.sget hexec hown (wk W (.fieldLink "java/lang/String" 38 "java/lang/String" "COMPACT_STRINGS" "Z")) s1 (fun _ _ h => by rw [hh0]; exact h) (g := (mkF m 0 #[.val (.ref x)] [])) rfl (hb hbytes d0)
  have hh2 := q2.trans hh0
  have c3 : Steps p.tables e below (s₁.setTop (entryFrame m #[.ref x] 1)) (T2.setTop (mkF m 7 #[.val (.ref x)] [.ref x])) := (c1.trans (st2 _ (Steps.refl _))).trans (by
    refine XS.ifNo X2.here hexec rfl (hb hbytes d3) rfl (i0_eq_f hz) ?_
    refine XS.aloadN X2.here hexec rfl (hb hbytes d6) rfl rfl ?_
    exact Steps.refl _)
  obtain ⟨T4, X4, q4, st4⟩ := X2.hget hexec hown (wk W (.fieldLink "java/lang/String" 15 "java/lang/String" "coder" "B")) (hx.mv X2.warmed.alike hh2) (g := (mkF m 7 #[.val (.ref x)] [.ref x])) rfl (rest := []) rfl (hb hbytes d7)
  have c5 : Steps p.tables e below (s₁.setTop (entryFrame m #[.ref x] 1)) (T4.setTop (mkF m 14 #[.val (.ref x)] [.int cd])) := (c3.trans (st4 _ (Steps.refl _))).trans (by
    refine XS.goto X4.here hexec rfl (pc0 := 10) rfl (hb hbytes d10) (by decide) rfl ?_
    exact Steps.refl _)
  exact ⟨T4, some (.int cd), _, _, _, X4, rfl, rfl, rfl, (fun h => by cases h), ⟨rfl, q4.trans hh2⟩, fun fs hl => c5.trans (X4.ireturnOut hexec hret (by rcases hc with rfl | rfl <;> rfl) (Or.inr (Or.inr (Or.inl rfl))) (hb hbytes d14) hl)⟩
end Cdr
namespace Len
def yN : MethodName := ⟨"java/lang/String", "length", "()I"⟩
abbrev yB : ByteArray := jdk_42_method_54_code
theorem d0 : decode yB 0 = .ok (.aload_n 0, 1) := by decide +kernel
theorem d1 : decode yB 1 = .ok (.getfield 9, 3) := by decide +kernel
theorem d4 : decode yB 4 = .ok (.arraylength, 1) := by decide +kernel
theorem d5 : decode yB 5 = .ok (.aload_n 0, 1) := by decide +kernel
theorem d6 : decode yB 6 = .ok (.invokevirtual 335, 3) := by decide +kernel
theorem d9 : decode yB 9 = .ok (.ishr, 1) := by decide +kernel
theorem d10 : decode yB 10 = .ok (.ireturn, 1) := by decide +kernel
def site : List Cond := [.fieldLink "java/lang/String" 9 "java/lang/String" "value" "[B", Cdr.tab] ++ virtW "java/lang/String" 335 "java/lang/String" Cdr.yN Cdr.yN
def tab : Cond := tabOf yN yB 1 (some .int) site
def P (x t : Addr) (V : Cell) (cd : Int32) (n : Nat) (f : Nat → Int32) (z : Int32) (args : Array Value) (s : State) : Prop := args = #[.ref x] ∧ Txt x t V cd n f s ∧ StaticIs s "java/lang/String" "COMPACT_STRINGS" "Z" (.int z) ∧ ¬ z = 0
def E (n : Nat) (r : Option Value) (s u : State) : Prop := XT.PureE (some (.int (Int32.ofNat n))) r s u
/-- length() of a String of n chars, in either coding -/
theorem law (l : Launch) (x t : Addr) (V : Cell) (cd : Int32) (n : Nat) (f : Nat → Int32) (z : Int32) : Law l yN 1 0 1 13 yB 1 (some .int) site (P x t V cd n f z) (E n) [] 0 0 := by
  refine Law.of_walk (plainFor_of_name (by decide +kernel)) (by decide +kernel) (by decide +kernel) (by decide) (fun _ _ h => by rw [h.1]; rfl) (fun _ U U' hal hh h => ⟨h.1, h.2.1.mv hal hh, h.2.2.1.there hal hh, h.2.2.2⟩) (fun r U U' V V' h1 hal h2 h => XT.PureE.mv r U U' V V' h1 hal h2 h) ?_
  intro p e s m args below meth c s₁ X0 hexec hbytes hml hret hlk hnm hown hh0 W hP
  obtain ⟨rfl, hx, s1, hz⟩ := hP
  have v31 := hx.2.2.2.1.2.2.2
  have c1 : Steps p.tables e below (s₁.setTop (entryFrame m #[.ref x] 1)) (s₁.setTop (mkF m 1 #[.val (.ref x)] [.ref x])) := Steps.trans (entry rfl) (by
    show Steps p.tables e below (s₁.setTop (mkF m 0 #[.val (.ref x)] [])) _
    refine XS.aloadN X0.here hexec rfl (hb hbytes d0) rfl rfl ?_
    exact Steps.refl _)
  obtain ⟨T2, X2, q2, st2⟩ := X0.hget hexec hown (wk W (.fieldLink "java/lang/String" 9 "java/lang/String" "value" "[B")) (hx.mv X0.warmed.alike hh0).2.1 (g := (mkF m 1 #[.val (.ref x)] [.ref x])) rfl (rest := []) rfl (hb hbytes d1)
  have hh2 := q2.trans hh0
  have hx2 := hx.mv X2.warmed.alike hh2
  have c3 : Steps p.tables e below (s₁.setTop (entryFrame m #[.ref x] 1)) (T2.setTop (mkF m 6 #[.val (.ref x)] [.ref x, .int (Int32.ofNat V.slots.size)])) := (c1.trans (st2 _ (Steps.refl _))).trans (by
    refine X2.alen hexec hx2.2.2.2.1 rfl rfl (hb hbytes d4) ?_
    refine XS.aloadN X2.here hexec rfl (hb hbytes d5) rfl rfl ?_
    exact Steps.refl _)
  obtain ⟨v4, T4, X4, E4, g4⟩ := X2.callV hexec (Cdr.law l x cd z) hown (wks W (virtW "java/lang/String" 335 "java/lang/String" Cdr.yN Cdr.yN)) rfl (by decide) (wk W Cdr.tab) (W := 1) (Nat.le_of_ble_eq_true rfl) (Nat.le_of_ble_eq_true rfl) (Nat.le_refl _) (Nat.le_refl _) (hx2.1.fc X2.warmed.alike) hx2.1.is (g := (mkF m 6 #[.val (.ref x)] [.ref x, .int (Int32.ofNat V.slots.size)])) rfl (by rw [hml]; rfl) c3 (argsL := []) (rest := [.int (Int32.ofNat V.slots.size)]) rfl rfl (by show 2 * 0 + (1 + 0) ≤ _; decide) (hb hbytes d6) (⟨rfl, hx2.2.2.1, hx.2.2.2.2.1.cd, s1.there X2.warmed.alike hh2, hz⟩)
  obtain ⟨rfl, q4⟩ := E4
  have c5 : Steps p.tables e below (s₁.setTop (entryFrame m #[.ref x] 1)) (T4.setTop (mkF m 10 #[.val (.ref x)] [.int (Int32.ofNat V.slots.size >>> (cd &&& 31))])) := Steps.trans g4 (by
    refine ishr X4.here hexec rfl (hb hbytes d9) rfl ?_
    exact Steps.refl _)
  rw [hx.2.2.2.2.1.len v31] at c5
  exact ⟨T4, some (.int (Int32.ofNat n)), _, _, _, X4, rfl, rfl, rfl, (fun h => by cases h), ⟨rfl, q4.trans hh2⟩, fun fs hl => c5.trans (X4.ireturnOut hexec hret rfl (Or.inl rfl) (hb hbytes d10) hl)⟩
theorem pays {l : Launch} {R : Room} {p : Program} {e : Env} {below : List Frame} {s : State} {sargs : Array Value} {len W : Nat} (x t : Addr) (V : Cell) (cd : Int32) (n : Nat) (f : Nat → Int32) (z : Int32) (htab : tab.before sargs s = true) (hfr : 2 ≤ R.frames) (hlo : W + 25 ≤ R.locals) :
    Back l R p e below s sargs yN len W (fun A₁ a₁ => A₁.cells + 0 ≤ R.cells ∧ A₁.slots + 0 ≤ R.slots ∧ P x t V cd n f z a₁ A₁.U) (fun A₁ _ v₁ B₁ => E n v₁ A₁.U B₁.U ∧ B₁.locs = A₁.locs ++ [] ∧ B₁.cells = A₁.cells + 0 ∧ B₁.slots = A₁.slots + 0) :=
  (law l x t V cd n f z).pays htab hfr (by omega)
end Len
end StrChars
namespace StrChars.Road
open Jvm Sem ClassFile Op Lib Jvm.Stand Jvm.Free Jvm.Free.XT
open Jvm.Lib.Cold (StaticIs)
theorem consq {a : Array Value} {s : State} {c : Jvm.Cond} {L : List Jvm.Cond} (h0 : c.before a s = true) (h : ∀ w ∈ L, w.before a s = true) : ∀ w ∈ c :: L, w.before a s = true := fun w hw => (List.mem_cons.mp hw).elim (fun e => e ▸ h0) (h w)
/-- the words of String.length(), either coding -/
abbrev wordsLen : List Jvm.Cond := [.code Len.yN Len.yB 1 (some .int), .initialized ST, .fieldLink ST 9 ST "value" "[B", .fieldLink ST 38 ST "COMPACT_STRINGS" "Z", .fieldLink ST 15 ST "coder" "B", .code Cdr.yN Cdr.yB 1 (some .byte), .methodLink ST 335 Cdr.yN, .declares Cdr.yN, .selects ST Cdr.yN Cdr.yN, .instanceMethod Cdr.yN]
theorem tabLen_of {a : Array Value} {s : State} (h : ∀ w ∈ wordsLen, w.before a s = true) : Len.tab.before a s = true := by
  have hc : Cdr.tab.before a s = true := unparts (wk h (.code Cdr.yN Cdr.yB 1 (some .byte))) (wks h (.initialized Cdr.yN.cls :: Cdr.site))
  have q := consq hc h
  exact unparts (wk q (.code Len.yN Len.yB 1 (some .int))) (wks q (.initialized Len.yN.cls :: Len.site))
theorem movedLen {Z s : State} {a0 args : Array Value} (hZ : Z.Warmed39 s.vm) (hw : ∀ d ∈ wordsLen, d.before a0 Z = true) : ∀ d ∈ wordsLen, d.before args s = true := fun d hd => by
  have q := hw d hd
  have t : ∀ d ∈ wordsLen, d = .arrayClass .byte ∨ (d.onTables && d.keepsFace) = true := by decide +kernel
  rcases t d hd with rfl | t
  · exact RoadKit.mvA hZ q
  · exact RoadKit.mv hZ q t
/-- the bytes of the chars cs, low before high -/
def wideBytes : List Int32 → List Value
  | [] => []
  | c :: cs => .int (lo8 c) :: .int (hi8 c) :: wideBytes cs
theorem wide_lo (d : Value) : ∀ (cs : List Int32) (j : Nat), j < cs.length → (wideBytes cs).getD (2 * j) d = .int (lo8 (cs.getD j 0))
  | [], j, h => absurd h (Nat.not_lt_zero j)
  | c :: cs, 0, _ => rfl
  | c :: cs, j + 1, h => by
    have q := wide_lo d cs j (by simpa using h)
    rw [show 2 * (j + 1) = 2 * j + 1 + 1 from by omega]
    simpa [wideBytes] using q
theorem wide_hi (d : Value) : ∀ (cs : List Int32) (j : Nat), j < cs.length → (wideBytes cs).getD (2 * j + 1) d = .int (hi8 (cs.getD j 0))
  | [], j, h => absurd h (Nat.not_lt_zero j)
  | c :: cs, 0, _ => rfl
  | c :: cs, j + 1, h => by
    have q := wide_hi d cs j (by simpa using h)
    rw [show 2 * (j + 1) + 1 = 2 * j + 1 + 1 + 1 from by omega]
    simpa [wideBytes] using q
theorem low_at (d : Value) (cs : List Int32) (j : Nat) (h : j < cs.length) : (cs.map fun c => Value.int (lo8 c)).getD j d = .int (lo8 (cs.getD j 0)) := by
  simp [List.getD_eq_getElem?_getD, h]
/-- an array of N2 bytes vs codes the chars cs by the coder cd -/
def CodA (cs : List Int32) (cd N2 : Int32) (vs : List Value) : Prop := (cd = 0 ∧ N2 = Int32.ofNat cs.length ∧ vs = (cs.map fun c => Value.int (lo8 c)) ∧ ∀ c ∈ cs, ¬ 255 < c) ∨ (cd = 1 ∧ N2 = Int32.ofNat (2 * cs.length) ∧ vs = wideBytes cs ∧ ∃ c ∈ cs, 255 < c)
theorem CodA.cod {cs : List Int32} {cd N2 : Int32} {vs : List Value} {V : Cell} (h : CodA cs cd N2 vs) (hn : 2 * cs.length < 2 ^ 31) (hs : V.slots.size = N2.toNatClampNeg) (hv : RoadKit.Has V vs (.int 0)) : Cod cd cs.length (fun j => cs.getD j 0) V := by
  rcases h with ⟨rfl, rfl, rfl, h⟩ | ⟨rfl, rfl, rfl, c, hc, hw⟩
  · rw [n32 (by omega)] at hs
    exact Or.inl ⟨rfl, hs, fun j hj => ⟨by rw [hv j (by omega), low_at _ _ _ hj], by
      have e : cs.getD j 0 = cs[j] := by simp [List.getD_eq_getElem?_getD, hj]
      show ¬ 255 < cs.getD j 0
      rw [e]; exact h _ (List.getElem_mem _)⟩⟩
  · rw [n32 (by omega)] at hs
    obtain ⟨j, hj, rfl⟩ := List.getElem_of_mem hc
    exact Or.inr ⟨rfl, hs, fun j hj => ⟨by rw [hv _ (by omega), wide_lo _ _ _ hj], by rw [hv _ (by omega), wide_hi _ _ _ hj]⟩, j, hj, by
      have e : cs.getD j 0 = cs[j] := by simp [List.getD_eq_getElem?_getD, hj]
      show 255 < cs.getD j 0
      rw [e]; exact hw⟩
/-- an object of exactly java/lang/String, its two fields found: as the laws ask it -/
theorem strObj {Z U : State} {a0 : Array Value} {kI : Nat} (wi : (Jvm.Cond.instantiable ST kI).before a0 Z = true) (al : Z.vm.Alike U.vm) {x : Addr} {v0 c0 : Value} (E : RoadKit.Exa Z U.heap x ST) (V : RoadKit.Fld Z U.heap x ST "value" "[B" v0) (C : RoadKit.Fld Z U.heap x ST "coder" "B" c0) :
    ∃ (D : Cell) (fV fC : Field), Blank ST x D U ∧ Found ST "value" "[B" fV U ∧ Found ST "coder" "B" fC U ∧ D.slots[fV.slot]? = some v0 ∧ D.slots[fC.slot]? = some c0 ∧ RoadKit.slotOf Z ST "value" "[B" = fV.slot ∧ RoadKit.slotOf Z ST "coder" "B" = fC.slot := by
  obtain ⟨D, cfV, kV, iV, fV, hD, gV, stV, knV, obV, asV, slV⟩ := V
  obtain ⟨D', cfC, kC, iC, fC, hD', gC, stC, -, -, asC, slC⟩ := C
  cases hD.symm.trans hD'
  obtain ⟨D2, kD, e1, e2, e3, e4, e5⟩ := E
  cases hD.symm.trans e1
  obtain ⟨c2, k2, i1, i2, i3, -⟩ := Cond.instantiable_spec wi
  cases e2.symm.trans i1
  cases e3.symm.trans i2
  obtain ⟨kU, u1, u2⟩ := al.2.2 _ _ e3
  exact ⟨D, fV, fC, ⟨hD, ⟨knV, fun q hq => by rw [hq] at obV; cases obV⟩, by rw [al.findClass]; exact e2, kU, u1, by rw [u2]; exact i3, by rw [u2]; exact e5 i3⟩, ⟨SBG.found_only al ⟨cfV, kV, iV, gV⟩, stV⟩, ⟨SBG.found_only al ⟨cfC, kC, iC, gC⟩, stC⟩, slV, slC, by simp [RoadKit.slotOf, gV], by simp [RoadKit.slotOf, gC]⟩
theorem sta_is {Z U : State} (al : Z.vm.Alike U.vm) {C n d : String} {v : Value} (S : RoadKit.Sta Z U.heap C n d v) : StaticIs U C n d v := by
  obtain ⟨cfS, iS, kS, fS, st, cS, t1, t2, t3, t4, t5, t6, t7⟩ := S
  exact StaticIs.there (s := { Z with heap := U.heap }) ⟨cfS, iS, kS, fS, st, cS, t1, t2, t3, t4, t5, (fun q => by rw [q] at t6; cases t6), t7⟩ al rfl
/-- **length() OF SUCH A STRING** -/
theorem lenW {p : Program} {l : Launch} {e : Env} {R : Room} {s : State} {args : Array Value} {below : List Frame} {len W : Nat} {Z : State} {a0 : Array Value} {h : Heap} (hZ : Z.Warmed39 s.vm) (hw : ∀ d ∈ wordsLen, d.before a0 Z = true) {kI : Nat} (wi : (Jvm.Cond.instantiable ST kI).before a0 Z = true)
    {x t : Addr} {kb : ClassId} {cs : List Int32} {cd N2 z : Int32} {vs : List Value} (E : RoadKit.Exa Z h x ST) (V : RoadKit.Fld Z h x ST "value" "[B" (.ref t)) (C : RoadKit.Fld Z h x ST "coder" "B" (.int cd)) (K : RoadKit.Arv Z h t kb .byte N2 vs (.int 0)) (hc : CodA cs cd N2 vs) (hb : ∀ c ∈ cs, ¬ c < 0 ∧ ¬ (65535 : Int32) < c)
    (S : RoadKit.Sta Z h ST "COMPACT_STRINGS" "Z" (.int z)) (hz : ¬ z = 0) (l2 : cs.length ≤ 4000) (hfr : 2 ≤ R.frames) (hlo : W + 25 ≤ R.locals) :
    Back l R p e below s args (⟨"java/lang/String", "length", "()I"⟩ : MethodName) len W (fun P a => a = #[.ref x] ∧ P.U.heap = h ∧ P.cells + 0 ≤ R.cells ∧ P.slots + 0 ≤ R.slots)
      (fun P _ v B => ∃ L, (v = some (.int (Int32.ofNat cs.length)) ∧ L = [] ∧ B.U.heap = h) ∧ B.locs = P.locs ++ L ∧ B.cells = P.cells + 0 ∧ B.slots = P.slots + 0) := by
  obtain ⟨A, K1, K2, K3, K4, K5, K6⟩ := K
  have hcod := hc.cod (by omega) K3 K5
  intro m meth c P g ig mk a X hg hsize hdg hW hn hp'
  obtain ⟨rfl, rfl, r1, r2⟩ := hp'
  have al : Z.vm.Alike P.U.vm := hZ.alike.trans X.warmed.alike
  obtain ⟨D, fV, fC, hB, F1, F2, g1, g2, -, -⟩ := strObj wi al E V C
  have hx : Txt x t A cd cs.length (fun j => cs.getD j 0) P.U := ⟨⟨_, hB.2.2.1, D, hB.1, rfl, by cases q : D.vm <;> first | rfl | exact absurd q (hB.2.1.2 _)⟩, Has.of hB F1 g1, Has.of hB F2 g2, ⟨K1.1, State.isArrayOf_alike al K1.2.1, K1.2.2, by rcases hcod with ⟨-, q, -⟩ | ⟨-, q, -⟩ <;> omega⟩, hcod, fun j hj => by
    have e : cs.getD j 0 = cs[j] := by simp [List.getD_eq_getElem?_getD, hj]
    show ¬ cs.getD j 0 < 0 ∧ ¬ 65535 < cs.getD j 0
    rw [e]; exact hb _ (List.getElem_mem _)⟩
  obtain ⟨v, B, X', ⟨⟨hv, hh⟩, hl, hk, hs⟩, st⟩ := Len.pays x t A cd cs.length (fun j => cs.getD j 0) z (tabLen_of (movedLen hZ hw)) hfr hlo m meth c P g ig mk _ X hg hsize hdg hW hn ⟨r1, r2, rfl, hx, sta_is al S, hz⟩
  exact ⟨v, B, X', ⟨[], ⟨hv, rfl, hh⟩, hl, hk, hs⟩, st⟩
end StrChars.Road
namespace StrChars.Road
open Jvm Sem ClassFile Op Lib Jvm.Stand Jvm.Free Jvm.Free.XT
open Jvm.Lib.Cold (StaticIs)
/-- what backV says of its String, as the contracts of this text ask it: cs's low bytes, coder 0 -/
theorem codOf {cs : List Int32} {n : Nat} (hn : cs.length = n) (hb : ∀ c ∈ cs, ¬ 255 < c) : CodA cs 0 (Int32.ofNat n) ((cs.map lo8).map Value.int) := Or.inl ⟨rfl, by rw [hn], by simp [List.map_map, Function.comp_def], hb⟩
end StrChars.Road
end Jvm.Pilot.@@N@@
namespace Jvm.Pilot.@@N@@
namespace OwnS
open Jvm Jvm.ClassFile Sem Op Lib Jvm.Free Jvm.Stand Jvm.LawKit Jvm.RoadKit Bundle Jvm.OwnKit
abbrev ST : String := "java/lang/String"
/-- a String that spells cs -/
def Str (Z : State) (h : Heap) (x : Addr) (cs : List Int32) : Prop := Exa Z h x ST ∧ ∃ (t : Addr) (kb : ClassId) (cd N2 : Int32) (vs : List Value), Fld Z h x ST "value" "[B" (.ref t) ∧ Fld Z h x ST "coder" "B" (.int cd) ∧ Arv Z h t kb .byte N2 vs (.int 0) ∧ StrChars.Road.CodA cs cd N2 vs ∧ (∀ c ∈ cs, ¬ c < 0 ∧ ¬ (65535 : Int32) < c) ∧ cs.length ≤ 4000
section A
variable {k : Ctx} {R : Room} {Z : State} {EL : List (String × Nat)} {n0 n W : Nat} {h h' : Heap} {x b x' : Addr} {cs ds : List Int32} {a0 : Array Value} {kC : ClassId} {d v0 c0 : Value} {z N : Int32}
theorem Str.ext (S : Str Z h x cs) (E : Ext h h') : Str Z h' x cs := by
  obtain ⟨e, t, kb, cd, N2, vs, v, c, a, r⟩ := S
  exact ⟨e.ext E, t, kb, cd, N2, vs, v.ext E, c.ext E, a.ext E, r⟩
theorem old_le (hO : Old Z n0 h) : n0 ≤ h.size := hO.1 ▸ hO.2.1
theorem payV (hEL : EW Z a0 EL) (hws : ∀ d ∈ StrChars.Road.words, d.before a0 Z = true) (wi : (Jvm.Cond.instantiable ST 4).before a0 Z = true) (hO : Old Z n0 h) (hx0 : n0 ≤ x) (E : Exa Z h x ST) (V : Fld Z h x ST "value" "[B" v0) (C : Fld Z h x ST "coder" "B" c0) (K : Arv Z h b kC .char N (cs.map Value.int) d) (S : Sta Z Z.heap ST "COMPACT_STRINGS" "Z" (.int z)) (hz : ¬ z = 0)
    (hn : cs.length = n) (hN : N = Int32.ofNat n) (l0 : 0 < n) (l2 : n ≤ 4000) (hp : ∀ c ∈ cs, ¬ c < 0 ∧ ¬ (255 : Int32) < c) (hfr : 4 ≤ R.frames) (hlo : W + 65 ≤ R.locals) :
    Paid k R Z EL n0 (⟨"java/lang/String", "<init>", "([C)V"⟩ : MethodName) W #[.ref x, .ref b] h [x] 1 n (fun v h' => v = none ∧ Str Z h' x cs) :=
  Paid.of_back hEL (fun p l e s args below hZ => StrChars.Road.backV hZ hws wi hx0 (old_le hO) E V C K (S.ext hO.2) hz hn hN l0 l2 hp rfl hfr hlo) (fun v h' L q => by
    obtain ⟨q1, q2, q3, q4, q5, t, kb, -, -, -, q6, q7⟩ := q
    subst hN
    refine ⟨⟨q1, q4, t, kb, 0, _, _, q6, q5, q7, StrChars.Road.codOf hn (fun c hc => (hp c hc).2), fun c hc => ⟨(hp c hc).1, fun q => (hp c hc).2 ?_⟩, by omega⟩, q3, q2⟩
    rw [Int32.lt_iff_toInt_lt] at q ⊢
    have e0 : (255 : Int32).toInt = 255 := rfl
    have e1 : (65535 : Int32).toInt = 65535 := rfl
    omega)
end A
/-! the empty String -/
section Emp0
variable {k : Ctx} {R : Room} {Z : State} {EL : List (String × Nat)} {n0 n W : Nat} {h h' : Heap} {x b : Addr} {cs : List Int32} {a0 : Array Value} {kC : ClassId} {d v0 c0 : Value} {z N : Int32}
theorem e4_8 : decode StrChars.New4.yB 8 = .ok (.aload_n 0, 1) := by decide +kernel
theorem e4_9 : decode StrChars.New4.yB 9 = .ok (.ldc 7, 2) := by decide +kernel
theorem e4_11 : decode StrChars.New4.yB 11 = .ok (.getfield 9, 3) := by decide +kernel
theorem e4_14 : decode StrChars.New4.yB 14 = .ok (.putfield 9, 3) := by decide +kernel
theorem e4_17 : decode StrChars.New4.yB 17 = .ok (.aload_n 0, 1) := by decide +kernel
theorem e4_18 : decode StrChars.New4.yB 18 = .ok (.ldc 7, 2) := by decide +kernel
theorem e4_20 : decode StrChars.New4.yB 20 = .ok (.getfield 15, 3) := by decide +kernel
theorem e4_23 : decode StrChars.New4.yB 23 = .ok (.putfield 15, 3) := by decide +kernel
theorem e4_26 : decode StrChars.New4.yB 26 = .ok (.return_, 1) := by decide +kernel
theorem pnST : plainName "java/lang/String" = true := by first | (simp [plainName, overriddenIn]; done) | decide +kernel
theorem pd4 : parseMethodDescriptor "([CIILjava/lang/Void;)V" = some ⟨[.array .char, .int, .int, .object "java/lang/Void"], none⟩ := by decide +kernel
abbrev rm4 : Room := { frames := 1, cells := 4, slots := 8, locals := 12 }
abbrev rm1 : Room := { frames := 2, cells := 4, slots := 8, locals := 29 }
/-- the words that the empty road asks beside StrChars.Road.words -/
abbrev wordsE : List Jvm.Cond := [.stringLink ST 7 "", .instantiable ST 4, .soleField ST "value", .soleField ST "coder"]
theorem atomsOf (hws : ∀ d ∈ StrChars.Road.words, d.before a0 Z = true) (wi : (Jvm.Cond.instantiable ST 4).before a0 Z = true) (w1 : (Jvm.Cond.soleField ST "value").before a0 Z = true) (w2 : (Jvm.Cond.soleField ST "coder").before a0 Z = true) : ∀ a ∈ Bundle.stringAtoms, a.before a0 Z = true := fun a ha => by
  simp only [Bundle.stringAtoms, Bundle.sN, List.mem_cons, List.not_mem_nil, or_false] at ha
  rcases ha with rfl | rfl | rfl | rfl | rfl | rfl | rfl
  · exact hws _ (by decide +kernel)
  · exact wi
  · exact hws _ (by decide +kernel)
  · exact hws _ (by decide +kernel)
  · exact hws _ (by decide +kernel)
  · exact w1
  · exact w2
set_option maxRecDepth 65536 in
set_option maxHeartbeats 4000000 in
theorem met4 (hEL : EW Z a0 EL) (hmem : (ST, 7) ∈ EL) (hws : ∀ d ∈ StrChars.Road.words, d.before a0 Z = true) (hwe : ∀ d ∈ wordsE, d.before a0 Z = true) (hO : Old Z n0 h) (hx0 : n0 ≤ x) (E : Exa Z h x ST) (V : Fld Z h x ST "value" "[B" v0) (C : Fld Z h x ST "coder" "B" c0) :
    Met Z EL n0 StrChars.New4.yN StrChars.New4.yB 6 none rm4 #[.ref x, .ref b, .int 0, .int 0, .null] h [x] (fun v h' => v = none ∧ Str Z h' x []) := by
  have wi := hwe (.instantiable ST 4) (by decide +kernel)
  have wl := hwe (.stringLink ST 7 "") (by decide +kernel)
  have wS := atomsOf hws wi (hwe _ (by decide +kernel)) (hwe _ (by decide +kernel))
  have wfv := hws (.fieldLink ST 9 ST "value" "[B") (by decide +kernel)
  have wfc := hws (.fieldLink ST 15 ST "coder" "B") (by decide +kernel)
  have wlv := hws (.laysFinal ST ST "value" "[B") (by decide +kernel)
  have wlc := hws (.laysFinal ST ST "coder" "B") (by decide +kernel)
  refine Met.of_walk (a0 := a0) pnST hEL hO (allS ⟨E.lt, hx0⟩ all0) (L0 := #[.val (.ref x), .val (.ref b), .val (.int 0), .val (.int 0), .val .null, .unset]) (fun m => by first | (simp [entryFrame, mkF, argsToLocals, Value.category]; done) | rfl) rfl ?_
  intro k H0
  have H1 := H0.aloadN 1 StrChars.New4.d0 rfl
  have H2 := H1.initO 4 (hws (.methodLink ST 1 Lib.objectInit) (by decide +kernel)) (hws (.instanceMethod Lib.objectInit) (by decide +kernel)) (hws (.code Lib.objectInit ⟨#[0xb1]⟩ 1 none) (by decide +kernel)) StrChars.New4.d1 (by decide) (W := 0) (by decide) (by decide)
  have H3 := H2.iloadN 5 StrChars.New4.d4 rfl
  have H4 := H3.ifNo 8 StrChars.New4.d5 rfl
  have H5 := H4.aloadN 9 e4_8 rfl
  obtain ⟨a1, h1, b1, k1, E1, A1, C1, V1, K1, N1, H6⟩ := H5.ldcR 11 wl wS hEL hmem (vs := []) (z := 0) ⟨by simp, rfl⟩ (by decide) rfl e4_9 (n := 0) (by decide) (by decide) (by decide) (by decide)
  have H7 := H6.getF 14 wfv V1 e4_11
  obtain ⟨h2, W2, K2, E2, F2, H8⟩ := H7.putF 17 wfv (V.ext E1) (E.ext E1) (Or.inr ⟨wlv, rfl, rfl⟩) wi (ty := .array .byte) (by decide) rfl rfl e4_14 (List.mem_cons_self ..)
  have nvc : RoadKit.slotOf Z ST "coder" "B" ≠ RoadKit.slotOf Z ST "value" "[B" := slot_ne (Or.inr wlc) (Or.inr wlv) (by decide) (t := .byte) (by decide) (t' := .array .byte) (by decide)
  have C2 : Fld Z h2 x ST "coder" "B" c0 := (C.ext E1).other W2 (Or.inr nvc)
  have H9 := H8.aloadN 18 e4_17 rfl
  obtain ⟨a3, h3, b3, k3, E3, A3, C3, V3, K3, N3, H10⟩ := H9.ldcR 20 wl wS hEL hmem (vs := []) (z := 0) ⟨by simp, rfl⟩ (by decide) rfl e4_18 (n := 0) (by decide) (by decide) (by decide) (by decide)
  have H11 := H10.getF 23 wfc C3 e4_20
  obtain ⟨h4, W4, K4, E4, F4, H12⟩ := H11.putF 26 wfc (C2.ext E3) (E2.ext E3) (Or.inr ⟨wlc, rfl, rfl⟩) wi (ty := .byte) (by decide) rfl rfl e4_23 (List.mem_cons_self ..)
  have nx : b1 ∉ [x] := ninS (fun q => (N1 x (List.mem_cons_self ..)).2 q.symm) nin0
  refine H12.retV rfl e4_26 (by decide) (by decide) ⟨rfl, E4, b1, k1, 0, 0, [], (F2.ext E3).other W4 (Or.inr (Ne.symm nvc)), F4, ((K1.keep K2 nx).ext E3).keep K4 nx, Or.inl ⟨rfl, rfl, rfl, by simp⟩, by simp, by simp⟩
set_option maxRecDepth 65536 in
set_option maxHeartbeats 4000000 in
theorem met1 (hEL : EW Z a0 EL) (hmem : (ST, 7) ∈ EL) (hws : ∀ d ∈ StrChars.Road.words, d.before a0 Z = true) (hwe : ∀ d ∈ wordsE, d.before a0 Z = true) (hO : Old Z n0 h) (hx0 : n0 ≤ x) (E : Exa Z h x ST) (V : Fld Z h x ST "value" "[B" v0) (C : Fld Z h x ST "coder" "B" c0) {vs : List Value} (K : Arv Z h b kC .char 0 vs d) :
    Met Z EL n0 StrChars.New1.yN StrChars.New1.yB 2 none rm1 #[.ref x, .ref b] h [x] (fun v h' => v = none ∧ Str Z h' x []) := by
  refine Met.of_walk (a0 := a0) pnST hEL hO (allS ⟨E.lt, hx0⟩ all0) (L0 := #[.val (.ref x), .val (.ref b)]) (fun m => by first | (simp [entryFrame, mkF, argsToLocals, Value.category]; done) | rfl) rfl ?_
  intro k H0
  have H1 := H0.aloadN 1 StrChars.New1.d0 rfl
  have H2 := H1.aloadN 2 StrChars.New1.d1 rfl
  have H3 := H2.iconst 3 0 StrChars.New1.d2
  have H4 := H3.aloadN 4 StrChars.New1.d3 rfl
  have H5 := H4.alen 5 K StrChars.New1.d4
  have H6 := H5.anull 6 StrChars.New1.d5
  obtain ⟨v, h', ⟨rfl, hQ⟩, hK, H7⟩ := H6.callI 9 (z := StrChars.New4.yN) rfl (hws (.methodLink ST 27 StrChars.New4.yN) (by decide +kernel)) (hws (.instanceMethod StrChars.New4.yN) (by decide +kernel)) (hws (.code StrChars.New4.yN StrChars.New4.yB 6 none) (by decide +kernel)) (by decide) (a := x) (argsL := [.ref b, .int 0, .int 0, .null]) (rest := [])
    (Paid.of_met (W := 0) (met4 (b := b) hEL hmem hws hwe hO hx0 E V C) (hws (.code StrChars.New4.yN StrChars.New4.yB 6 none) (by decide +kernel)) (hws (.initialized ST) (by decide +kernel)) hEL (by decide) (by decide)) (lenOf pd4 rfl) rfl (by decide) StrChars.New1.d6 (by decide) (by decide) (fun x q => q)
  exact H7.retV rfl StrChars.New1.d9 (by decide) (by decide) ⟨rfl, hQ⟩
/-- new String(char[]) of any known chars up to 255, the empty one too: 4 cells, n + 8 slots -/
theorem payStr (hEL : EW Z a0 EL) (hmem : (ST, 7) ∈ EL) (hws : ∀ d ∈ StrChars.Road.words, d.before a0 Z = true) (hwe : ∀ d ∈ wordsE, d.before a0 Z = true) (hO : Old Z n0 h) (hx0 : n0 ≤ x) (E : Exa Z h x ST) (V : Fld Z h x ST "value" "[B" v0) (C : Fld Z h x ST "coder" "B" c0) (K : Arv Z h b kC .char N (cs.map Value.int) d) (S : Sta Z Z.heap ST "COMPACT_STRINGS" "Z" (.int z)) (hz : ¬ z = 0)
    {cap : Nat} (hn : cs.length = n) (hcap : n ≤ cap) (hN : N = Int32.ofNat n) (l2 : cap ≤ 4000) (hp : ∀ c ∈ cs, ¬ c < 0 ∧ ¬ (255 : Int32) < c) (hfr : 4 ≤ R.frames) (hlo : W + 65 ≤ R.locals) :
    Paid k R Z EL n0 (⟨"java/lang/String", "<init>", "([C)V"⟩ : MethodName) W #[.ref x, .ref b] h [x] 4 (cap + 8) (fun v h' => v = none ∧ Str Z h' x cs) := by
  rcases Nat.eq_zero_or_pos n with h0 | h0
  · subst h0
    subst hN
    obtain rfl : cs = [] := List.eq_nil_of_length_eq_zero hn
    exact (Paid.of_met (met1 hEL hmem hws hwe hO hx0 E V C K) (hws (.code StrChars.New1.yN StrChars.New1.yB 2 none) (by decide +kernel)) (hws (.initialized ST) (by decide +kernel)) hEL (by show 2 + 1 ≤ _; omega) (by show W + (2 + 11) + 29 ≤ _; omega)).more (by decide) (by show 8 ≤ _; omega)
  · exact (payV hEL hws (hwe _ (by decide +kernel)) hO hx0 E V C K S hz hn hN h0 (by omega) hp hfr hlo).more (by decide) (by omega)
end Emp0
/-! equals, isEmpty, length, charAt -/
section Calls0
variable {k : Ctx} {R : Room} {Z : State} {EL : List (String × Nat)} {n0 W : Nat} {h : Heap} {x x' : Addr} {cs ds : List Int32} {a0 : Array Value} {z : Int32}
theorem frOf {L : List Loc} (q : L = []) : Fr n0 L := by subst q; exact Fr.nil n0
theorem payLen (hEL : EW Z a0 EL) (hw : ∀ d ∈ StrChars.Road.wordsLen, d.before a0 Z = true) (wi : (Jvm.Cond.instantiable ST 4).before a0 Z = true) (hO : Old Z n0 h) (A : Str Z h x cs) (S : Sta Z Z.heap ST "COMPACT_STRINGS" "Z" (.int z)) (hz : ¬ z = 0) (hfr : 2 ≤ R.frames) (hlo : W + 25 ≤ R.locals) :
    Paid k R Z EL n0 (⟨"java/lang/String", "length", "()I"⟩ : MethodName) W #[.ref x] h [] 0 0 (fun v h' => h' = h ∧ v = some (.int (Int32.ofNat cs.length))) := by
  obtain ⟨a1, a2, a3, a4, a5, a6, a7, a8, a9, a10, a11, a12⟩ := A
  exact Paid.of_back (QB := fun v h' L => v = some (.int (Int32.ofNat cs.length)) ∧ L = [] ∧ h' = h) hEL (fun p l e s args below hZ => StrChars.Road.lenW hZ hw wi a1 a7 a8 a9 a10 a11 (S.ext hO.2) hz a12 hfr hlo) (fun v h' L q => by
    obtain ⟨q1, q2, rfl⟩ := q
    exact ⟨⟨rfl, q1⟩, Keep.refl _ _, frOf q2⟩)
end Calls0
end OwnS
end Jvm.Pilot.@@N@@
namespace Jvm.Pilot.@@N@@
open Jvm Jvm.ClassFile Sem Op Lib Jvm.Free Jvm.Stand Jvm.LawKit Jvm.RoadKit Bundle Jvm.OwnKit OwnS Jvm.Pilot.@@N@@.Jvm.D Jvm.Free.Exc

abbrev C8 (x : Int32) : Prop := ¬ x < 0 ∧ ¬ (255 : Int32) < x
theorem C8.nar {x : Int32} (h : C8 x) : nar .char x = x := nar_char h.1 (fun q => h.2 (by rw [Int32.lt_iff_toInt_lt] at q ⊢; have e0 : (255 : Int32).toInt = 255 := rfl; have e1 : (65535 : Int32).toInt = 65535 := rfl; omega))
theorem c8m (p : Int32) : C8 ((p &&& (255 : Int32)).toUInt32.toUInt16.toUInt32.toInt32) := by
  rw [i2c_mask]
  obtain ⟨q1, q2⟩ := c_and p 255 (by decide)
  have e0 : (255 : Int32).toInt = 255 := rfl
  have e1 : (0 : Int32).toInt = 0 := rfl
  constructor <;> rw [Int32.lt_iff_toInt_lt] <;> omega
theorem mask3 (p : Int32) : (p &&& (3 : Int32)) = 0 ∨ (p &&& (3 : Int32)) = 1 ∨ (p &&& (3 : Int32)) = 2 ∨ (p &&& (3 : Int32)) = 3 := by
  obtain ⟨q1, q2⟩ := c_and p 3 (by decide)
  have e3 : (3 : Int32).toInt = 3 := rfl
  have e2 : (2 : Int32).toInt = 2 := rfl
  have e1 : (1 : Int32).toInt = 1 := rfl
  have e0 : (0 : Int32).toInt = 0 := rfl
  have : (p &&& 3).toInt = 0 ∨ (p &&& 3).toInt = 1 ∨ (p &&& 3).toInt = 2 ∨ (p &&& 3).toInt = 3 := by omega
  rcases this with q | q | q | q
  · exact Or.inl (Int32.toInt_inj.mp (q.trans e0.symm))
  · exact Or.inr (Or.inl (Int32.toInt_inj.mp (q.trans e1.symm)))
  · exact Or.inr (Or.inr (Or.inl (Int32.toInt_inj.mp (q.trans e2.symm))))
  · exact Or.inr (Or.inr (Or.inr (Int32.toInt_inj.mp (q.trans e3.symm))))
abbrev In4 (t : Int32) : Prop := t = 0 ∨ t = 1 ∨ t = 2 ∨ t = 3
def chs (l x0 x1 x2 : Int32) : List Int32 := if l = 0 then [] else if l = 1 then [x0] else if l = 2 then [x0, x1] else [x0, x1, x2]
theorem chs_len {l : Int32} (x0 x1 x2 : Int32) (hl : In4 l) : l = Int32.ofNat (chs l x0 x1 x2).length := by rcases hl with rfl | rfl | rfl | rfl <;> rfl
theorem chs_le (l x0 x1 x2 : Int32) : (chs l x0 x1 x2).length ≤ 3 := by
  unfold chs
  split
  · simp
  split
  · simp
  split <;> simp
theorem chs_c8 {l x0 x1 x2 : Int32} (c0 : C8 x0) (c1 : C8 x1) (c2 : C8 x2) : ∀ c ∈ chs l x0 x1 x2, ¬ c < 0 ∧ ¬ (255 : Int32) < c := by
  intro c hc
  unfold chs at hc
  split at hc
  · simp at hc
  split at hc
  · simp only [List.mem_cons, List.not_mem_nil, or_false] at hc; subst hc; exact c0
  split at hc
  · simp only [List.mem_cons, List.not_mem_nil, or_false] at hc; rcases hc with rfl | rfl <;> first | exact c0 | exact c1
  · simp only [List.mem_cons, List.not_mem_nil, or_false] at hc; rcases hc with rfl | rfl | rfl <;> first | exact c0 | exact c1 | exact c2

theorem chs_0 (x0 x1 x2 : Int32) : chs 0 x0 x1 x2 = [] := rfl
theorem chs_1 (x0 x1 x2 : Int32) : chs 1 x0 x1 x2 = [x0] := rfl
theorem chs_2 (x0 x1 x2 : Int32) : chs 2 x0 x1 x2 = [x0, x1] := rfl
theorem chs_3 (x0 x1 x2 : Int32) : chs 3 x0 x1 x2 = [x0, x1, x2] := rfl

theorem dTh_0 : decode jdk_78_method_2_code 0 = .ok (.aload_n 0, 1) := by decide +kernel
theorem dTh_1 : decode jdk_78_method_2_code 1 = .ok (.invokespecial 1, 3) := by decide +kernel
theorem dTh_4 : decode jdk_78_method_2_code 4 = .ok (.aload_n 0, 1) := by decide +kernel
theorem dTh_5 : decode jdk_78_method_2_code 5 = .ok (.aload_n 0, 1) := by decide +kernel
theorem dTh_6 : decode jdk_78_method_2_code 6 = .ok (.putfield 7, 3) := by decide +kernel
theorem dTh_9 : decode jdk_78_method_2_code 9 = .ok (.aload_n 0, 1) := by decide +kernel
theorem dTh_10 : decode jdk_78_method_2_code 10 = .ok (.getstatic 13, 3) := by decide +kernel
theorem dTh_13 : decode jdk_78_method_2_code 13 = .ok (.putfield 17, 3) := by decide +kernel
theorem dTh_16 : decode jdk_78_method_2_code 16 = .ok (.aload_n 0, 1) := by decide +kernel
theorem dTh_17 : decode jdk_78_method_2_code 17 = .ok (.getstatic 20, 3) := by decide +kernel
theorem dTh_20 : decode jdk_78_method_2_code 20 = .ok (.putfield 24, 3) := by decide +kernel
theorem dTh_23 : decode jdk_78_method_2_code 23 = .ok (.aload_n 0, 1) := by decide +kernel
theorem dTh_24 : decode jdk_78_method_2_code 24 = .ok (.invokevirtual 27, 3) := by decide +kernel
theorem dTh_27 : decode jdk_78_method_2_code 27 = .ok (.pop, 1) := by decide +kernel
theorem dTh_28 : decode jdk_78_method_2_code 28 = .ok (.aload_n 0, 1) := by decide +kernel
theorem dTh_29 : decode jdk_78_method_2_code 29 = .ok (.aload_n 1, 1) := by decide +kernel
theorem dTh_30 : decode jdk_78_method_2_code 30 = .ok (.putfield 31, 3) := by decide +kernel
theorem dTh_33 : decode jdk_78_method_2_code 33 = .ok (.return_, 1) := by decide +kernel
theorem dXc_0 : decode jdk_59_method_2_code 0 = .ok (.aload_n 0, 1) := by decide +kernel
theorem dXc_1 : decode jdk_59_method_2_code 1 = .ok (.aload_n 1, 1) := by decide +kernel
theorem dXc_2 : decode jdk_59_method_2_code 2 = .ok (.invokespecial 7, 3) := by decide +kernel
theorem dXc_5 : decode jdk_59_method_2_code 5 = .ok (.return_, 1) := by decide +kernel
theorem dFa_0 : decode prog_15_method_1_code 0 = .ok (.aload_n 0, 1) := by decide +kernel
theorem dFa_1 : decode prog_15_method_1_code 1 = .ok (.aload_n 1, 1) := by decide +kernel
theorem dFa_2 : decode prog_15_method_1_code 2 = .ok (.invokespecial 1, 3) := by decide +kernel
theorem dFa_5 : decode prog_15_method_1_code 5 = .ok (.return_, 1) := by decide +kernel
theorem dRe_0 : decode prog_17_method_1_code 0 = .ok (.aload_n 0, 1) := by decide +kernel
theorem dRe_1 : decode prog_17_method_1_code 1 = .ok (.aload_n 2, 1) := by decide +kernel
theorem dRe_2 : decode prog_17_method_1_code 2 = .ok (.invokespecial 1, 3) := by decide +kernel
theorem dRe_5 : decode prog_17_method_1_code 5 = .ok (.aload_n 0, 1) := by decide +kernel
theorem dRe_6 : decode prog_17_method_1_code 6 = .ok (.iload_n 1, 1) := by decide +kernel
theorem dRe_7 : decode prog_17_method_1_code 7 = .ok (.putfield 7, 3) := by decide +kernel
theorem dRe_10 : decode prog_17_method_1_code 10 = .ok (.return_, 1) := by decide +kernel
theorem dNF_0 : decode prog_17_method_4_code 0 = .ok (.new 8, 3) := by decide +kernel
theorem dNF_3 : decode prog_17_method_4_code 3 = .ok (.dup, 1) := by decide +kernel
theorem dNF_4 : decode prog_17_method_4_code 4 = .ok (.sipush 413, 3) := by decide +kernel
theorem dNF_7 : decode prog_17_method_4_code 7 = .ok (.aload_n 0, 1) := by decide +kernel
theorem dNF_8 : decode prog_17_method_4_code 8 = .ok (.invokespecial 13, 3) := by decide +kernel
theorem dNF_11 : decode prog_17_method_4_code 11 = .ok (.areturn, 1) := by decide +kernel
theorem dGM_0 : decode jdk_78_method_6_code 0 = .ok (.aload_n 0, 1) := by decide +kernel
theorem dGM_1 : decode jdk_78_method_6_code 1 = .ok (.getfield 31, 3) := by decide +kernel
theorem dGM_4 : decode jdk_78_method_6_code 4 = .ok (.areturn, 1) := by decide +kernel
theorem dEq_0 : decode jdk_42_method_66_code 0 = .ok (.aload_n 0, 1) := by decide +kernel
theorem dEq_1 : decode jdk_42_method_66_code 1 = .ok (.aload_n 1, 1) := by decide +kernel
theorem dEq_2 : decode jdk_42_method_66_code 2 = .ok (.if_acmp .ne 5, 3) := by decide +kernel
theorem dEq_5 : decode jdk_42_method_66_code 5 = .ok (.iconst 1, 1) := by decide +kernel
theorem dEq_6 : decode jdk_42_method_66_code 6 = .ok (.ireturn, 1) := by decide +kernel
theorem dEq_7 : decode jdk_42_method_66_code 7 = .ok (.aload_n 1, 1) := by decide +kernel
theorem dEq_8 : decode jdk_42_method_66_code 8 = .ok (.instanceof 10, 3) := by decide +kernel
theorem dEq_11 : decode jdk_42_method_66_code 11 = .ok (.ifCond .eq 43, 3) := by decide +kernel
theorem dEq_14 : decode jdk_42_method_66_code 14 = .ok (.aload_n 1, 1) := by decide +kernel
theorem dEq_15 : decode jdk_42_method_66_code 15 = .ok (.checkcast 10, 3) := by decide +kernel
theorem dEq_18 : decode jdk_42_method_66_code 18 = .ok (.astore_n 2, 1) := by decide +kernel
theorem dEq_19 : decode jdk_42_method_66_code 19 = .ok (.getstatic 38, 3) := by decide +kernel
theorem dEq_22 : decode jdk_42_method_66_code 22 = .ok (.ifCond .eq 14, 3) := by decide +kernel
theorem dEq_25 : decode jdk_42_method_66_code 25 = .ok (.aload_n 0, 1) := by decide +kernel
theorem dEq_26 : decode jdk_42_method_66_code 26 = .ok (.getfield 15, 3) := by decide +kernel
theorem dEq_29 : decode jdk_42_method_66_code 29 = .ok (.aload_n 2, 1) := by decide +kernel
theorem dEq_30 : decode jdk_42_method_66_code 30 = .ok (.getfield 15, 3) := by decide +kernel
theorem dEq_33 : decode jdk_42_method_66_code 33 = .ok (.if_icmp .ne 21, 3) := by decide +kernel
theorem dEq_36 : decode jdk_42_method_66_code 36 = .ok (.aload_n 0, 1) := by decide +kernel
theorem dEq_37 : decode jdk_42_method_66_code 37 = .ok (.getfield 9, 3) := by decide +kernel
theorem dEq_40 : decode jdk_42_method_66_code 40 = .ok (.aload_n 2, 1) := by decide +kernel
theorem dEq_41 : decode jdk_42_method_66_code 41 = .ok (.getfield 9, 3) := by decide +kernel
theorem dEq_44 : decode jdk_42_method_66_code 44 = .ok (.invokestatic 541, 3) := by decide +kernel
theorem dEq_47 : decode jdk_42_method_66_code 47 = .ok (.ifCond .eq 7, 3) := by decide +kernel
theorem dEq_50 : decode jdk_42_method_66_code 50 = .ok (.iconst 1, 1) := by decide +kernel
theorem dEq_51 : decode jdk_42_method_66_code 51 = .ok (.goto 4, 3) := by decide +kernel
theorem dEq_54 : decode jdk_42_method_66_code 54 = .ok (.iconst 0, 1) := by decide +kernel
theorem dEq_55 : decode jdk_42_method_66_code 55 = .ok (.ireturn, 1) := by decide +kernel
theorem pd_0 : parseMethodDescriptor "(Ljava/lang/String;)V" = some ⟨[(.object "java/lang/String")], none⟩ := by decide +kernel
theorem pd_1 : parseMethodDescriptor "(Ljava/lang/String;)V" = some ⟨[(.object "java/lang/String")], none⟩ := by decide +kernel
theorem pd_2 : parseMethodDescriptor "(Ljava/lang/String;)V" = some ⟨[(.object "java/lang/String")], none⟩ := by decide +kernel
theorem pd_3 : parseMethodDescriptor "(ILjava/lang/String;)V" = some ⟨[.int, (.object "java/lang/String")], none⟩ := by decide +kernel
theorem pd_4 : parseMethodDescriptor "(Ljava/lang/String;)Lcom/example/wareline/wareline/Refusal;" = some ⟨[(.object "java/lang/String")], (some (.object "com/example/wareline/wareline/Refusal"))⟩ := by decide +kernel
theorem pd_5 : parseMethodDescriptor "()Ljava/lang/String;" = some ⟨[], (some (.object "java/lang/String"))⟩ := by decide +kernel
theorem pd_6 : parseMethodDescriptor "(Ljava/lang/Object;)Z" = some ⟨[(.object "java/lang/Object")], (some .boolean)⟩ := by decide +kernel
theorem pd_7 : parseMethodDescriptor "([C)V" = some ⟨[(.array .char)], none⟩ := by decide +kernel
theorem pd_8 : parseMethodDescriptor "()I" = some ⟨[], (some .int)⟩ := by decide +kernel
theorem pnL : plainName "com/example/wareline/wareline/RefusalTooLargePinLaw" = true := by first | (simp [plainName, overriddenIn]; done) | decide +kernel
theorem pnR : plainName "com/example/wareline/wareline/Refusal" = true := by first | (simp [plainName, overriddenIn]; done) | decide +kernel
theorem pnF : plainName "com/example/wareline/wareline/Failure" = true := by first | (simp [plainName, overriddenIn]; done) | decide +kernel
theorem pnX : plainName "java/lang/Exception" = true := by first | (simp [plainName, overriddenIn]; done) | decide +kernel
theorem pnT : plainName "java/lang/Throwable" = true := by first | (simp [plainName, overriddenIn]; done) | decide +kernel
abbrev EL1 : List (String × Nat) := [(ST, 7)]
abbrev RCn : String := "com/example/wareline/wareline/Refusal"
abbrev rmTh : Room := { frames := 3, cells := 1, slots := 2752, locals := 42 }
abbrev rmXc : Room := { frames := 4, cells := 1, slots := 2752, locals := 55 }
abbrev rmFa : Room := { frames := 5, cells := 1, slots := 2752, locals := 68 }
abbrev rmRe : Room := { frames := 6, cells := 1, slots := 2752, locals := 81 }
abbrev rmNF : Room := { frames := 7, cells := 2, slots := 2759, locals := 97 }
theorem narOf {v : Value} {n : String} (h : v.isRef = true) : narrow (.object n) v = v := by cases v <;> first | rfl | (simp [Value.isRef] at h)
theorem fitOf {v : Value} {n : String} (h : v.isRef = true) : fits (.object n) v = true := by cases v <;> first | rfl | (simp [Value.isRef] at h)
set_option maxRecDepth 65536 in
set_option maxHeartbeats 4000000 in
theorem metTh {Z : State} {a0 : Array Value} {n0 : Nat} {h : Heap} (hw : ∀ d ∈ tables_1, d.before a0 Z = true) (hO : Old Z n0 h) (hTK : Z.vm.MethodsKnown) {u sn : Addr} (Su : Sta Z Z.heap "java/lang/Throwable" "UNASSIGNED_STACK" "[Ljava/lang/StackTraceElement;" (.ref u)) (Sn : Sta Z Z.heap "java/lang/Throwable" "SUPPRESSED_SENTINEL" "Ljava/util/List;" (.ref sn)) {a : Addr} {mg : Value} (h_mg : mg.isRef = true) (ha : n0 ≤ a) (E : Exa Z h a RCn) (N : Unt h a) (F_cause : Fld Z h a "java/lang/Throwable" "cause" "Ljava/lang/Throwable;" .null) (F_stackTrace : Fld Z h a "java/lang/Throwable" "stackTrace" "[Ljava/lang/StackTraceElement;" .null) (F_suppressedExceptions : Fld Z h a "java/lang/Throwable" "suppressedExceptions" "Ljava/util/List;" .null) (F_backtrace : Fld Z h a "java/lang/Throwable" "backtrace" "Ljava/lang/Object;" .null) (F_detailMessage : Fld Z h a "java/lang/Throwable" "detailMessage" "Ljava/lang/String;" .null) (F_status : Fld Z h a "com/example/wareline/wareline/Refusal" "status" "I" (.int 0)) :
    MetK Z EL1 n0 ⟨"java/lang/Throwable", "<init>", "(Ljava/lang/String;)V"⟩ jdk_78_method_2_code 2 none rmTh #[.ref a, mg] h [a] (fun v h' => v = none ∧ Exa Z h' a RCn ∧ Fld Z h' a "java/lang/Throwable" "detailMessage" "Ljava/lang/String;" mg ∧ Fld Z h' a "com/example/wareline/wareline/Refusal" "status" "I" (.int 0)) := by
  have w : ∀ (i : Nat) {d : Jvm.Cond}, tables_1[i]? = some d → d.before a0 Z = true := fun i d q => hw d (List.mem_of_getElem? q)
  have hEL : EW Z a0 EL1 := EW.cons (w 116 rfl) (by simp) EW.nil
  have hwx : ∀ c ∈ excAtoms RCn, c ≠ wMiss → c.before a0 Z = true := fun c hc hne => by
    rcases (by decide +kernel : ∀ c ∈ excAtoms RCn, c = wMiss ∨ c ∈ tables_1) c hc with q | q
    · exact absurd q hne
    · exact hw c q
  refine MetK.of_walk (a0 := a0) pnT hEL hO (allS ⟨E.lt, ha⟩ all0) (L0 := #[.val (.ref a), .val (mg)]) (fun m => by cases mg <;> first | (simp [entryFrame, mkF, argsToLocals, Value.category]; done) | rfl | (simp [Value.isRef] at h_mg)) rfl ?_
  intro k hkn H0
  have H1 := H0.aloadN 1 dTh_0 rfl
  have H2 := H1.initO 4 (w 55 rfl) (w 12 rfl) (w 13 rfl) dTh_1 (by decide) (W := 0) (by decide) (by decide)
  have H3 := H2.aloadN 5 dTh_4 rfl
  have H4 := H3.aloadN 6 dTh_5 rfl
  obtain ⟨h1, W1, K1, E1, F1, H5⟩ := H4.putF 9 (w 56 rfl) F_cause E (Or.inl (w 57 rfl)) (w 35 rfl) (ty := .object "java/lang/Throwable") (by decide) rfl rfl dTh_6 (by simp)
  have N1 := N.wr W1
  have F1_stackTrace := F_stackTrace.other W1 (Or.inr (show RoadKit.slotOf Z "java/lang/Throwable" "stackTrace" "[Ljava/lang/StackTraceElement;" ≠ RoadKit.slotOf Z "java/lang/Throwable" "cause" "Ljava/lang/Throwable;" from slot_ne (Or.inl (w 60 rfl)) (Or.inl (w 57 rfl)) (by decide) (t := .array (.object "java/lang/StackTraceElement")) (by decide) (t' := .object "java/lang/Throwable") (by decide)))
  have F1_suppressedExceptions := F_suppressedExceptions.other W1 (Or.inr (show RoadKit.slotOf Z "java/lang/Throwable" "suppressedExceptions" "Ljava/util/List;" ≠ RoadKit.slotOf Z "java/lang/Throwable" "cause" "Ljava/lang/Throwable;" from slot_ne (Or.inl (w 63 rfl)) (Or.inl (w 57 rfl)) (by decide) (t := .object "java/util/List") (by decide) (t' := .object "java/lang/Throwable") (by decide)))
  have F1_backtrace := F_backtrace.other W1 (Or.inr (show RoadKit.slotOf Z "java/lang/Throwable" "backtrace" "Ljava/lang/Object;" ≠ RoadKit.slotOf Z "java/lang/Throwable" "cause" "Ljava/lang/Throwable;" from slot_ne (Or.inl (w 88 rfl)) (Or.inl (w 57 rfl)) (by decide) (t := .object "java/lang/Object") (by decide) (t' := .object "java/lang/Throwable") (by decide)))
  have F1_detailMessage := F_detailMessage.other W1 (Or.inr (show RoadKit.slotOf Z "java/lang/Throwable" "detailMessage" "Ljava/lang/String;" ≠ RoadKit.slotOf Z "java/lang/Throwable" "cause" "Ljava/lang/Throwable;" from slot_ne (Or.inl (w 87 rfl)) (Or.inl (w 57 rfl)) (by decide) (t := .object "java/lang/String") (by decide) (t' := .object "java/lang/Throwable") (by decide)))
  have F1_status := F_status.other W1 (Or.inr (show RoadKit.slotOf Z "com/example/wareline/wareline/Refusal" "status" "I" ≠ RoadKit.slotOf Z "java/lang/Throwable" "cause" "Ljava/lang/Throwable;" from slot_ne (Or.inr (w 93 rfl)) (Or.inl (w 57 rfl)) (by decide) (t := .int) (by decide) (t' := .object "java/lang/Throwable") (by decide)))
  have H6 := H5.aloadN 10 dTh_9 rfl
  have H7 := H6.getS 13 (w 58 rfl) (staOld Su H6.oldO) dTh_10
  obtain ⟨h2, W2, K2, E2, F2, H8⟩ := H7.putF 16 (w 59 rfl) F1_stackTrace E1 (Or.inl (w 60 rfl)) (w 35 rfl) (ty := .array (.object "java/lang/StackTraceElement")) (by decide) rfl rfl dTh_13 (by simp)
  have N2 := N1.wr W2
  have F2_suppressedExceptions := F1_suppressedExceptions.other W2 (Or.inr (show RoadKit.slotOf Z "java/lang/Throwable" "suppressedExceptions" "Ljava/util/List;" ≠ RoadKit.slotOf Z "java/lang/Throwable" "stackTrace" "[Ljava/lang/StackTraceElement;" from slot_ne (Or.inl (w 63 rfl)) (Or.inl (w 60 rfl)) (by decide) (t := .object "java/util/List") (by decide) (t' := .array (.object "java/lang/StackTraceElement")) (by decide)))
  have F2_backtrace := F1_backtrace.other W2 (Or.inr (show RoadKit.slotOf Z "java/lang/Throwable" "backtrace" "Ljava/lang/Object;" ≠ RoadKit.slotOf Z "java/lang/Throwable" "stackTrace" "[Ljava/lang/StackTraceElement;" from slot_ne (Or.inl (w 88 rfl)) (Or.inl (w 60 rfl)) (by decide) (t := .object "java/lang/Object") (by decide) (t' := .array (.object "java/lang/StackTraceElement")) (by decide)))
  have F2_detailMessage := F1_detailMessage.other W2 (Or.inr (show RoadKit.slotOf Z "java/lang/Throwable" "detailMessage" "Ljava/lang/String;" ≠ RoadKit.slotOf Z "java/lang/Throwable" "stackTrace" "[Ljava/lang/StackTraceElement;" from slot_ne (Or.inl (w 87 rfl)) (Or.inl (w 60 rfl)) (by decide) (t := .object "java/lang/String") (by decide) (t' := .array (.object "java/lang/StackTraceElement")) (by decide)))
  have F2_status := F1_status.other W2 (Or.inr (show RoadKit.slotOf Z "com/example/wareline/wareline/Refusal" "status" "I" ≠ RoadKit.slotOf Z "java/lang/Throwable" "stackTrace" "[Ljava/lang/StackTraceElement;" from slot_ne (Or.inr (w 93 rfl)) (Or.inl (w 60 rfl)) (by decide) (t := .int) (by decide) (t' := .array (.object "java/lang/StackTraceElement")) (by decide)))
  have H9 := H8.aloadN 17 dTh_16 rfl
  have H10 := H9.getS 20 (w 61 rfl) (staOld Sn H9.oldO) dTh_17
  obtain ⟨h3, W3, K3, E3, F3, H11⟩ := H10.putF 23 (w 62 rfl) F2_suppressedExceptions E2 (Or.inl (w 63 rfl)) (w 35 rfl) (ty := .object "java/util/List") (by decide) rfl rfl dTh_20 (by simp)
  have N3 := N2.wr W3
  have F3_stackTrace := F2.other W3 (Or.inr (show RoadKit.slotOf Z "java/lang/Throwable" "stackTrace" "[Ljava/lang/StackTraceElement;" ≠ RoadKit.slotOf Z "java/lang/Throwable" "suppressedExceptions" "Ljava/util/List;" from slot_ne (Or.inl (w 60 rfl)) (Or.inl (w 63 rfl)) (by decide) (t := .array (.object "java/lang/StackTraceElement")) (by decide) (t' := .object "java/util/List") (by decide)))
  have F3_backtrace := F2_backtrace.other W3 (Or.inr (show RoadKit.slotOf Z "java/lang/Throwable" "backtrace" "Ljava/lang/Object;" ≠ RoadKit.slotOf Z "java/lang/Throwable" "suppressedExceptions" "Ljava/util/List;" from slot_ne (Or.inl (w 88 rfl)) (Or.inl (w 63 rfl)) (by decide) (t := .object "java/lang/Object") (by decide) (t' := .object "java/util/List") (by decide)))
  have F3_detailMessage := F2_detailMessage.other W3 (Or.inr (show RoadKit.slotOf Z "java/lang/Throwable" "detailMessage" "Ljava/lang/String;" ≠ RoadKit.slotOf Z "java/lang/Throwable" "suppressedExceptions" "Ljava/util/List;" from slot_ne (Or.inl (w 87 rfl)) (Or.inl (w 63 rfl)) (by decide) (t := .object "java/lang/String") (by decide) (t' := .object "java/util/List") (by decide)))
  have F3_status := F2_status.other W3 (Or.inr (show RoadKit.slotOf Z "com/example/wareline/wareline/Refusal" "status" "I" ≠ RoadKit.slotOf Z "java/lang/Throwable" "suppressedExceptions" "Ljava/util/List;" from slot_ne (Or.inr (w 93 rfl)) (Or.inl (w 63 rfl)) (by decide) (t := .int) (by decide) (t' := .object "java/util/List") (by decide)))
  have H12 := H11.aloadN 24 dTh_23 rfl
  obtain ⟨h4, K4, G4, H13⟩ := H12.fill 27 hkn hTK hO rfl (by decide) hwx (w 35 rfl) E3 N3 Su F3_stackTrace F3_backtrace dTh_24 (by decide) (W := 0) (by decide) (by decide) (by decide) (by decide) (by simp)
  have F4_detailMessage := G4 _ _ _ _ F3_detailMessage (show RoadKit.slotOf Z "java/lang/Throwable" "detailMessage" "Ljava/lang/String;" ≠ RoadKit.slotOf Z "java/lang/Throwable" "backtrace" "Ljava/lang/Object;" from slot_ne (Or.inl (w 87 rfl)) (Or.inl (w 88 rfl)) (by decide) (t := .object "java/lang/String") (by decide) (t' := .object "java/lang/Object") (by decide)) (show RoadKit.slotOf Z "java/lang/Throwable" "detailMessage" "Ljava/lang/String;" ≠ RoadKit.slotOf Z "java/lang/Throwable" "depth" "I" from slot_ne (Or.inl (w 87 rfl)) (Or.inl (w 89 rfl)) (by decide) (t := .object "java/lang/String") (by decide) (t' := .int) (by decide)) (show RoadKit.slotOf Z "java/lang/Throwable" "detailMessage" "Ljava/lang/String;" ≠ RoadKit.slotOf Z "java/lang/Throwable" "stackTrace" "[Ljava/lang/StackTraceElement;" from slot_ne (Or.inl (w 87 rfl)) (Or.inl (w 60 rfl)) (by decide) (t := .object "java/lang/String") (by decide) (t' := .array (.object "java/lang/StackTraceElement")) (by decide))
  have F4_status := G4 _ _ _ _ F3_status (show RoadKit.slotOf Z "com/example/wareline/wareline/Refusal" "status" "I" ≠ RoadKit.slotOf Z "java/lang/Throwable" "backtrace" "Ljava/lang/Object;" from slot_ne (Or.inr (w 93 rfl)) (Or.inl (w 88 rfl)) (by decide) (t := .int) (by decide) (t' := .object "java/lang/Object") (by decide)) (show RoadKit.slotOf Z "com/example/wareline/wareline/Refusal" "status" "I" ≠ RoadKit.slotOf Z "java/lang/Throwable" "depth" "I" from slot_ne (Or.inr (w 93 rfl)) (Or.inl (w 89 rfl)) (by decide) (t := .int) (by decide) (t' := .int) (by decide)) (show RoadKit.slotOf Z "com/example/wareline/wareline/Refusal" "status" "I" ≠ RoadKit.slotOf Z "java/lang/Throwable" "stackTrace" "[Ljava/lang/StackTraceElement;" from slot_ne (Or.inr (w 93 rfl)) (Or.inl (w 60 rfl)) (by decide) (t := .int) (by decide) (t' := .array (.object "java/lang/StackTraceElement")) (by decide))
  have E4 := E3.keep K4
  have H14 := H13.pop 28 dTh_27
  have H15 := H14.aloadN 29 dTh_28 rfl
  have H16 := H15.aloadN 30 dTh_29 rfl h_mg
  obtain ⟨h5, W5, K5, E5, F5, H17⟩ := H16.putF 33 (w 91 rfl) F4_detailMessage E4 (Or.inl (w 87 rfl)) (w 35 rfl) (ty := .object "java/lang/String") (by decide) (narOf h_mg) (fitOf h_mg) dTh_30 (by simp)
  have F5_status := F4_status.other W5 (Or.inr (show RoadKit.slotOf Z "com/example/wareline/wareline/Refusal" "status" "I" ≠ RoadKit.slotOf Z "java/lang/Throwable" "detailMessage" "Ljava/lang/String;" from slot_ne (Or.inr (w 93 rfl)) (Or.inl (w 87 rfl)) (by decide) (t := .int) (by decide) (t' := .object "java/lang/String") (by decide)))
  exact H17.retV rfl dTh_33 (by decide) (by decide) ⟨rfl, E5, F5, F5_status⟩
set_option maxRecDepth 65536 in
set_option maxHeartbeats 4000000 in
theorem metXc {Z : State} {a0 : Array Value} {n0 : Nat} {h : Heap} (hw : ∀ d ∈ tables_1, d.before a0 Z = true) (hO : Old Z n0 h) (hTK : Z.vm.MethodsKnown) {u sn : Addr} (Su : Sta Z Z.heap "java/lang/Throwable" "UNASSIGNED_STACK" "[Ljava/lang/StackTraceElement;" (.ref u)) (Sn : Sta Z Z.heap "java/lang/Throwable" "SUPPRESSED_SENTINEL" "Ljava/util/List;" (.ref sn)) {a : Addr} {mg : Value} (h_mg : mg.isRef = true) (ha : n0 ≤ a) (E : Exa Z h a RCn) (N : Unt h a) (F_cause : Fld Z h a "java/lang/Throwable" "cause" "Ljava/lang/Throwable;" .null) (F_stackTrace : Fld Z h a "java/lang/Throwable" "stackTrace" "[Ljava/lang/StackTraceElement;" .null) (F_suppressedExceptions : Fld Z h a "java/lang/Throwable" "suppressedExceptions" "Ljava/util/List;" .null) (F_backtrace : Fld Z h a "java/lang/Throwable" "backtrace" "Ljava/lang/Object;" .null) (F_detailMessage : Fld Z h a "java/lang/Throwable" "detailMessage" "Ljava/lang/String;" .null) (F_status : Fld Z h a "com/example/wareline/wareline/Refusal" "status" "I" (.int 0)) :
    MetK Z EL1 n0 ⟨"java/lang/Exception", "<init>", "(Ljava/lang/String;)V"⟩ jdk_59_method_2_code 2 none rmXc #[.ref a, mg] h [a] (fun v h' => v = none ∧ Exa Z h' a RCn ∧ Fld Z h' a "java/lang/Throwable" "detailMessage" "Ljava/lang/String;" mg ∧ Fld Z h' a "com/example/wareline/wareline/Refusal" "status" "I" (.int 0)) := by
  have w : ∀ (i : Nat) {d : Jvm.Cond}, tables_1[i]? = some d → d.before a0 Z = true := fun i d q => hw d (List.mem_of_getElem? q)
  have hEL : EW Z a0 EL1 := EW.cons (w 116 rfl) (by simp) EW.nil
  refine MetK.of_walk (a0 := a0) pnX hEL hO (allS ⟨E.lt, ha⟩ all0) (L0 := #[.val (.ref a), .val (mg)]) (fun m => by cases mg <;> first | (simp [entryFrame, mkF, argsToLocals, Value.category]; done) | rfl | (simp [Value.isRef] at h_mg)) rfl ?_
  intro k hkn H0
  have H1 := H0.aloadN 1 dXc_0 rfl
  have H2 := H1.aloadN 2 dXc_1 rfl h_mg
  obtain ⟨_, h1, ⟨rfl, R1⟩, K1, H3⟩ := H2.callI 5 (z := ⟨"java/lang/Throwable", "<init>", "(Ljava/lang/String;)V"⟩) rfl (w 49 rfl) (w 50 rfl) (w 54 rfl) (by decide) (a := a) (argsL := [(mg)]) (rest := []) (Paid.of_metK (W := 0) hkn hTK (metTh hw hO hTK Su Sn h_mg ha E N F_cause F_stackTrace F_suppressedExceptions F_backtrace F_detailMessage F_status) (w 54 rfl) (w 53 rfl) hEL (by decide) (by decide)) (lenOf pd_0 rfl) rfl (Nat.le_of_eq rfl) dXc_2 (by decide) (by decide) (by simp)
  exact H3.retV rfl dXc_5 (by decide) (by decide) ⟨rfl, R1⟩
set_option maxRecDepth 65536 in
set_option maxHeartbeats 4000000 in
theorem metFa {Z : State} {a0 : Array Value} {n0 : Nat} {h : Heap} (hw : ∀ d ∈ tables_1, d.before a0 Z = true) (hO : Old Z n0 h) (hTK : Z.vm.MethodsKnown) {u sn : Addr} (Su : Sta Z Z.heap "java/lang/Throwable" "UNASSIGNED_STACK" "[Ljava/lang/StackTraceElement;" (.ref u)) (Sn : Sta Z Z.heap "java/lang/Throwable" "SUPPRESSED_SENTINEL" "Ljava/util/List;" (.ref sn)) {a : Addr} {mg : Value} (h_mg : mg.isRef = true) (ha : n0 ≤ a) (E : Exa Z h a RCn) (N : Unt h a) (F_cause : Fld Z h a "java/lang/Throwable" "cause" "Ljava/lang/Throwable;" .null) (F_stackTrace : Fld Z h a "java/lang/Throwable" "stackTrace" "[Ljava/lang/StackTraceElement;" .null) (F_suppressedExceptions : Fld Z h a "java/lang/Throwable" "suppressedExceptions" "Ljava/util/List;" .null) (F_backtrace : Fld Z h a "java/lang/Throwable" "backtrace" "Ljava/lang/Object;" .null) (F_detailMessage : Fld Z h a "java/lang/Throwable" "detailMessage" "Ljava/lang/String;" .null) (F_status : Fld Z h a "com/example/wareline/wareline/Refusal" "status" "I" (.int 0)) :
    MetK Z EL1 n0 ⟨"com/example/wareline/wareline/Failure", "<init>", "(Ljava/lang/String;)V"⟩ prog_15_method_1_code 2 none rmFa #[.ref a, mg] h [a] (fun v h' => v = none ∧ Exa Z h' a RCn ∧ Fld Z h' a "java/lang/Throwable" "detailMessage" "Ljava/lang/String;" mg ∧ Fld Z h' a "com/example/wareline/wareline/Refusal" "status" "I" (.int 0)) := by
  have w : ∀ (i : Nat) {d : Jvm.Cond}, tables_1[i]? = some d → d.before a0 Z = true := fun i d q => hw d (List.mem_of_getElem? q)
  have hEL : EW Z a0 EL1 := EW.cons (w 116 rfl) (by simp) EW.nil
  refine MetK.of_walk (a0 := a0) pnF hEL hO (allS ⟨E.lt, ha⟩ all0) (L0 := #[.val (.ref a), .val (mg)]) (fun m => by cases mg <;> first | (simp [entryFrame, mkF, argsToLocals, Value.category]; done) | rfl | (simp [Value.isRef] at h_mg)) rfl ?_
  intro k hkn H0
  have H1 := H0.aloadN 1 dFa_0 rfl
  have H2 := H1.aloadN 2 dFa_1 rfl h_mg
  obtain ⟨_, h1, ⟨rfl, R1⟩, K1, H3⟩ := H2.callI 5 (z := ⟨"java/lang/Exception", "<init>", "(Ljava/lang/String;)V"⟩) rfl (w 44 rfl) (w 45 rfl) (w 48 rfl) (by decide) (a := a) (argsL := [(mg)]) (rest := []) (Paid.of_metK (W := 0) hkn hTK (metXc hw hO hTK Su Sn h_mg ha E N F_cause F_stackTrace F_suppressedExceptions F_backtrace F_detailMessage F_status) (w 48 rfl) (w 47 rfl) hEL (by decide) (by decide)) (lenOf pd_1 rfl) rfl (Nat.le_of_eq rfl) dFa_2 (by decide) (by decide) (by simp)
  exact H3.retV rfl dFa_5 (by decide) (by decide) ⟨rfl, R1⟩
set_option maxRecDepth 65536 in
set_option maxHeartbeats 4000000 in
theorem metRe {Z : State} {a0 : Array Value} {n0 : Nat} {h : Heap} (hw : ∀ d ∈ tables_1, d.before a0 Z = true) (hO : Old Z n0 h) (hTK : Z.vm.MethodsKnown) {u sn : Addr} (Su : Sta Z Z.heap "java/lang/Throwable" "UNASSIGNED_STACK" "[Ljava/lang/StackTraceElement;" (.ref u)) (Sn : Sta Z Z.heap "java/lang/Throwable" "SUPPRESSED_SENTINEL" "Ljava/util/List;" (.ref sn)) {a : Addr} {mg : Value} (h_mg : mg.isRef = true) (ha : n0 ≤ a) (E : Exa Z h a RCn) (N : Unt h a) (F_cause : Fld Z h a "java/lang/Throwable" "cause" "Ljava/lang/Throwable;" .null) (F_stackTrace : Fld Z h a "java/lang/Throwable" "stackTrace" "[Ljava/lang/StackTraceElement;" .null) (F_suppressedExceptions : Fld Z h a "java/lang/Throwable" "suppressedExceptions" "Ljava/util/List;" .null) (F_backtrace : Fld Z h a "java/lang/Throwable" "backtrace" "Ljava/lang/Object;" .null) (F_detailMessage : Fld Z h a "java/lang/Throwable" "detailMessage" "Ljava/lang/String;" .null) (F_status : Fld Z h a "com/example/wareline/wareline/Refusal" "status" "I" (.int 0)) (i : Int32) :
    MetK Z EL1 n0 ⟨"com/example/wareline/wareline/Refusal", "<init>", "(ILjava/lang/String;)V"⟩ prog_17_method_1_code 3 none rmRe #[.ref a, .int i, mg] h [a] (fun v h' => v = none ∧ Exa Z h' a RCn ∧ Fld Z h' a "java/lang/Throwable" "detailMessage" "Ljava/lang/String;" mg ∧ Fld Z h' a "com/example/wareline/wareline/Refusal" "status" "I" (.int i)) := by
  have w : ∀ (i : Nat) {d : Jvm.Cond}, tables_1[i]? = some d → d.before a0 Z = true := fun i d q => hw d (List.mem_of_getElem? q)
  have hEL : EW Z a0 EL1 := EW.cons (w 116 rfl) (by simp) EW.nil
  refine MetK.of_walk (a0 := a0) pnR hEL hO (allS ⟨E.lt, ha⟩ all0) (L0 := #[.val (.ref a), .val (.int i), .val (mg)]) (fun m => by cases mg <;> first | (simp [entryFrame, mkF, argsToLocals, Value.category]; done) | rfl | (simp [Value.isRef] at h_mg)) rfl ?_
  intro k hkn H0
  have H1 := H0.aloadN 1 dRe_0 rfl
  have H2 := H1.aloadN 2 dRe_1 rfl h_mg
  obtain ⟨_, h1, ⟨rfl, E1, M1, T1⟩, K1, H3⟩ := H2.callI 5 (z := ⟨"com/example/wareline/wareline/Failure", "<init>", "(Ljava/lang/String;)V"⟩) rfl (w 39 rfl) (w 40 rfl) (w 43 rfl) (by decide) (a := a) (argsL := [(mg)]) (rest := []) (Paid.of_metK (W := 0) hkn hTK (metFa hw hO hTK Su Sn h_mg ha E N F_cause F_stackTrace F_suppressedExceptions F_backtrace F_detailMessage F_status) (w 43 rfl) (w 42 rfl) hEL (by decide) (by decide)) (lenOf pd_2 rfl) rfl (Nat.le_of_eq rfl) dRe_2 (by decide) (by decide) (by simp)
  have H4 := H3.aloadN 6 dRe_5 rfl
  have H5 := H4.iloadN 7 dRe_6 rfl
  obtain ⟨h2, W2, K2, E2, F2, H6⟩ := H5.putF 10 (w 92 rfl) T1 E1 (Or.inr ⟨(w 93 rfl), rfl, rfl⟩) (w 35 rfl) (ty := .int) (by decide) rfl rfl dRe_7 (by simp)
  have M2 := M1.other W2 (Or.inr (show RoadKit.slotOf Z "java/lang/Throwable" "detailMessage" "Ljava/lang/String;" ≠ RoadKit.slotOf Z "com/example/wareline/wareline/Refusal" "status" "I" from slot_ne (Or.inl (w 87 rfl)) (Or.inr (w 93 rfl)) (by decide) (t := .object "java/lang/String") (by decide) (t' := .int) (by decide)))
  exact H6.retV rfl dRe_10 (by decide) (by decide) ⟨rfl, E2, M2, F2⟩
set_option maxRecDepth 65536 in
set_option maxHeartbeats 4000000 in
theorem metNF {Z : State} {a0 : Array Value} {n0 : Nat} {h : Heap} (hw : ∀ d ∈ tables_1, d.before a0 Z = true) (hO : Old Z n0 h) (hTK : Z.vm.MethodsKnown) {u sn : Addr} (Su : Sta Z Z.heap "java/lang/Throwable" "UNASSIGNED_STACK" "[Ljava/lang/StackTraceElement;" (.ref u)) (Sn : Sta Z Z.heap "java/lang/Throwable" "SUPPRESSED_SENTINEL" "Ljava/util/List;" (.ref sn)) {mg : Value} (h_mg : mg.isRef = true) :
    MetK Z EL1 n0 ⟨"com/example/wareline/wareline/Refusal", "tooLarge", "(Ljava/lang/String;)Lcom/example/wareline/wareline/Refusal;"⟩ prog_17_method_4_code 1 (some (.object "com/example/wareline/wareline/Refusal")) rmNF #[mg] h [] (fun v h' => ∃ a, v = some (.ref a) ∧ Exa Z h' a RCn ∧ Fld Z h' a "java/lang/Throwable" "detailMessage" "Ljava/lang/String;" mg ∧ Fld Z h' a "com/example/wareline/wareline/Refusal" "status" "I" (.int 413)) := by
  have w : ∀ (i : Nat) {d : Jvm.Cond}, tables_1[i]? = some d → d.before a0 Z = true := fun i d q => hw d (List.mem_of_getElem? q)
  have hEL : EW Z a0 EL1 := EW.cons (w 116 rfl) (by simp) EW.nil
  refine MetK.of_walk (a0 := a0) pnR hEL hO all0 (L0 := #[.val (mg)]) (fun m => by cases mg <;> first | (simp [entryFrame, mkF, argsToLocals, Value.category]; done) | rfl | (simp [Value.isRef] at h_mg)) rfl ?_
  intro k hkn H0
  obtain ⟨a, h1, g1, E1, A1, N1, D1, H1⟩ := H0.newU 3 (w 34 rfl) (w 35 rfl) (w 32 rfl) dNF_0 (by decide) (by decide)
  have F_cause : Fld Z h1 a "java/lang/Throwable" "cause" "Ljava/lang/Throwable;" .null := D1 (Or.inl (w 57 rfl)) (ty := .object "java/lang/Throwable") (by decide)
  have F_stackTrace : Fld Z h1 a "java/lang/Throwable" "stackTrace" "[Ljava/lang/StackTraceElement;" .null := D1 (Or.inl (w 60 rfl)) (ty := .array (.object "java/lang/StackTraceElement")) (by decide)
  have F_suppressedExceptions : Fld Z h1 a "java/lang/Throwable" "suppressedExceptions" "Ljava/util/List;" .null := D1 (Or.inl (w 63 rfl)) (ty := .object "java/util/List") (by decide)
  have F_backtrace : Fld Z h1 a "java/lang/Throwable" "backtrace" "Ljava/lang/Object;" .null := D1 (Or.inl (w 88 rfl)) (ty := .object "java/lang/Object") (by decide)
  have F_detailMessage : Fld Z h1 a "java/lang/Throwable" "detailMessage" "Ljava/lang/String;" .null := D1 (Or.inl (w 87 rfl)) (ty := .object "java/lang/String") (by decide)
  have F_status : Fld Z h1 a "com/example/wareline/wareline/Refusal" "status" "I" (.int 0) := D1 (Or.inr (w 93 rfl)) (ty := .int) (by decide)
  have H2 := H1.dup 4 dNF_3
  have H3 := H2.sipush 7 (413 : Int32) dNF_4
  have H4 := H3.aloadN 8 dNF_7 rfl h_mg
  obtain ⟨_, h2, ⟨rfl, R2⟩, K2, H5⟩ := H4.callI 11 (z := ⟨"com/example/wareline/wareline/Refusal", "<init>", "(ILjava/lang/String;)V"⟩) rfl (w 36 rfl) (w 37 rfl) (w 38 rfl) (by decide) (a := a) (argsL := [(.int (413 : Int32)), (mg)]) (rest := [(.ref a)]) (Paid.of_metK (W := 1) hkn hTK (metRe hw H4.oldO hTK Su Sn h_mg (H4.sf_lt (by simp)).2 A1 N1 F_cause F_stackTrace F_suppressedExceptions F_backtrace F_detailMessage F_status (413 : Int32)) (w 38 rfl) (w 32 rfl) hEL (by decide) (by decide)) (lenOf pd_3 rfl) rfl (Nat.le_of_eq rfl) dNF_8 (by decide) (by decide) (by simp)
  exact H5.retA rfl rfl rfl dNF_11 (by decide) (by decide) ⟨a, rfl, R2⟩
abbrev rm0 : Room := { frames := 0, cells := 0, slots := 0, locals := 0 }
set_option maxRecDepth 65536 in
set_option maxHeartbeats 4000000 in
theorem metGM {Z : State} {a0 : Array Value} {n0 : Nat} {h : Heap} (hw : ∀ d ∈ tables_1, d.before a0 Z = true) (hO : Old Z n0 h) {a : Addr} {mg : Value} (h_mg : mg.isRef = true) (F : Fld Z h a "java/lang/Throwable" "detailMessage" "Ljava/lang/String;" mg) :
    Met Z EL1 n0 ⟨"java/lang/Throwable", "getMessage", "()Ljava/lang/String;"⟩ jdk_78_method_6_code 1 (some (.object "java/lang/String")) rm0 #[.ref a] h [] (fun v h' => v = some mg ∧ h' = h) := by
  have w : ∀ (i : Nat) {d : Jvm.Cond}, tables_1[i]? = some d → d.before a0 Z = true := fun i d q => hw d (List.mem_of_getElem? q)
  have hEL : EW Z a0 EL1 := EW.cons (w 116 rfl) (by simp) EW.nil
  refine Met.of_walk (a0 := a0) pnT hEL hO all0 (L0 := #[.val (.ref a)]) (fun m => by first | (simp [entryFrame, mkF, argsToLocals, Value.category, maxLocals]; done) | rfl) rfl ?_
  intro k H0
  have H1 := H0.aloadN 1 dGM_0 rfl
  have H2 := H1.getF 4 (w 91 rfl) F dGM_1
  exact H2.retA rfl rfl h_mg dGM_4 (by decide) (by decide) ⟨rfl, rfl⟩
set_option maxRecDepth 65536 in
set_option maxHeartbeats 4000000 in
theorem metEqS {Z : State} {a0 : Array Value} {n0 : Nat} {h : Heap} (hw : ∀ d ∈ tables_1, d.before a0 Z = true) (hO : Old Z n0 h) {s : Addr} :
    Met Z EL1 n0 ⟨"java/lang/String", "equals", "(Ljava/lang/Object;)Z"⟩ jdk_42_method_66_code 3 (some .boolean) rm0 #[.ref s, .ref s] h [] (fun v h' => v = some (.int 1) ∧ h' = h) := by
  have w : ∀ (i : Nat) {d : Jvm.Cond}, tables_1[i]? = some d → d.before a0 Z = true := fun i d q => hw d (List.mem_of_getElem? q)
  have hEL : EW Z a0 EL1 := EW.cons (w 116 rfl) (by simp) EW.nil
  refine Met.of_walk (a0 := a0) pnST hEL hO all0 (L0 := #[.val (.ref s), .val (.ref s), .unset]) (fun m => by first | (simp [entryFrame, mkF, argsToLocals, Value.category, maxLocals]; done) | rfl) rfl ?_
  intro k H0
  have H1 := H0.aloadN 1 dEq_0 rfl
  have H2 := H1.aloadN 2 dEq_1 rfl
  have H3 := H2.acmpNo 5 dEq_2 (XT.aa_ne_f rfl)
  have H4 := H3.iconst 6 (1 : Int32) dEq_5
  exact H4.retI rfl rfl (by simp) dEq_6 (by decide) (by decide) ⟨rfl, rfl⟩
set_option maxRecDepth 65536 in
set_option maxHeartbeats 4000000 in
theorem metL {Z : State} {a0 : Array Value} {n0 : Nat} {h : Heap} (hw : ∀ d ∈ tables_1, d.before a0 Z = true) (hO : Old Z n0 h) {zc : Int32} (Sc : Sta Z Z.heap ST "COMPACT_STRINGS" "Z" (.int zc)) (hzc : ¬ zc = 0) (hTK : Z.vm.MethodsKnown) {u sn : Addr} (Su : Sta Z Z.heap "java/lang/Throwable" "UNASSIGNED_STACK" "[Ljava/lang/StackTraceElement;" (.ref u)) (Sn : Sta Z Z.heap "java/lang/Throwable" "SUPPRESSED_SENTINEL" "Ljava/util/List;" (.ref sn)) (p0 p1 p2 p3 : Int32) :
    MetK Z EL1 n0 x code maxLocals ret room_1 #[.int p0, .int p1, .int p2, .int p3] h [] (fun v _ => v = some (.int 1)) := by
  have w : ∀ (i : Nat) {d : Jvm.Cond}, tables_1[i]? = some d → d.before a0 Z = true := fun i d q => hw d (List.mem_of_getElem? q)
  have hEL : EW Z a0 EL1 := EW.cons (w 116 rfl) (by simp) EW.nil
  have hws : ∀ d ∈ StrChars.Road.words, d.before a0 Z = true := fun d hd => hw d ((by decide +kernel : ∀ d ∈ StrChars.Road.words, d ∈ tables_1) d hd)
  have hwe : ∀ d ∈ wordsE, d.before a0 Z = true := fun d hd => hw d ((by decide +kernel : ∀ d ∈ wordsE, d ∈ tables_1) d hd)
  have hmem : (OwnS.ST, 7) ∈ EL1 := List.mem_cons_self ..
  have hln : ∀ d ∈ StrChars.Road.wordsLen, d.before a0 Z = true := fun d hd => hw d ((by decide +kernel : ∀ d ∈ StrChars.Road.wordsLen, d ∈ tables_1) d hd)
  refine MetK.of_walk (a0 := a0) pnL hEL hO all0 (L0 := #[.val (.int p0), .val (.int p1), .val (.int p2), .val (.int p3), .unset, .unset, .unset, .unset, .unset, .unset]) (fun m => by first | (simp [entryFrame, mkF, argsToLocals, Value.category, maxLocals]; done) | rfl) rfl ?_
  intro k hkn H0
  have H1 := H0.iloadN 1 at_0 rfl
  have H2 := H1.iconst 2 (3 : Int32) at_1
  have H3 := H2.iand 3 at_2
  generalize hln_ : (p3 &&& (3 : Int32)) = ln at H3
  have c_ln : In4 ln := hln_ ▸ mask3 p3
  have H4 := H3.istore 5 at_3 (L' := #[.val (.int p0), .val (.int p1), .val (.int p2), .val (.int p3), .val (.int ln), .unset, .unset, .unset, .unset, .unset]) rfl
  obtain ⟨b1, h1, k1, g1, X1, V1, HJ⟩ : ∃ (b1 : Addr) (h1 : Heap) (k1 : ClassId), b1 = h.size ∧ Ext h h1 ∧ Arv Z h1 b1 k1 .char ln ((chs ln ((p0 &&& (255 : Int32)).toUInt32.toUInt16.toUInt32.toInt32) ((p1 &&& (255 : Int32)).toUInt32.toUInt16.toUInt32.toInt32) ((p2 &&& (255 : Int32)).toUInt32.toUInt16.toUInt32.toInt32)).map Value.int) (.int 0) ∧ Here k room_1 Z EL1 n0 x code ret h [] h1 58 #[.val (.int p0), .val (.int p1), .val (.int p2), .val (.int p3), .val (.int ln), .val (.ref b1), .unset, .unset, .unset, .unset] [] 1 3 [b1] := by
    rcases c_ln with rfl | rfl | rfl | rfl
    · have H5 := H4.iload 7 at_5 rfl
      obtain ⟨b1, h1, k1, g1, E1, V1, H6⟩ := H5.newP 9 (ty := .char) rfl (w 0 rfl) at_7 (by decide) (cap := 3) (by decide) (by decide) (by decide) (by decide)
      have H7 := H6.astore 11 at_9 (L' := #[.val (.int p0), .val (.int p1), .val (.int p2), .val (.int p3), .val (.int (0 : Int32)), .val (.ref b1), .unset, .unset, .unset, .unset]) rfl
      have H8 := H7.iload 13 at_11 rfl
      have H9 := H8.ifYes 26 at_13 (by decide)
      have H10 := H9.iload 28 at_26 rfl
      have H11 := H10.iconst 29 (1 : Int32) at_28
      have H12 := H11.icmpYes 42 at_29 (by decide)
      have H13 := H12.iload 44 at_42 rfl
      have H14 := H13.iconst 45 (2 : Int32) at_44
      have H15 := H14.icmpYes 58 at_45 (by decide)
      exact ⟨b1, h1, k1, g1, E1, (by rw [chs_0]; exact V1.pad (fun i => by rcases i with _ | _ | _ | i <;> rfl)), H15⟩
    · have H16 := H4.iload 7 at_5 rfl
      obtain ⟨b1, h1, k1, g1, E1, V1, H17⟩ := H16.newP 9 (ty := .char) rfl (w 0 rfl) at_7 (by decide) (cap := 3) (by decide) (by decide) (by decide) (by decide)
      have H18 := H17.astore 11 at_9 (L' := #[.val (.int p0), .val (.int p1), .val (.int p2), .val (.int p3), .val (.int (1 : Int32)), .val (.ref b1), .unset, .unset, .unset, .unset]) rfl
      have H19 := H18.iload 13 at_11 rfl
      have H20 := H19.ifNo 16 at_13 (by decide)
      have H21 := H20.aload 18 at_16 rfl
      have H22 := H21.iconst 19 (0 : Int32) at_18
      have H23 := H22.iloadN 20 at_19 rfl
      have H24 := H23.sipush 23 (255 : Int32) at_20
      have H25 := H24.iand 24 at_23
      have H26 := H25.i2c 25 at_24
      obtain ⟨h1_0, K1_0, V1_0, H27⟩ := H26.stC 26 V1 0 ⟨by decide, by decide⟩ rfl (by simp) (c8m p0).nar at_25 (by simp)
      have H28 := H27.iload 28 at_26 rfl
      have H29 := H28.iconst 29 (1 : Int32) at_28
      have H30 := H29.icmpYes 42 at_29 (by decide)
      have H31 := H30.iload 44 at_42 rfl
      have H32 := H31.iconst 45 (2 : Int32) at_44
      have H33 := H32.icmpYes 58 at_45 (by decide)
      exact ⟨b1, h1_0, k1, g1, (Ext.keep' E1 K1_0 (allS (Nat.le_of_eq g1.symm) all0)), (by rw [chs_1]; exact V1_0.pad (fun i => by rcases i with _ | _ | _ | i <;> rfl)), H33⟩
    · have H34 := H4.iload 7 at_5 rfl
      obtain ⟨b1, h1, k1, g1, E1, V1, H35⟩ := H34.newP 9 (ty := .char) rfl (w 0 rfl) at_7 (by decide) (cap := 3) (by decide) (by decide) (by decide) (by decide)
      have H36 := H35.astore 11 at_9 (L' := #[.val (.int p0), .val (.int p1), .val (.int p2), .val (.int p3), .val (.int (2 : Int32)), .val (.ref b1), .unset, .unset, .unset, .unset]) rfl
      have H37 := H36.iload 13 at_11 rfl
      have H38 := H37.ifNo 16 at_13 (by decide)
      have H39 := H38.aload 18 at_16 rfl
      have H40 := H39.iconst 19 (0 : Int32) at_18
      have H41 := H40.iloadN 20 at_19 rfl
      have H42 := H41.sipush 23 (255 : Int32) at_20
      have H43 := H42.iand 24 at_23
      have H44 := H43.i2c 25 at_24
      obtain ⟨h1_0, K1_0, V1_0, H45⟩ := H44.stC 26 V1 0 ⟨by decide, by decide⟩ rfl (by simp) (c8m p0).nar at_25 (by simp)
      have H46 := H45.iload 28 at_26 rfl
      have H47 := H46.iconst 29 (1 : Int32) at_28
      have H48 := H47.icmpNo 32 at_29 (by decide)
      have H49 := H48.aload 34 at_32 rfl
      have H50 := H49.iconst 35 (1 : Int32) at_34
      have H51 := H50.iloadN 36 at_35 rfl
      have H52 := H51.sipush 39 (255 : Int32) at_36
      have H53 := H52.iand 40 at_39
      have H54 := H53.i2c 41 at_40
      obtain ⟨h1_1, K1_1, V1_1, H55⟩ := H54.stC 42 V1_0 1 ⟨by decide, by decide⟩ rfl (by simp) (c8m p1).nar at_41 (by simp)
      have H56 := H55.iload 44 at_42 rfl
      have H57 := H56.iconst 45 (2 : Int32) at_44
      have H58 := H57.icmpYes 58 at_45 (by decide)
      exact ⟨b1, h1_1, k1, g1, (Ext.keep' (Ext.keep' E1 K1_0 (allS (Nat.le_of_eq g1.symm) all0)) K1_1 (allS (Nat.le_of_eq g1.symm) all0)), (by rw [chs_2]; exact V1_1.pad (fun i => by rcases i with _ | _ | _ | i <;> rfl)), H58⟩
    · have H59 := H4.iload 7 at_5 rfl
      obtain ⟨b1, h1, k1, g1, E1, V1, H60⟩ := H59.newP 9 (ty := .char) rfl (w 0 rfl) at_7 (by decide) (cap := 3) (by decide) (by decide) (by decide) (by decide)
      have H61 := H60.astore 11 at_9 (L' := #[.val (.int p0), .val (.int p1), .val (.int p2), .val (.int p3), .val (.int (3 : Int32)), .val (.ref b1), .unset, .unset, .unset, .unset]) rfl
      have H62 := H61.iload 13 at_11 rfl
      have H63 := H62.ifNo 16 at_13 (by decide)
      have H64 := H63.aload 18 at_16 rfl
      have H65 := H64.iconst 19 (0 : Int32) at_18
      have H66 := H65.iloadN 20 at_19 rfl
      have H67 := H66.sipush 23 (255 : Int32) at_20
      have H68 := H67.iand 24 at_23
      have H69 := H68.i2c 25 at_24
      obtain ⟨h1_0, K1_0, V1_0, H70⟩ := H69.stC 26 V1 0 ⟨by decide, by decide⟩ rfl (by simp) (c8m p0).nar at_25 (by simp)
      have H71 := H70.iload 28 at_26 rfl
      have H72 := H71.iconst 29 (1 : Int32) at_28
      have H73 := H72.icmpNo 32 at_29 (by decide)
      have H74 := H73.aload 34 at_32 rfl
      have H75 := H74.iconst 35 (1 : Int32) at_34
      have H76 := H75.iloadN 36 at_35 rfl
      have H77 := H76.sipush 39 (255 : Int32) at_36
      have H78 := H77.iand 40 at_39
      have H79 := H78.i2c 41 at_40
      obtain ⟨h1_1, K1_1, V1_1, H80⟩ := H79.stC 42 V1_0 1 ⟨by decide, by decide⟩ rfl (by simp) (c8m p1).nar at_41 (by simp)
      have H81 := H80.iload 44 at_42 rfl
      have H82 := H81.iconst 45 (2 : Int32) at_44
      have H83 := H82.icmpNo 48 at_45 (by decide)
      have H84 := H83.aload 50 at_48 rfl
      have H85 := H84.iconst 51 (2 : Int32) at_50
      have H86 := H85.iloadN 52 at_51 rfl
      have H87 := H86.sipush 55 (255 : Int32) at_52
      have H88 := H87.iand 56 at_55
      have H89 := H88.i2c 57 at_56
      obtain ⟨h1_2, K1_2, V1_2, H90⟩ := H89.stC 58 V1_1 2 ⟨by decide, by decide⟩ rfl (by simp) (c8m p2).nar at_57 (by simp)
      exact ⟨b1, h1_2, k1, g1, (Ext.keep' (Ext.keep' (Ext.keep' E1 K1_0 (allS (Nat.le_of_eq g1.symm) all0)) K1_1 (allS (Nat.le_of_eq g1.symm) all0)) K1_2 (allS (Nat.le_of_eq g1.symm) all0)), (by rw [chs_3]; exact V1_2.pad (fun i => by rcases i with _ | _ | _ | i <;> rfl)), H90⟩
  have H91 := HJ
  clear HJ
  have H92 := H91.iloadN 59 at_58 rfl
  have H93 := H92.iconst 60 (4 : Int32) at_59
  have H94 := H93.iand 61 at_60
  by_cases en : (p3 &&& (4 : Int32)) = 0
  · have H95 := H94.ifYes 68 at_61 (XT.i0_eq_t en)
    have H96 := H95.iconst 69 (0 : Int32) at_68
    have H97 := H96.istore 71 at_69 (L' := #[.val (.int p0), .val (.int p1), .val (.int p2), .val (.int p3), .val (.int ln), .val (.ref b1), .val (.int (0 : Int32)), .unset, .unset, .unset]) rfl
    have H98 := H97.iload 73 at_71 rfl
    have H99 := H98.ifYes 80 at_73 (XT.i0_eq_t (by decide))
    obtain ⟨b3, h3, g3, E3, A3, D3, H100⟩ := H99.newO 83 (w 1 rfl) (w 2 rfl) (w 3 rfl) at_80 (by decide) (by decide)
    have H101 := H100.dup 84 at_83
    have H102 := H101.aload 86 at_84 rfl
    have F3 : Fld Z h3 b3 ST "value" "[B" .null := D3 (Or.inr (w 29 rfl)) (ty := .array .byte) (by decide)
    have G3 : Fld Z h3 b3 ST "coder" "B" (.int 0) := D3 (Or.inr (w 27 rfl)) (ty := .byte) (by decide)
    obtain ⟨_, h3b, ⟨rfl, S3⟩, K3b, H103⟩ := H102.callI 89 (z := ⟨"java/lang/String", "<init>", "([C)V"⟩) rfl (w 4 rfl) (w 5 rfl) (w 6 rfl) (by decide) (a := b3) (argsL := [.ref b1]) (rest := [(.ref b3)])
      (payStr (W := 1) (cs := chs ln ((p0 &&& (255 : Int32)).toUInt32.toUInt16.toUInt32.toInt32) ((p1 &&& (255 : Int32)).toUInt32.toUInt16.toUInt32.toInt32) ((p2 &&& (255 : Int32)).toUInt32.toUInt16.toUInt32.toInt32)) (n := (chs ln ((p0 &&& (255 : Int32)).toUInt32.toUInt16.toUInt32.toInt32) ((p1 &&& (255 : Int32)).toUInt32.toUInt16.toUInt32.toInt32) ((p2 &&& (255 : Int32)).toUInt32.toUInt16.toUInt32.toInt32)).length) (cap := 3) hEL hmem hws hwe H102.oldO (H102.sf_lt (by simp)).2 A3 F3 G3 (V1.ext E3) Sc hzc rfl (chs_le _ _ _ _) (chs_len _ _ _ c_ln) (by decide) (chs_c8 (c8m p0) (c8m p1) (c8m p2)) (by decide) (by decide)) (lenOf pd_7 rfl) rfl (Nat.le_of_eq rfl) at_86 (by decide) (by decide) (by simp)
    have X3 : Ext h1 h3b := Ext.keep' E3 K3b (allS (Nat.le_of_eq g3.symm) all0)
    have H104 := H103.astore 91 at_89 (L' := #[.val (.int p0), .val (.int p1), .val (.int p2), .val (.int p3), .val (.int ln), .val (.ref b1), .val (.int (0 : Int32)), .val (.ref b3), .unset, .unset]) rfl
    have H105 := H104.aload 93 at_91 rfl
    obtain ⟨_, h4, ⟨r, rfl, A4, M4, T4⟩, K4, H106⟩ := H105.callS 96 (z := ⟨"com/example/wareline/wareline/Refusal", "tooLarge", "(Ljava/lang/String;)Lcom/example/wareline/wareline/Refusal;"⟩) (w 30 rfl) (w 31 rfl) (w 32 rfl) (w 33 rfl) (by decide) (argsL := [(.ref b3)]) (rest := []) (Paid.of_metK (W := 0) hkn hTK (metNF hw H105.oldO hTK Su Sn (mg := .ref b3) rfl) (w 33 rfl) (w 32 rfl) hEL (by decide) (by decide)) (lenOf pd_4 rfl) rfl (Nat.le_of_eq rfl) at_93 (by decide) (by decide) all0
    have H107 := H106.astore 98 at_96 (L' := #[.val (.int p0), .val (.int p1), .val (.int p2), .val (.int p3), .val (.int ln), .val (.ref b1), .val (.int (0 : Int32)), .val (.ref b3), .val (.ref r), .unset]) rfl
    have H108 := H107.aload 100 at_98 rfl
    have H109 := H108.nonnullYes 105 at_100
    have H110 := H109.aload 107 at_105 rfl
    have H111 := H110.getF 110 (w 94 rfl) T4 at_107
    have H112 := H111.sipush 113 (413 : Int32) at_110
    have H113 := H112.icmpYes 118 at_113 (XT.ii_eq_t rfl)
    have H114 := H113.aload 120 at_118 rfl
    obtain ⟨_, h5, ⟨rfl, e5⟩, K5, H115⟩ := H114.callU 123 (z := ⟨"java/lang/Throwable", "getMessage", "()Ljava/lang/String;"⟩) (z1 := ⟨"com/example/wareline/wareline/Refusal", "getMessage", "()Ljava/lang/String;"⟩) (C := "com/example/wareline/wareline/Refusal") (owner := "java/lang/Throwable") (w 95 rfl) (w 96 rfl) (w 97 rfl) (w 99 rfl) (w 98 rfl) (by decide) (a := r) A4 (argsL := []) (rest := []) (Paid.of_met (W := 0) (metGM hw H114.oldO (mg := .ref b3) rfl M4) (w 100 rfl) (w 53 rfl) hEL (by decide) (by decide)) (lenOf pd_5 rfl) rfl (Nat.le_of_eq rfl) at_120 (by decide) (by decide) all0
    obtain rfl := e5.symm
    have H116 := H115.astore 125 at_123 (L' := #[.val (.int p0), .val (.int p1), .val (.int p2), .val (.int p3), .val (.int ln), .val (.ref b1), .val (.int (0 : Int32)), .val (.ref b3), .val (.ref r), .val (.ref b3)]) rfl
    have H117 := H116.iload 127 at_125 rfl
    have H118 := H117.ifYes 141 at_127 (XT.i0_eq_t (by decide))
    have H119 := H118.aload 143 at_141 rfl
    have H120 := H119.nonnullYes 148 at_143
    have H121 := H120.aload 150 at_148 rfl
    have S4 := S3.ext (keepExt K4)
    obtain ⟨_, h6, ⟨e6, rfl⟩, K6, H122⟩ := H121.callV 153 (z := ⟨"java/lang/String", "length", "()I"⟩) (z1 := ⟨"java/lang/String", "length", "()I"⟩) (C := "java/lang/String") (w 101 rfl) (w 102 rfl) (w 104 rfl) (w 103 rfl) (by decide) (a := b3) S4.1 (argsL := []) (rest := []) (payLen (W := 0) hEL hln (w 2 rfl) H121.oldO S4 Sc hzc (by decide) (by decide)) (lenOf pd_8 rfl) rfl (Nat.le_of_eq rfl) at_150 (by decide) (by decide) all0
    obtain rfl := e6.symm
    rw [← chs_len _ _ _ c_ln] at H122
    have H123 := H122.iload 155 at_153 rfl
    have H124 := H123.icmpNo 158 at_155 (XT.ii_ne_f rfl)
    have H125 := H124.aload 160 at_158 rfl
    have H126 := H125.aload 162 at_160 rfl
    obtain ⟨_, h7, ⟨rfl, e7⟩, K7, H127⟩ := H126.callV 165 (z := ⟨"java/lang/String", "equals", "(Ljava/lang/Object;)Z"⟩) (z1 := ⟨"java/lang/String", "equals", "(Ljava/lang/Object;)Z"⟩) (C := "java/lang/String") (w 111 rfl) (w 112 rfl) (w 114 rfl) (w 113 rfl) (by decide) (a := b3) S4.1 (argsL := [(.ref b3)]) (rest := []) (Paid.of_met (W := 0) (metEqS hw H126.oldO) (w 115 rfl) (w 3 rfl) hEL (by decide) (by decide)) (lenOf pd_6 rfl) rfl (Nat.le_of_eq rfl) at_162 (by decide) (by decide) all0
    obtain rfl := e7.symm
    have H128 := H127.ifNo 168 at_165 (XT.i0_eq_f (by decide))
    have H129 := H128.iconst 169 (1 : Int32) at_168
    have H130 := H129.goto 173 at_169
    exact H130.retI rfl rfl (by simp) at_173 (by decide) (by decide) rfl
  · have H131 := H94.ifNo 64 at_61 (XT.i0_eq_f en)
    have H132 := H131.iconst 65 (1 : Int32) at_64
    have H133 := H132.goto 69 at_65
    have H134 := H133.istore 71 at_69 (L' := #[.val (.int p0), .val (.int p1), .val (.int p2), .val (.int p3), .val (.int ln), .val (.ref b1), .val (.int (1 : Int32)), .unset, .unset, .unset]) rfl
    have H135 := H134.iload 73 at_71 rfl
    have H136 := H135.ifNo 76 at_73 (XT.i0_eq_f (by decide))
    have H137 := H136.anull 77 at_76
    have H138 := H137.goto 89 at_77
    have H139 := H138.astore 91 at_89 (L' := #[.val (.int p0), .val (.int p1), .val (.int p2), .val (.int p3), .val (.int ln), .val (.ref b1), .val (.int (1 : Int32)), .val .null, .unset, .unset]) rfl
    have H140 := H139.aload 93 at_91 rfl
    obtain ⟨_, h4, ⟨r, rfl, A4, M4, T4⟩, K4, H141⟩ := H140.callS 96 (z := ⟨"com/example/wareline/wareline/Refusal", "tooLarge", "(Ljava/lang/String;)Lcom/example/wareline/wareline/Refusal;"⟩) (w 30 rfl) (w 31 rfl) (w 32 rfl) (w 33 rfl) (by decide) (argsL := [.null]) (rest := []) (Paid.of_metK (W := 0) hkn hTK (metNF hw H140.oldO hTK Su Sn (mg := .null) rfl) (w 33 rfl) (w 32 rfl) hEL (by decide) (by decide)) (lenOf pd_4 rfl) rfl (Nat.le_of_eq rfl) at_93 (by decide) (by decide) all0
    have H142 := H141.astore 98 at_96 (L' := #[.val (.int p0), .val (.int p1), .val (.int p2), .val (.int p3), .val (.int ln), .val (.ref b1), .val (.int (1 : Int32)), .val .null, .val (.ref r), .unset]) rfl
    have H143 := H142.aload 100 at_98 rfl
    have H144 := H143.nonnullYes 105 at_100
    have H145 := H144.aload 107 at_105 rfl
    have H146 := H145.getF 110 (w 94 rfl) T4 at_107
    have H147 := H146.sipush 113 (413 : Int32) at_110
    have H148 := H147.icmpYes 118 at_113 (XT.ii_eq_t rfl)
    have H149 := H148.aload 120 at_118 rfl
    obtain ⟨_, h5, ⟨rfl, e5⟩, K5, H150⟩ := H149.callU 123 (z := ⟨"java/lang/Throwable", "getMessage", "()Ljava/lang/String;"⟩) (z1 := ⟨"com/example/wareline/wareline/Refusal", "getMessage", "()Ljava/lang/String;"⟩) (C := "com/example/wareline/wareline/Refusal") (owner := "java/lang/Throwable") (w 95 rfl) (w 96 rfl) (w 97 rfl) (w 99 rfl) (w 98 rfl) (by decide) (a := r) A4 (argsL := []) (rest := []) (Paid.of_met (W := 0) (metGM hw H149.oldO (mg := .null) rfl M4) (w 100 rfl) (w 53 rfl) hEL (by decide) (by decide)) (lenOf pd_5 rfl) rfl (Nat.le_of_eq rfl) at_120 (by decide) (by decide) all0
    obtain rfl := e5.symm
    have H151 := H150.astore 125 at_123 (L' := #[.val (.int p0), .val (.int p1), .val (.int p2), .val (.int p3), .val (.int ln), .val (.ref b1), .val (.int (1 : Int32)), .val .null, .val (.ref r), .val .null]) rfl
    have H152 := H151.iload 127 at_125 rfl
    have H153 := H152.ifNo 130 at_127 (XT.i0_eq_f (by decide))
    have H154 := H153.aload 132 at_130 rfl
    have H155 := H154.nonnullNo 135 at_132
    have H156 := H155.iconst 136 (1 : Int32) at_135
    have H157 := H156.goto 140 at_136
    exact H157.retI rfl rfl (by simp) at_140 (by decide) (by decide) rfl

set_option maxRecDepth 65536 in
set_option maxHeartbeats 4000000 in
theorem comes_1 {Post : Tables → Env → Array Value → State → Outcome → State → Prop} (hpost : ∀ tb e args s v u, (limb_1_1.after args s (.returned v) u = true ∧ limb_1_2.after args s (.returned v) u = true ∧ True) → FramedW s (.returned v) u (Jvm.fieldLocs frame_1_writes args s ++ Jvm.arrayLocs frame_1_arrays args s ++ Jvm.staticLocs frame_1_statics s) 24 6656 → Post tb e args s (.returned v) u) :
    ArmFor flags0 classFile x code maxLocals ret World_1 tables_1 room_1 Calls_1 rest_1 Pre_1 Post := by
  intro l hfl _ _ p e ha hc hk s m args below hf hA hF happ hP
  obtain ⟨hcalls, hrest, hpre⟩ := hP
  obtain ⟨-, -, -, hnamed, -, -, -, hat⟩ := (Spec.applies_iff hf).mp happ
  obtain ⟨hg, hn⟩ := and_e (Cond.before_iff.mp (show (Jvm.Cond.and given_1 narrow_1).before args s = true from hpre))
  obtain ⟨a0, b0⟩ := and_e hg
  obtain ⟨a1, b1⟩ := and_e b0
  obtain ⟨a2, b2⟩ := and_e b1
  obtain ⟨a3, b3⟩ := and_e b2
  obtain ⟨w0, w1, w2, w3, rfl⟩ : ∃ w0 w1 w2 w3 : Value, args = #[w0, w1, w2, w3] := by
    have hs : args.size = 4 := by simpa [Cond.value, given_1] using a0
    obtain ⟨L⟩ := args
    match L, hs with
    | [w0, w1, w2, w3], _ => exact ⟨w0, w1, w2, w3, rfl⟩
  obtain ⟨i0, f0⟩ := is_v a1
  obtain rfl : w0 = (.int i0) := Option.some.inj f0
  obtain ⟨i1, f1⟩ := is_v a2
  obtain rfl : w1 = (.int i1) := Option.some.inj f1
  obtain ⟨i2, f2⟩ := is_v a3
  obtain rfl : w2 = (.int i2) := Option.some.inj f2
  obtain ⟨i3, f3⟩ := is_v b3
  obtain rfl : w3 = (.int i3) := Option.some.inj f3
  have hw := fun d (hd : d ∈ tables_1) => atoms_spec (ws := Jvm.Cond.code x code maxLocals ret :: tables_1) hat d (List.mem_cons_of_mem _ hd)
  have w : ∀ (i : Nat) {d : Jvm.Cond}, tables_1[i]? = some d → d.before _ s = true := fun i d q => hw d (List.mem_of_getElem? q)
  obtain ⟨hsets, hown0⟩ := atoms_of _ (rest_1_c_eq ▸ (show rest_1_c.before _ s = true from hrest))
  have n5 := not_v (Cond.before_iff.mp (hsets _ (List.mem_of_getElem? (i := 2) rfl)))
  obtain ⟨zc, e10⟩ := is_v (Cond.before_iff.mp (hsets _ (List.mem_of_getElem? (i := 1) rfl)))
  have Sc : Sta s s.heap "java/lang/String" "COMPACT_STRINGS" "Z" (.int zc) := Sta.start e10 (Or.inl (hsets _ (List.mem_of_getElem? (i := 0) rfl)))
  have hzc : ¬ (zc = (0 : Int32)) := gotF (Cond.eq_ints e10 (Term.int_eval (0))) n5
  obtain ⟨u, eu⟩ := arr_v (Cond.before_iff.mp (hsets _ (List.mem_of_getElem? (i := 17) rfl)))
  have Su : Sta s s.heap "java/lang/Throwable" "UNASSIGNED_STACK" "[Ljava/lang/StackTraceElement;" (.ref u) := Sta.start eu (Or.inl (hsets _ (List.mem_of_getElem? (i := 15) rfl)))
  obtain ⟨sn, en⟩ := exa_v (Cond.before_iff.mp (hsets _ (List.mem_of_getElem? (i := 22) rfl)))
  have Sn : Sta s s.heap "java/lang/Throwable" "SUPPRESSED_SENTINEL" "Ljava/util/List;" (.ref sn) := Sta.start en (Or.inl (hsets _ (List.mem_of_getElem? (i := 20) rfl)))
  have hEW : EW s _ EL1 := EW.cons (w 116 rfl) (by simp) EW.nil
  have hCH : CHv s EL1 s.vm s.heap := CHv.start hEW hcalls.2.2.1 (hsets _ (List.mem_of_getElem? (i := 2) rfl)) (w 19 rfl) (w 2 rfl)
  have hTK : s.vm.MethodsKnown := Jvm.MethodsKnown_of_tablesKnown hcalls.2.1
  have hBK := Jvm.FramesKnown_of_framesKnown hcalls.1 hf
  have hst : l.stackTraces = true := by unfold Launch.stackTraces; rw [hfl]; decide +kernel
  obtain ⟨n, o, h1, h2, h3, v, L, rfl, ⟨rfl, hK, N⟩, hCr, hq⟩ := (metL hw (Old.start s) Sc hzc hTK Su Sn i0 i1 i2 i3) l tables_1 hst p e ha hc hk s m _ below hf ((Spec.applies_iff_loose hf).mp happ).1 ⟨rfl, State.Warmed39.refl s, rfl, hCH, all0⟩ ⟨hTK, hBK⟩
  refine ⟨n, _, h1, h2, h3, hpost _ _ _ _ _ _ ⟨Cond.after_iff.mpr rfl, Cond.after_iff.mpr (eq_i res_at (Term.int_eval (1)) rfl), trivial⟩ ⟨hq.1, hq.2.1, hq.2.2.1, (hq.2.2.2.sift fun y hy => Or.inr (N y hy)).mono (by decide) (by decide)⟩⟩
theorem main_1_1 : Claimed_1_1 := comes_1 fun _ _ _ _ _ _ h hF => ⟨h.1, hF⟩
theorem main_1_2 : Claimed_1_2 := comes_1 fun _ _ _ _ _ _ h hF => ⟨h.2.1, hF⟩
end Jvm.Pilot.@@N@@
namespace Jvm.Pilot.@@N@@
open Jvm Jvm.ClassFile Sem Op Lib Jvm.Free Jvm.Stand Jvm.Pilot.@@N@@.Jvm.D
/-! MADE BY PROGRAM (witnessworld.py) out of the Statement's table words and the real class files: 36 classes; the members and pool entries that the words name. The judged class is class 1, her method 1. -/
namespace start1
open Jvm.ClassFile
def u (s : String) : CpInfo := .utf8 (stringToUtf16 s)
/-- a pool by its gaps: so many unusable entries, then the entry; so many at the end -/
def gap : Nat → List CpInfo → List CpInfo
  | 0, r => r
  | n + 1, r => .unusable :: gap n r
def poolList (es : List (Nat × CpInfo)) (last : Nat) : List CpInfo := es.foldr (fun e r => gap e.1 (e.2 :: r)) (gap last [])
def pool (es : List (Nat × CpInfo)) (last : Nat) : Array CpInfo := ⟨poolList es last⟩
def fileOf (pool : Array CpInfo) (this : Nat) (attrs : Array Attribute := #[]) (ms : Array MethodInfo := #[]) (fl : Nat := 33) (sup : Nat := 0) (ifs : Array Nat := #[]) (fds : Array FieldInfo := #[]) : ClassFile where
  minorVersion := 0
  majorVersion := 65
  constantPool := pool
  accessFlags := fl
  thisClass := this
  superClass := sup
  interfaces := ifs
  fields := fds
  methods := ms
  attributes := attrs
def plain (name : String) (sup : Option ClassId) : Class where
  name := name
  kind := .ordinary
  loader := none
  accessFlags := 33
  super := sup
  interfaces := #[]
  cf := none
  fields := #[]
  methods := #[]
  instanceTypes := #[]
  staticTypes := #[]
  resolved := #[]
  callSites := []
  init := .initialized
  statics := none
  mirror := none

def pool0 : Array CpInfo := pool [(5, u "<init>"), (0, u "()V"), (1, .class_ 10), (1, u "java/lang/Object")] 113

def k0c0 : Code := { maxStack := 0, maxLocals := 1, code := object_method_1_code, exceptionTable := #[], attributes := #[] }
def k0m0 : Method := { name := "<init>", desc := "()V", sig := { parameters := [], returnType := none }, accessFlags := 1, code := some k0c0 }
/-- java/lang/Object -/
def k0 : Class := { plain "java/lang/Object" none with
  accessFlags := 33
  interfaces := #[]
  cf := some (fileOf pool0 8 #[] #[{ accessFlags := 1, nameIndex := 5, descriptorIndex := 6, attributes := #[] }] 33 0 #[] #[])
  fields := #[]
  methods := #[k0m0]
  instanceTypes := #[]
  staticTypes := #[]
  resolved := Array.replicate 124 none
  statics := none }

def pool1 : Array CpInfo := pool [(2, .class_ 4), (1, u "java/lang/Object"), (0, u "<init>"), (0, u "()V"), (0, .class_ 8), (0, u "java/lang/String"), (0, .methodref 7 10), (0, .nameAndType 5 11), (0, u "([C)V"), (0, .methodref 13 14), (0, .class_ 15), (0, .nameAndType 16 17), (0, u "com/example/wareline/wareline/Refusal"), (0, u "tooLarge"), (0, u "(Ljava/lang/String;)Lcom/example/wareline/wareline/Refusal;"), (0, .fieldref 13 19), (0, .nameAndType 20 21), (0, u "status"), (0, u "I"), (0, .methodref 13 23), (0, .nameAndType 24 25), (0, u "getMessage"), (0, u "()Ljava/lang/String;"), (0, .methodref 7 27), (0, .nameAndType 28 29), (0, u "length"), (0, u "()I"), (0, .methodref 7 31), (0, .nameAndType 32 33), (0, u "equals"), (0, u "(Ljava/lang/Object;)Z"), (0, .class_ 35), (0, u "com/example/wareline/wareline/RefusalTooLargePinLaw"), (2, u "law"), (0, u "(IIII)Z")] 5

def k1m0 : Method := { name := "<init>", desc := "()V", sig := { parameters := [], returnType := none }, accessFlags := 1, code := none }
def k1c1 : Code := { maxStack := 4, maxLocals := 10, code := code, exceptionTable := #[], attributes := #[] }
def k1m1 : Method := { name := "law", desc := "(IIII)Z", sig := { parameters := [.int, .int, .int, .int], returnType := some .boolean }, accessFlags := 9, code := some k1c1 }
/-- com/example/wareline/wareline/RefusalTooLargePinLaw -/
def k1 : Class := { plain "com/example/wareline/wareline/RefusalTooLargePinLaw" (some 0) with
  accessFlags := 49
  interfaces := #[]
  cf := some (fileOf pool1 34 #[] #[{ accessFlags := 1, nameIndex := 5, descriptorIndex := 6, attributes := #[] }, { accessFlags := 9, nameIndex := 38, descriptorIndex := 39, attributes := #[] }] 49 2 #[] #[])
  fields := #[]
  methods := #[k1m0, k1m1]
  instanceTypes := #[]
  staticTypes := #[]
  resolved := Array.replicate 45 none
  statics := none }

def pool2 : Array CpInfo := pool [(1, .class_ 2), (0, u "java/io/Serializable"), (0, .class_ 4), (0, u "java/lang/Object")] 2

/-- java/io/Serializable -/
def k2 : Class := { plain "java/io/Serializable" (some 0) with
  accessFlags := 1537
  interfaces := #[]
  cf := some (fileOf pool2 1 #[] #[] 1537 3 #[] #[])
  fields := #[]
  methods := #[]
  instanceTypes := #[]
  staticTypes := #[]
  resolved := Array.replicate 7 none
  statics := none }

def pool3 : Array CpInfo := pool [(1, .class_ 2), (0, u "java/lang/Comparable"), (0, .class_ 4), (0, u "java/lang/Object")] 7

/-- java/lang/Comparable -/
def k3 : Class := { plain "java/lang/Comparable" (some 0) with
  accessFlags := 1537
  interfaces := #[]
  cf := some (fileOf pool3 1 #[] #[] 1537 3 #[] #[])
  fields := #[]
  methods := #[]
  instanceTypes := #[]
  staticTypes := #[]
  resolved := Array.replicate 12 none
  statics := none }

def pool4 : Array CpInfo := pool [(2, .class_ 4), (1, u "java/lang/CharSequence"), (42, .class_ 48), (0, u "java/lang/CharSequence$1CodePointIterator"), (10, .class_ 60), (0, u "java/lang/CharSequence$1CharIterator"), (5, .class_ 67), (0, u "java/lang/Object")] 63

/-- java/lang/CharSequence -/
def k4 : Class := { plain "java/lang/CharSequence" (some 0) with
  accessFlags := 1537
  interfaces := #[]
  cf := some (fileOf pool4 2 #[.nestMembers #[47, 59]] #[] 1537 66 #[] #[])
  fields := #[]
  methods := #[]
  instanceTypes := #[]
  staticTypes := #[]
  resolved := Array.replicate 131 none
  statics := none }

def pool5 : Array CpInfo := pool [(1, .class_ 2), (0, u "java/lang/constant/Constable"), (0, .class_ 4), (0, u "java/lang/Object")] 6

/-- java/lang/constant/Constable -/
def k5 : Class := { plain "java/lang/constant/Constable" (some 0) with
  accessFlags := 1537
  interfaces := #[]
  cf := some (fileOf pool5 1 #[] #[] 1537 3 #[] #[])
  fields := #[]
  methods := #[]
  instanceTypes := #[]
  staticTypes := #[]
  resolved := Array.replicate 11 none
  statics := none }

def pool6 : Array CpInfo := pool [(1, .class_ 2), (0, u "java/lang/constant/ConstantDesc"), (0, .class_ 4), (0, u "java/lang/Object")] 32

/-- java/lang/constant/ConstantDesc -/
def k6 : Class := { plain "java/lang/constant/ConstantDesc" (some 0) with
  accessFlags := 1537
  interfaces := #[]
  cf := some (fileOf pool6 1 #[] #[] 1537 3 #[] #[])
  fields := #[]
  methods := #[]
  instanceTypes := #[]
  staticTypes := #[]
  resolved := Array.replicate 37 none
  statics := none }

def pool7 : Array CpInfo := pool [(1, .methodref 2 3), (0, .class_ 4), (0, .nameAndType 5 6), (0, u "java/lang/Object"), (0, u "<init>"), (0, u "()V"), (0, .string 8), (0, u ""), (0, .fieldref 10 11), (0, .class_ 12), (0, .nameAndType 13 14), (0, u "java/lang/String"), (0, u "value"), (0, u "[B"), (0, .fieldref 10 16), (0, .nameAndType 17 18), (0, u "coder"), (0, u "B"), (2, u "hash"), (0, u "I"), (2, u "hashIsZero"), (0, u "Z"), (0, .methodref 10 28), (0, .nameAndType 5 29), (0, u "([CIILjava/lang/Void;)V"), (8, .fieldref 10 39), (0, .nameAndType 40 26), (0, u "COMPACT_STRINGS"), (1, .class_ 44), (1, u "java/lang/StringUTF16"), (0, u "compress"), (1, .methodref 42 48), (0, .nameAndType 49 50), (0, u "coderFromArrayLen"), (0, u "([BI)B"), (126, .methodref 42 178), (0, .nameAndType 45 179), (0, u "([CII)[B"), (154, u "()I"), (0, .methodref 10 336), (0, .nameAndType 17 337), (0, u "()B"), (169, u "length"), (35, u "equals"), (29, u "(Ljava/lang/Object;)Z"), (1, .class_ 576), (0, u "java/lang/CharSequence"), (22, u "CASE_INSENSITIVE_ORDER"), (0, u "Ljava/util/Comparator;"), (409, u "([C)V"), (90, u "serialPersistentFields"), (0, u "[Ljava/io/ObjectStreamField;"), (0, .class_ 1104), (0, u "java/lang/String$CaseInsensitiveComparator"), (1, .class_ 1107), (0, u "java/io/Serializable"), (0, .class_ 1109), (0, u "java/lang/Comparable"), (0, .class_ 1111), (0, u "java/lang/constant/Constable"), (0, .class_ 1113), (0, u "java/lang/constant/ConstantDesc"), (2, u "serialVersionUID"), (0, u "J"), (3, u "REPL"), (0, u "C"), (2, u "LATIN1"), (1, u "UTF16")] 323

def k7m0 : Method := { name := "<init>", desc := "()V", sig := { parameters := [], returnType := none }, accessFlags := 1, code := none }
def k7c1 : Code := { maxStack := 5, maxLocals := 2, code := jdk_42_method_3_code, exceptionTable := #[], attributes := #[] }
def k7m1 : Method := { name := "<init>", desc := "([C)V", sig := { parameters := [(.array .char)], returnType := none }, accessFlags := 1, code := some k7c1 }
def k7c2 : Code := { maxStack := 2, maxLocals := 1, code := jdk_42_method_54_code, exceptionTable := #[], attributes := #[] }
def k7m2 : Method := { name := "length", desc := "()I", sig := { parameters := [], returnType := some .int }, accessFlags := 1, code := some k7c2 }
def k7c3 : Code := { maxStack := 2, maxLocals := 3, code := jdk_42_method_66_code, exceptionTable := #[], attributes := #[] }
def k7m3 : Method := { name := "equals", desc := "(Ljava/lang/Object;)Z", sig := { parameters := [(.object "java/lang/Object")], returnType := some .boolean }, accessFlags := 1, code := some k7c3 }
def k7c4 : Code := { maxStack := 4, maxLocals := 6, code := jdk_42_method_149_code, exceptionTable := #[], attributes := #[] }
def k7m4 : Method := { name := "<init>", desc := "([CIILjava/lang/Void;)V", sig := { parameters := [(.array .char), .int, .int, (.object "java/lang/Void")], returnType := none }, accessFlags := 2, code := some k7c4 }
def k7c5 : Code := { maxStack := 1, maxLocals := 1, code := jdk_42_method_152_code, exceptionTable := #[], attributes := #[] }
def k7m5 : Method := { name := "coder", desc := "()B", sig := { parameters := [], returnType := some .byte }, accessFlags := 0, code := some k7c5 }
/-- java/lang/String -/
def k7 : Class := { plain "java/lang/String" (some 0) with
  accessFlags := 49
  interfaces := #[2, 3, 4, 5, 6]
  cf := some (fileOf pool7 10 #[.nestMembers #[1103]] #[{ accessFlags := 1, nameIndex := 5, descriptorIndex := 6, attributes := #[] }, { accessFlags := 1, nameIndex := 5, descriptorIndex := 1010, attributes := #[] }, { accessFlags := 1, nameIndex := 507, descriptorIndex := 334, attributes := #[] }, { accessFlags := 1, nameIndex := 543, descriptorIndex := 573, attributes := #[] }, { accessFlags := 2, nameIndex := 5, descriptorIndex := 29, attributes := #[] }, { accessFlags := 0, nameIndex := 17, descriptorIndex := 337, attributes := #[] }] 49 2 #[1106, 1108, 575, 1110, 1112] #[{ accessFlags := 18, nameIndex := 13, descriptorIndex := 14, attributes := #[] }, { accessFlags := 18, nameIndex := 17, descriptorIndex := 18, attributes := #[] }, { accessFlags := 2, nameIndex := 21, descriptorIndex := 22, attributes := #[] }, { accessFlags := 2, nameIndex := 25, descriptorIndex := 26, attributes := #[] }, { accessFlags := 26, nameIndex := 1116, descriptorIndex := 1117, attributes := #[] }, { accessFlags := 24, nameIndex := 40, descriptorIndex := 26, attributes := #[] }, { accessFlags := 26, nameIndex := 1101, descriptorIndex := 1102, attributes := #[] }, { accessFlags := 26, nameIndex := 1121, descriptorIndex := 1122, attributes := #[] }, { accessFlags := 25, nameIndex := 599, descriptorIndex := 600, attributes := #[] }, { accessFlags := 24, nameIndex := 1125, descriptorIndex := 18, attributes := #[] }, { accessFlags := 24, nameIndex := 1127, descriptorIndex := 18, attributes := #[] }])
  fields := #[{ name := "value", type := (.array .byte), accessFlags := 18, slot := 0, constantValue := 0 }, { name := "coder", type := .byte, accessFlags := 18, slot := 1, constantValue := 0 }, { name := "hash", type := .int, accessFlags := 2, slot := 2, constantValue := 0 }, { name := "hashIsZero", type := .boolean, accessFlags := 2, slot := 3, constantValue := 0 }, { name := "serialVersionUID", type := .long, accessFlags := 26, slot := 0, constantValue := 0 }, { name := "COMPACT_STRINGS", type := .boolean, accessFlags := 24, slot := 1, constantValue := 0 }, { name := "serialPersistentFields", type := (.array (.object "java/io/ObjectStreamField")), accessFlags := 26, slot := 2, constantValue := 0 }, { name := "REPL", type := .char, accessFlags := 26, slot := 3, constantValue := 0 }, { name := "CASE_INSENSITIVE_ORDER", type := (.object "java/util/Comparator"), accessFlags := 25, slot := 4, constantValue := 0 }, { name := "LATIN1", type := .byte, accessFlags := 24, slot := 5, constantValue := 0 }, { name := "UTF16", type := .byte, accessFlags := 24, slot := 6, constantValue := 0 }]
  methods := #[k7m0, k7m1, k7m2, k7m3, k7m4, k7m5]
  instanceTypes := #[(.array .byte), .byte, .int, .boolean]
  staticTypes := #[.long, .boolean, (.array (.object "java/io/ObjectStreamField")), .char, (.object "java/util/Comparator"), .byte, .byte]
  resolved := Array.replicate 1451 none
  statics := some 0 }

def pool8 : Array CpInfo := pool [(6, .class_ 8), (1, u "java/lang/Object"), (0, u "<init>"), (0, u "()V"), (1, .class_ 14), (1, u "java/lang/StringUTF16"), (31, u "$assertionsDisabled"), (0, u "Z"), (13, u "HI_BYTE_SHIFT"), (0, u "I"), (2, u "LO_BYTE_SHIFT"), (49, .methodref 12 116), (0, .nameAndType 117 118), (0, u "compress"), (0, u "([CI[BII)I"), (3, u "([CII)[B"), (138, u "coderFromArrayLen"), (0, u "([BI)B"), (106, .class_ 371), (1, u "java/lang/StringUTF16$LinesSpliterator"), (58, u "MAX_LENGTH"), (196, .class_ 628), (0, u "java/lang/StringUTF16$CodePointsSpliterator"), (0, .class_ 630), (0, u "java/lang/StringUTF16$CharsSpliterator")] 4

def k8m0 : Method := { name := "<init>", desc := "()V", sig := { parameters := [], returnType := none }, accessFlags := 0, code := none }
def k8c1 : Code := { maxStack := 2, maxLocals := 2, code := jdk_52_method_15_code, exceptionTable := #[], attributes := #[] }
def k8m1 : Method := { name := "coderFromArrayLen", desc := "([BI)B", sig := { parameters := [(.array .byte), .int], returnType := some .byte }, accessFlags := 8, code := some k8c1 }
def k8c2 : Code := { maxStack := 5, maxLocals := 6, code := jdk_52_method_16_code, exceptionTable := #[], attributes := #[] }
def k8m2 : Method := { name := "compress", desc := "([CII)[B", sig := { parameters := [(.array .char), .int, .int], returnType := some (.array .byte) }, accessFlags := 9, code := some k8c2 }
def k8c3 : Code := { maxStack := 3, maxLocals := 7, code := jdk_52_method_21_code, exceptionTable := #[], attributes := #[] }
def k8m3 : Method := { name := "compress", desc := "([CI[BII)I", sig := { parameters := [(.array .char), .int, (.array .byte), .int, .int], returnType := some .int }, accessFlags := 9, code := some k8c3 }
/-- java/lang/StringUTF16 -/
def k8 : Class := { plain "java/lang/StringUTF16" (some 0) with
  accessFlags := 48
  interfaces := #[]
  cf := some (fileOf pool8 12 #[.nestMembers #[627, 629, 369]] #[{ accessFlags := 0, nameIndex := 9, descriptorIndex := 10, attributes := #[] }, { accessFlags := 8, nameIndex := 261, descriptorIndex := 262, attributes := #[] }, { accessFlags := 9, nameIndex := 117, descriptorIndex := 122, attributes := #[] }, { accessFlags := 9, nameIndex := 117, descriptorIndex := 118, attributes := #[] }] 48 6 #[] #[{ accessFlags := 26, nameIndex := 61, descriptorIndex := 62, attributes := #[] }, { accessFlags := 26, nameIndex := 65, descriptorIndex := 62, attributes := #[] }, { accessFlags := 24, nameIndex := 430, descriptorIndex := 62, attributes := #[] }, { accessFlags := 4120, nameIndex := 46, descriptorIndex := 47, attributes := #[] }])
  fields := #[{ name := "HI_BYTE_SHIFT", type := .int, accessFlags := 26, slot := 0, constantValue := 0 }, { name := "LO_BYTE_SHIFT", type := .int, accessFlags := 26, slot := 1, constantValue := 0 }, { name := "MAX_LENGTH", type := .int, accessFlags := 24, slot := 2, constantValue := 0 }, { name := "$assertionsDisabled", type := .boolean, accessFlags := 4120, slot := 3, constantValue := 0 }]
  methods := #[k8m0, k8m1, k8m2, k8m3]
  instanceTypes := #[]
  staticTypes := #[.int, .int, .int, .boolean]
  resolved := Array.replicate 635 none
  statics := none }

def pool9 : Array CpInfo := pool [(1, .methodref 2 3), (0, .class_ 4), (0, .nameAndType 5 6), (0, u "java/lang/Object"), (0, u "<init>"), (0, u "()V"), (0, .fieldref 8 9), (0, .class_ 10), (0, .nameAndType 11 12), (0, u "java/lang/Throwable"), (0, u "cause"), (0, u "Ljava/lang/Throwable;"), (0, .fieldref 8 14), (0, .nameAndType 15 16), (0, u "UNASSIGNED_STACK"), (0, u "[Ljava/lang/StackTraceElement;"), (0, .fieldref 8 18), (0, .nameAndType 19 16), (0, u "stackTrace"), (0, .fieldref 8 21), (0, .nameAndType 22 23), (0, u "SUPPRESSED_SENTINEL"), (0, u "Ljava/util/List;"), (0, .fieldref 8 25), (0, .nameAndType 26 23), (0, u "suppressedExceptions"), (0, .methodref 8 28), (0, .nameAndType 29 30), (0, u "fillInStackTrace"), (0, u "()Ljava/lang/Throwable;"), (0, .fieldref 8 32), (0, .nameAndType 33 34), (0, u "detailMessage"), (0, u "Ljava/lang/String;"), (3, u "()Ljava/lang/String;"), (2, u "getMessage"), (51, .class_ 94), (0, u "java/lang/Throwable$WrappedPrintStream"), (6, .class_ 103), (1, u "java/lang/Throwable$PrintStreamOrWriter"), (61, u "$assertionsDisabled"), (0, u "Z"), (26, .class_ 194), (0, u "java/lang/Throwable$WrappedPrintWriter"), (3, .fieldref 8 199), (0, .nameAndType 200 201), (0, u "backtrace"), (0, u "Ljava/lang/Object;"), (0, .methodref 8 203), (0, .nameAndType 29 204), (0, u "(I)Ljava/lang/Throwable;"), (6, u "depth"), (0, u "I"), (10, u "(Ljava/lang/String;)V"), (45, .class_ 271), (1, u "java/lang/Throwable$SentinelHolder"), (32, u "EMPTY_THROWABLE_ARRAY"), (0, u "[Ljava/lang/Throwable;"), (12, .class_ 319), (0, u "java/io/Serializable"), (0, u "serialVersionUID"), (0, u "J"), (5, u "NULL_CAUSE_MESSAGE"), (0, u "SELF_SUPPRESSION_MESSAGE"), (0, u "CAUSE_CAPTION"), (0, u "SUPPRESSED_CAPTION")] 73

def k9c0 : Code := { maxStack := 2, maxLocals := 1, code := jdk_78_method_1_code, exceptionTable := #[], attributes := #[] }
def k9m0 : Method := { name := "<init>", desc := "()V", sig := { parameters := [], returnType := none }, accessFlags := 1, code := some k9c0 }
def k9c1 : Code := { maxStack := 2, maxLocals := 2, code := jdk_78_method_2_code, exceptionTable := #[], attributes := #[] }
def k9m1 : Method := { name := "<init>", desc := "(Ljava/lang/String;)V", sig := { parameters := [(.object "java/lang/String")], returnType := none }, accessFlags := 1, code := some k9c1 }
def k9c2 : Code := { maxStack := 1, maxLocals := 1, code := jdk_78_method_6_code, exceptionTable := #[], attributes := #[] }
def k9m2 : Method := { name := "getMessage", desc := "()Ljava/lang/String;", sig := { parameters := [], returnType := some (.object "java/lang/String") }, accessFlags := 1, code := some k9c2 }
def k9c3 : Code := { maxStack := 2, maxLocals := 1, code := ⟨#[0x2a, 0xb4, 0x00, 0x11, 0xc7, 0x00, 0x0a, 0x2a, 0xb4, 0x00, 0xc6, 0xc6, 0x00, 0x10, 0x2a, 0x03, 0xb6, 0x00, 0xca, 0x57, 0x2a, 0xb2, 0x00, 0x0d, 0xb5, 0x00, 0x11, 0x2a, 0xb0]⟩, exceptionTable := #[], attributes := #[] }
def k9m3 : Method := { name := "fillInStackTrace", desc := "()Ljava/lang/Throwable;", sig := { parameters := [], returnType := some (.object "java/lang/Throwable") }, accessFlags := 33, code := some k9c3 }
def k9m4 : Method := { name := "fillInStackTrace", desc := "(I)Ljava/lang/Throwable;", sig := { parameters := [.int], returnType := some (.object "java/lang/Throwable") }, accessFlags := 258, code := none }
/-- java/lang/Throwable -/
def k9 : Class := { plain "java/lang/Throwable" (some 0) with
  accessFlags := 33
  interfaces := #[2]
  cf := some (fileOf pool9 8 #[.nestMembers #[193, 93, 101, 269]] #[{ accessFlags := 1, nameIndex := 5, descriptorIndex := 6, attributes := #[] }, { accessFlags := 1, nameIndex := 5, descriptorIndex := 223, attributes := #[] }, { accessFlags := 1, nameIndex := 41, descriptorIndex := 38, attributes := #[] }, { accessFlags := 33, nameIndex := 29, descriptorIndex := 30, attributes := #[] }, { accessFlags := 258, nameIndex := 29, descriptorIndex := 204, attributes := #[] }] 33 2 #[318] #[{ accessFlags := 26, nameIndex := 320, descriptorIndex := 321, attributes := #[] }, { accessFlags := 130, nameIndex := 200, descriptorIndex := 201, attributes := #[] }, { accessFlags := 2, nameIndex := 33, descriptorIndex := 34, attributes := #[] }, { accessFlags := 26, nameIndex := 15, descriptorIndex := 16, attributes := #[] }, { accessFlags := 2, nameIndex := 11, descriptorIndex := 12, attributes := #[] }, { accessFlags := 2, nameIndex := 19, descriptorIndex := 16, attributes := #[] }, { accessFlags := 130, nameIndex := 211, descriptorIndex := 212, attributes := #[] }, { accessFlags := 26, nameIndex := 22, descriptorIndex := 23, attributes := #[] }, { accessFlags := 2, nameIndex := 26, descriptorIndex := 23, attributes := #[] }, { accessFlags := 26, nameIndex := 327, descriptorIndex := 34, attributes := #[] }, { accessFlags := 26, nameIndex := 328, descriptorIndex := 34, attributes := #[] }, { accessFlags := 26, nameIndex := 329, descriptorIndex := 34, attributes := #[] }, { accessFlags := 26, nameIndex := 330, descriptorIndex := 34, attributes := #[] }, { accessFlags := 26, nameIndex := 304, descriptorIndex := 305, attributes := #[] }, { accessFlags := 4120, nameIndex := 165, descriptorIndex := 166, attributes := #[] }])
  fields := #[{ name := "serialVersionUID", type := .long, accessFlags := 26, slot := 0, constantValue := 0 }, { name := "backtrace", type := (.object "java/lang/Object"), accessFlags := 130, slot := 0, constantValue := 0 }, { name := "detailMessage", type := (.object "java/lang/String"), accessFlags := 2, slot := 1, constantValue := 0 }, { name := "UNASSIGNED_STACK", type := (.array (.object "java/lang/StackTraceElement")), accessFlags := 26, slot := 1, constantValue := 0 }, { name := "cause", type := (.object "java/lang/Throwable"), accessFlags := 2, slot := 2, constantValue := 0 }, { name := "stackTrace", type := (.array (.object "java/lang/StackTraceElement")), accessFlags := 2, slot := 3, constantValue := 0 }, { name := "depth", type := .int, accessFlags := 130, slot := 4, constantValue := 0 }, { name := "SUPPRESSED_SENTINEL", type := (.object "java/util/List"), accessFlags := 26, slot := 2, constantValue := 0 }, { name := "suppressedExceptions", type := (.object "java/util/List"), accessFlags := 2, slot := 5, constantValue := 0 }, { name := "NULL_CAUSE_MESSAGE", type := (.object "java/lang/String"), accessFlags := 26, slot := 3, constantValue := 0 }, { name := "SELF_SUPPRESSION_MESSAGE", type := (.object "java/lang/String"), accessFlags := 26, slot := 4, constantValue := 0 }, { name := "CAUSE_CAPTION", type := (.object "java/lang/String"), accessFlags := 26, slot := 5, constantValue := 0 }, { name := "SUPPRESSED_CAPTION", type := (.object "java/lang/String"), accessFlags := 26, slot := 6, constantValue := 0 }, { name := "EMPTY_THROWABLE_ARRAY", type := (.array (.object "java/lang/Throwable")), accessFlags := 26, slot := 7, constantValue := 0 }, { name := "$assertionsDisabled", type := .boolean, accessFlags := 4120, slot := 8, constantValue := 0 }]
  methods := #[k9m0, k9m1, k9m2, k9m3, k9m4]
  instanceTypes := #[(.object "java/lang/Object"), (.object "java/lang/String"), (.object "java/lang/Throwable"), (.array (.object "java/lang/StackTraceElement")), .int, (.object "java/util/List")]
  staticTypes := #[.long, (.array (.object "java/lang/StackTraceElement")), (.object "java/util/List"), (.object "java/lang/String"), (.object "java/lang/String"), (.object "java/lang/String"), (.object "java/lang/String"), (.array (.object "java/lang/Throwable")), .boolean]
  resolved := Array.replicate 404 none
  statics := some 1 }

def pool10 : Array CpInfo := pool [(2, .class_ 4), (1, u "java/lang/Throwable"), (0, u "<init>"), (0, u "()V"), (0, .methodref 2 8), (0, .nameAndType 5 9), (0, u "(Ljava/lang/String;)V"), (9, .class_ 20), (0, u "java/lang/Exception"), (0, u "serialVersionUID"), (0, u "J")] 17

def k10m0 : Method := { name := "<init>", desc := "()V", sig := { parameters := [], returnType := none }, accessFlags := 1, code := none }
def k10c1 : Code := { maxStack := 2, maxLocals := 2, code := jdk_59_method_2_code, exceptionTable := #[], attributes := #[] }
def k10m1 : Method := { name := "<init>", desc := "(Ljava/lang/String;)V", sig := { parameters := [(.object "java/lang/String")], returnType := none }, accessFlags := 1, code := some k10c1 }
/-- java/lang/Exception -/
def k10 : Class := { plain "java/lang/Exception" (some 9) with
  accessFlags := 33
  interfaces := #[]
  cf := some (fileOf pool10 19 #[] #[{ accessFlags := 1, nameIndex := 5, descriptorIndex := 6, attributes := #[] }, { accessFlags := 1, nameIndex := 5, descriptorIndex := 9, attributes := #[] }] 33 2 #[] #[{ accessFlags := 24, nameIndex := 21, descriptorIndex := 22, attributes := #[] }])
  fields := #[{ name := "serialVersionUID", type := .long, accessFlags := 24, slot := 0, constantValue := 0 }]
  methods := #[k10m0, k10m1]
  instanceTypes := #[(.object "java/lang/Object"), (.object "java/lang/String"), (.object "java/lang/Throwable"), (.array (.object "java/lang/StackTraceElement")), .int, (.object "java/util/List")]
  staticTypes := #[.long]
  resolved := Array.replicate 40 none
  statics := none }

def pool11 : Array CpInfo := pool [(1, .methodref 2 3), (0, .class_ 4), (0, .nameAndType 5 6), (0, u "java/lang/Exception"), (0, u "<init>"), (0, u "(Ljava/lang/String;)V"), (0, .class_ 8), (0, u "com/example/wareline/wareline/Failure"), (0, u "serialVersionUID"), (0, u "J")] 7

def k11c0 : Code := { maxStack := 2, maxLocals := 2, code := prog_15_method_1_code, exceptionTable := #[], attributes := #[] }
def k11m0 : Method := { name := "<init>", desc := "(Ljava/lang/String;)V", sig := { parameters := [(.object "java/lang/String")], returnType := none }, accessFlags := 1, code := some k11c0 }
/-- com/example/wareline/wareline/Failure -/
def k11 : Class := { plain "com/example/wareline/wareline/Failure" (some 10) with
  accessFlags := 33
  interfaces := #[]
  cf := some (fileOf pool11 7 #[] #[{ accessFlags := 1, nameIndex := 5, descriptorIndex := 6, attributes := #[] }] 33 2 #[] #[{ accessFlags := 26, nameIndex := 9, descriptorIndex := 10, attributes := #[] }])
  fields := #[{ name := "serialVersionUID", type := .long, accessFlags := 26, slot := 0, constantValue := 0 }]
  methods := #[k11m0]
  instanceTypes := #[(.object "java/lang/Object"), (.object "java/lang/String"), (.object "java/lang/Throwable"), (.array (.object "java/lang/StackTraceElement")), .int, (.object "java/util/List")]
  staticTypes := #[.long]
  resolved := Array.replicate 18 none
  statics := none }

def pool12 : Array CpInfo := pool [(1, .methodref 2 3), (0, .class_ 4), (0, .nameAndType 5 6), (0, u "com/example/wareline/wareline/Failure"), (0, u "<init>"), (0, u "(Ljava/lang/String;)V"), (0, .fieldref 8 9), (0, .class_ 10), (0, .nameAndType 11 12), (0, u "com/example/wareline/wareline/Refusal"), (0, u "status"), (0, u "I"), (0, .methodref 8 14), (0, .nameAndType 5 15), (0, u "(ILjava/lang/String;)V"), (0, u "serialVersionUID"), (0, u "J"), (6, u "(Ljava/lang/String;)Lcom/example/wareline/wareline/Refusal;"), (1, u "tooLarge")] 2

def k12c0 : Code := { maxStack := 2, maxLocals := 3, code := prog_17_method_1_code, exceptionTable := #[], attributes := #[] }
def k12m0 : Method := { name := "<init>", desc := "(ILjava/lang/String;)V", sig := { parameters := [.int, (.object "java/lang/String")], returnType := none }, accessFlags := 2, code := some k12c0 }
def k12c1 : Code := { maxStack := 4, maxLocals := 1, code := prog_17_method_4_code, exceptionTable := #[], attributes := #[] }
def k12m1 : Method := { name := "tooLarge", desc := "(Ljava/lang/String;)Lcom/example/wareline/wareline/Refusal;", sig := { parameters := [(.object "java/lang/String")], returnType := some (.object "com/example/wareline/wareline/Refusal") }, accessFlags := 8, code := some k12c1 }
/-- com/example/wareline/wareline/Refusal -/
def k12 : Class := { plain "com/example/wareline/wareline/Refusal" (some 11) with
  accessFlags := 48
  interfaces := #[]
  cf := some (fileOf pool12 8 #[] #[{ accessFlags := 2, nameIndex := 5, descriptorIndex := 15, attributes := #[] }, { accessFlags := 8, nameIndex := 26, descriptorIndex := 24, attributes := #[] }] 48 2 #[] #[{ accessFlags := 26, nameIndex := 16, descriptorIndex := 17, attributes := #[] }, { accessFlags := 16, nameIndex := 11, descriptorIndex := 12, attributes := #[] }])
  fields := #[{ name := "serialVersionUID", type := .long, accessFlags := 26, slot := 0, constantValue := 0 }, { name := "status", type := .int, accessFlags := 16, slot := 6, constantValue := 0 }]
  methods := #[k12m0, k12m1]
  instanceTypes := #[(.object "java/lang/Object"), (.object "java/lang/String"), (.object "java/lang/Throwable"), (.array (.object "java/lang/StackTraceElement")), .int, (.object "java/util/List"), .int]
  staticTypes := #[.long]
  resolved := Array.replicate 29 none
  statics := none }

def pool13 : Array CpInfo := pool [(4, .class_ 6), (1, u "java/lang/Object"), (0, u "<init>"), (0, u "()V"), (5, .class_ 16), (1, u "java/lang/StringLatin1"), (104, u "$assertionsDisabled"), (0, u "Z"), (98, .class_ 223), (1, u "java/lang/StringLatin1$LinesSpliterator"), (166, .class_ 391), (0, u "java/lang/StringLatin1$CharsSpliterator")] 3

def k13m0 : Method := { name := "<init>", desc := "()V", sig := { parameters := [], returnType := none }, accessFlags := 0, code := none }
/-- java/lang/StringLatin1 -/
def k13 : Class := { plain "java/lang/StringLatin1" (some 0) with
  accessFlags := 48
  interfaces := #[]
  cf := some (fileOf pool13 14 #[.nestMembers #[390, 221]] #[{ accessFlags := 0, nameIndex := 7, descriptorIndex := 8, attributes := #[] }] 48 4 #[] #[{ accessFlags := 4120, nameIndex := 121, descriptorIndex := 122, attributes := #[] }])
  fields := #[{ name := "$assertionsDisabled", type := .boolean, accessFlags := 4120, slot := 0, constantValue := 0 }]
  methods := #[k13m0]
  instanceTypes := #[]
  staticTypes := #[.boolean]
  resolved := Array.replicate 395 none
  statics := none }

def pool14 : Array CpInfo := pool [(2, .class_ 4), (1, u "java/lang/Object"), (0, u "<init>"), (0, u "()V"), (17, .class_ 26), (1, u "jdk/internal/util/Preconditions"), (28, .class_ 56), (0, u "jdk/internal/util/Preconditions$4"), (57, .class_ 115), (0, u "jdk/internal/util/Preconditions$1"), (7, u "SIOOBE_FORMATTER"), (0, u "Ljava/util/function/BiFunction;"), (0, .class_ 126), (0, u "jdk/internal/util/Preconditions$2"), (3, u "AIOOBE_FORMATTER"), (0, .class_ 132), (0, u "jdk/internal/util/Preconditions$3"), (3, u "IOOBE_FORMATTER")] 57

def k14m0 : Method := { name := "<init>", desc := "()V", sig := { parameters := [], returnType := none }, accessFlags := 1, code := none }
/-- jdk/internal/util/Preconditions -/
def k14 : Class := { plain "jdk/internal/util/Preconditions" (some 0) with
  accessFlags := 33
  interfaces := #[]
  cf := some (fileOf pool14 24 #[.nestMembers #[55, 131, 125, 114]] #[{ accessFlags := 1, nameIndex := 5, descriptorIndex := 6, attributes := #[] }] 33 2 #[] #[{ accessFlags := 25, nameIndex := 123, descriptorIndex := 124, attributes := #[] }, { accessFlags := 25, nameIndex := 130, descriptorIndex := 124, attributes := #[] }, { accessFlags := 25, nameIndex := 136, descriptorIndex := 124, attributes := #[] }])
  fields := #[{ name := "SIOOBE_FORMATTER", type := (.object "java/util/function/BiFunction"), accessFlags := 25, slot := 0, constantValue := 0 }, { name := "AIOOBE_FORMATTER", type := (.object "java/util/function/BiFunction"), accessFlags := 25, slot := 1, constantValue := 0 }, { name := "IOOBE_FORMATTER", type := (.object "java/util/function/BiFunction"), accessFlags := 25, slot := 2, constantValue := 0 }]
  methods := #[k14m0]
  instanceTypes := #[]
  staticTypes := #[(.object "java/util/function/BiFunction"), (.object "java/util/function/BiFunction"), (.object "java/util/function/BiFunction")]
  resolved := Array.replicate 194 none
  statics := some 2 }

def pool15 : Array CpInfo := pool [(9, u "<init>"), (6, .class_ 18), (1, u "java/lang/Object"), (0, u "()V"), (1, .class_ 23), (1, u "jdk/internal/util/ArraysSupport"), (0, u "LOG2_ARRAY_LONG_INDEX_SCALE"), (0, u "I"), (2, u "U"), (0, u "Ljdk/internal/misc/Unsafe;"), (8, u "BIG_ENDIAN"), (0, u "Z"), (8, u "LOG2_BYTE_BIT_SIZE"), (4, u "LOG2_ARRAY_INT_INDEX_SCALE"), (54, u "JLA"), (0, u "Ljdk/internal/access/JavaLangAccess;"), (11, u "LOG2_ARRAY_BOOLEAN_INDEX_SCALE"), (9, u "LOG2_ARRAY_BYTE_INDEX_SCALE"), (5, u "LOG2_ARRAY_CHAR_INDEX_SCALE"), (5, u "LOG2_ARRAY_SHORT_INDEX_SCALE"), (18, u "LOG2_ARRAY_FLOAT_INDEX_SCALE"), (24, u "LOG2_ARRAY_DOUBLE_INDEX_SCALE"), (89, u "T_BOOLEAN"), (2, u "T_CHAR"), (1, u "T_FLOAT"), (1, u "T_DOUBLE"), (1, u "T_BYTE"), (1, u "T_SHORT"), (1, u "T_INT"), (1, u "T_LONG"), (1, u "SOFT_MAX_ARRAY_LENGTH")] 83

def k15m0 : Method := { name := "<init>", desc := "()V", sig := { parameters := [], returnType := none }, accessFlags := 2, code := none }
/-- jdk/internal/util/ArraysSupport -/
def k15 : Class := { plain "jdk/internal/util/ArraysSupport" (some 0) with
  accessFlags := 33
  interfaces := #[]
  cf := some (fileOf pool15 21 #[] #[{ accessFlags := 2, nameIndex := 9, descriptorIndex := 19, attributes := #[] }] 33 16 #[] #[{ accessFlags := 24, nameIndex := 28, descriptorIndex := 29, attributes := #[] }, { accessFlags := 26, nameIndex := 38, descriptorIndex := 39, attributes := #[] }, { accessFlags := 25, nameIndex := 121, descriptorIndex := 25, attributes := #[] }, { accessFlags := 25, nameIndex := 131, descriptorIndex := 25, attributes := #[] }, { accessFlags := 25, nameIndex := 137, descriptorIndex := 25, attributes := #[] }, { accessFlags := 25, nameIndex := 143, descriptorIndex := 25, attributes := #[] }, { accessFlags := 25, nameIndex := 53, descriptorIndex := 25, attributes := #[] }, { accessFlags := 25, nameIndex := 24, descriptorIndex := 25, attributes := #[] }, { accessFlags := 25, nameIndex := 162, descriptorIndex := 25, attributes := #[] }, { accessFlags := 25, nameIndex := 187, descriptorIndex := 25, attributes := #[] }, { accessFlags := 26, nameIndex := 48, descriptorIndex := 25, attributes := #[] }, { accessFlags := 25, nameIndex := 277, descriptorIndex := 25, attributes := #[] }, { accessFlags := 25, nameIndex := 280, descriptorIndex := 25, attributes := #[] }, { accessFlags := 25, nameIndex := 282, descriptorIndex := 25, attributes := #[] }, { accessFlags := 25, nameIndex := 284, descriptorIndex := 25, attributes := #[] }, { accessFlags := 25, nameIndex := 286, descriptorIndex := 25, attributes := #[] }, { accessFlags := 25, nameIndex := 288, descriptorIndex := 25, attributes := #[] }, { accessFlags := 25, nameIndex := 290, descriptorIndex := 25, attributes := #[] }, { accessFlags := 25, nameIndex := 292, descriptorIndex := 25, attributes := #[] }, { accessFlags := 26, nameIndex := 108, descriptorIndex := 109, attributes := #[] }, { accessFlags := 25, nameIndex := 294, descriptorIndex := 25, attributes := #[] }])
  fields := #[{ name := "U", type := (.object "jdk/internal/misc/Unsafe"), accessFlags := 24, slot := 0, constantValue := 0 }, { name := "BIG_ENDIAN", type := .boolean, accessFlags := 26, slot := 1, constantValue := 0 }, { name := "LOG2_ARRAY_BOOLEAN_INDEX_SCALE", type := .int, accessFlags := 25, slot := 2, constantValue := 0 }, { name := "LOG2_ARRAY_BYTE_INDEX_SCALE", type := .int, accessFlags := 25, slot := 3, constantValue := 0 }, { name := "LOG2_ARRAY_CHAR_INDEX_SCALE", type := .int, accessFlags := 25, slot := 4, constantValue := 0 }, { name := "LOG2_ARRAY_SHORT_INDEX_SCALE", type := .int, accessFlags := 25, slot := 5, constantValue := 0 }, { name := "LOG2_ARRAY_INT_INDEX_SCALE", type := .int, accessFlags := 25, slot := 6, constantValue := 0 }, { name := "LOG2_ARRAY_LONG_INDEX_SCALE", type := .int, accessFlags := 25, slot := 7, constantValue := 0 }, { name := "LOG2_ARRAY_FLOAT_INDEX_SCALE", type := .int, accessFlags := 25, slot := 8, constantValue := 0 }, { name := "LOG2_ARRAY_DOUBLE_INDEX_SCALE", type := .int, accessFlags := 25, slot := 9, constantValue := 0 }, { name := "LOG2_BYTE_BIT_SIZE", type := .int, accessFlags := 26, slot := 10, constantValue := 0 }, { name := "T_BOOLEAN", type := .int, accessFlags := 25, slot := 11, constantValue := 0 }, { name := "T_CHAR", type := .int, accessFlags := 25, slot := 12, constantValue := 0 }, { name := "T_FLOAT", type := .int, accessFlags := 25, slot := 13, constantValue := 0 }, { name := "T_DOUBLE", type := .int, accessFlags := 25, slot := 14, constantValue := 0 }, { name := "T_BYTE", type := .int, accessFlags := 25, slot := 15, constantValue := 0 }, { name := "T_SHORT", type := .int, accessFlags := 25, slot := 16, constantValue := 0 }, { name := "T_INT", type := .int, accessFlags := 25, slot := 17, constantValue := 0 }, { name := "T_LONG", type := .int, accessFlags := 25, slot := 18, constantValue := 0 }, { name := "JLA", type := (.object "jdk/internal/access/JavaLangAccess"), accessFlags := 26, slot := 19, constantValue := 0 }, { name := "SOFT_MAX_ARRAY_LENGTH", type := .int, accessFlags := 25, slot := 20, constantValue := 0 }]
  methods := #[k15m0]
  instanceTypes := #[]
  staticTypes := #[(.object "jdk/internal/misc/Unsafe"), .boolean, .int, .int, .int, .int, .int, .int, .int, .int, .int, .int, .int, .int, .int, .int, .int, .int, .int, (.object "jdk/internal/access/JavaLangAccess"), .int]
  resolved := Array.replicate 378 none
  statics := none }

def pool16 : Array CpInfo := pool [(2, .class_ 4), (1, u "java/lang/Object"), (0, u "<init>"), (0, u "()V"), (12, .class_ 20), (0, u "java/util/Collections"), (63, u "r"), (0, u "Ljava/util/Random;"), (80, .class_ 167), (0, u "java/util/Collections$UnmodifiableCollection"), (6, .class_ 175), (0, u "java/util/Collections$UnmodifiableSequencedCollection"), (6, .class_ 183), (0, u "java/util/Collections$UnmodifiableSet"), (6, .class_ 191), (0, u "java/util/Collections$UnmodifiableSequencedSet"), (6, .class_ 199), (0, u "java/util/Collections$UnmodifiableSortedSet"), (6, .class_ 207), (0, u "java/util/Collections$UnmodifiableNavigableSet"), (4, .class_ 213), (0, u "java/util/Collections$UnmodifiableList"), (1, .class_ 216), (0, u "java/util/Collections$UnmodifiableRandomAccessList"), (6, .class_ 224), (0, u "java/util/Collections$UnmodifiableMap"), (6, .class_ 232), (0, u "java/util/Collections$UnmodifiableSequencedMap"), (4, .class_ 238), (0, u "java/util/Collections$UnmodifiableSortedMap"), (6, .class_ 246), (0, u "java/util/Collections$UnmodifiableNavigableMap"), (3, .class_ 251), (0, u "java/util/Collections$SynchronizedCollection"), (4, .class_ 257), (0, u "java/util/Collections$SynchronizedSet"), (4, .class_ 263), (0, u "java/util/Collections$SynchronizedSortedSet"), (1, .class_ 266), (0, u "java/util/Collections$SynchronizedNavigableSet"), (1, .class_ 269), (0, u "java/util/Collections$SynchronizedRandomAccessList"), (1, .class_ 272), (0, u "java/util/Collections$SynchronizedList"), (5, .class_ 279), (0, u "java/util/Collections$SynchronizedMap"), (1, .class_ 282), (0, u "java/util/Collections$SynchronizedSortedMap"), (1, .class_ 285), (0, u "java/util/Collections$SynchronizedNavigableMap"), (1, .class_ 288), (0, u "java/util/Collections$CheckedCollection"), (11, .class_ 301), (0, u "java/util/Collections$CheckedQueue"), (3, .class_ 306), (0, u "java/util/Collections$CheckedSet"), (3, .class_ 311), (0, u "java/util/Collections$CheckedSortedSet"), (3, .class_ 316), (0, u "java/util/Collections$CheckedNavigableSet"), (3, .class_ 321), (0, u "java/util/Collections$CheckedRandomAccessList"), (3, .class_ 326), (0, u "java/util/Collections$CheckedList"), (1, .class_ 329), (0, u "java/util/Collections$CheckedMap"), (3, .class_ 334), (0, u "java/util/Collections$CheckedSortedMap"), (3, .class_ 339), (0, u "java/util/Collections$CheckedNavigableMap"), (4, .class_ 346), (1, u "java/util/Collections$EmptyIterator"), (3, .class_ 352), (1, u "java/util/Collections$EmptyListIterator"), (2, .class_ 357), (1, u "java/util/Collections$EmptyEnumeration"), (4, u "EMPTY_SET"), (0, u "Ljava/util/Set;"), (6, u "EMPTY_LIST"), (0, u "Ljava/util/List;"), (2, u "EMPTY_MAP"), (0, u "Ljava/util/Map;"), (4, .class_ 381), (0, u "java/util/Collections$SingletonSet"), (2, .class_ 385), (0, u "java/util/Collections$1"), (1, .class_ 388), (0, u "java/util/Collections$2"), (1, .class_ 391), (0, u "java/util/Collections$SingletonList"), (1, .class_ 394), (0, u "java/util/Collections$SingletonMap"), (22, .class_ 418), (0, u "java/util/Collections$CopiesList"), (4, .class_ 425), (1, u "java/util/Collections$ReverseComparator"), (8, .class_ 435), (0, u "java/util/Collections$ReverseComparator2"), (6, .class_ 443), (0, u "java/util/Collections$3"), (25, .class_ 470), (0, u "java/util/Collections$SetFromMap"), (2, .class_ 474), (0, u "java/util/Collections$SequencedSetFromMap"), (3, .class_ 479), (0, u "java/util/Collections$AsLIFOQueue"), (11, .class_ 492), (0, u "java/util/Collections$EmptySet"), (1, .class_ 495), (0, u "java/util/Collections$EmptyList"), (1, .class_ 498), (0, u "java/util/Collections$EmptyMap"), (1, u "BINARYSEARCH_THRESHOLD"), (0, u "I"), (2, u "REVERSE_THRESHOLD"), (1, u "SHUFFLE_THRESHOLD"), (1, u "FILL_THRESHOLD"), (1, u "ROTATE_THRESHOLD"), (1, u "COPY_THRESHOLD"), (1, u "REPLACEALL_THRESHOLD"), (1, u "INDEXOFSUBLIST_THRESHOLD"), (333, .class_ 851), (0, u "java/util/Collections$CheckedMap$CheckedEntrySet"), (0, .class_ 853), (0, u "java/util/Collections$CheckedMap$CheckedEntrySet$CheckedEntry"), (0, .class_ 855), (0, u "java/util/Collections$CheckedMap$CheckedEntrySet$1"), (0, .class_ 857), (0, u "java/util/Collections$CheckedList$1"), (0, .class_ 859), (0, u "java/util/Collections$CheckedCollection$1"), (0, .class_ 861), (0, u "java/util/Collections$UnmodifiableNavigableMap$EmptyNavigableMap"), (0, .class_ 863), (0, u "java/util/Collections$UnmodifiableMap$UnmodifiableEntrySet"), (0, .class_ 865), (0, u "java/util/Collections$UnmodifiableMap$UnmodifiableEntrySet$UnmodifiableEntry"), (0, .class_ 867), (0, u "java/util/Collections$UnmodifiableMap$UnmodifiableEntrySet$UnmodifiableEntrySetSpliterator"), (0, .class_ 869), (0, u "java/util/Collections$UnmodifiableMap$UnmodifiableEntrySet$1"), (0, .class_ 871), (0, u "java/util/Collections$UnmodifiableList$1"), (0, .class_ 873), (0, u "java/util/Collections$UnmodifiableNavigableSet$EmptyNavigableSet"), (0, .class_ 875), (0, u "java/util/Collections$UnmodifiableCollection$1")] 57

def k16m0 : Method := { name := "<init>", desc := "()V", sig := { parameters := [], returnType := none }, accessFlags := 2, code := none }
/-- java/util/Collections -/
def k16 : Class := { plain "java/util/Collections" (some 0) with
  accessFlags := 33
  interfaces := #[]
  cf := some (fileOf pool16 19 #[.nestMembers #[478, 473, 469, 434, 423, 417, 393, 390, 380, 497, 494, 491, 355, 350, 344, 338, 333, 328, 850, 852, 854, 320, 325, 856, 315, 310, 305, 300, 287, 858, 284, 281, 278, 268, 271, 265, 262, 256, 250, 245, 860, 237, 231, 223, 862, 864, 866, 868, 215, 212, 870, 206, 872, 198, 190, 182, 174, 166, 874, 442, 387, 384]] #[{ accessFlags := 2, nameIndex := 5, descriptorIndex := 6, attributes := #[] }] 33 2 #[] #[{ accessFlags := 26, nameIndex := 500, descriptorIndex := 501, attributes := #[] }, { accessFlags := 26, nameIndex := 504, descriptorIndex := 501, attributes := #[] }, { accessFlags := 26, nameIndex := 506, descriptorIndex := 501, attributes := #[] }, { accessFlags := 26, nameIndex := 508, descriptorIndex := 501, attributes := #[] }, { accessFlags := 26, nameIndex := 510, descriptorIndex := 501, attributes := #[] }, { accessFlags := 26, nameIndex := 512, descriptorIndex := 501, attributes := #[] }, { accessFlags := 26, nameIndex := 514, descriptorIndex := 501, attributes := #[] }, { accessFlags := 26, nameIndex := 516, descriptorIndex := 501, attributes := #[] }, { accessFlags := 10, nameIndex := 84, descriptorIndex := 85, attributes := #[] }, { accessFlags := 25, nameIndex := 362, descriptorIndex := 363, attributes := #[] }, { accessFlags := 25, nameIndex := 370, descriptorIndex := 371, attributes := #[] }, { accessFlags := 25, nameIndex := 374, descriptorIndex := 375, attributes := #[] }])
  fields := #[{ name := "BINARYSEARCH_THRESHOLD", type := .int, accessFlags := 26, slot := 0, constantValue := 0 }, { name := "REVERSE_THRESHOLD", type := .int, accessFlags := 26, slot := 1, constantValue := 0 }, { name := "SHUFFLE_THRESHOLD", type := .int, accessFlags := 26, slot := 2, constantValue := 0 }, { name := "FILL_THRESHOLD", type := .int, accessFlags := 26, slot := 3, constantValue := 0 }, { name := "ROTATE_THRESHOLD", type := .int, accessFlags := 26, slot := 4, constantValue := 0 }, { name := "COPY_THRESHOLD", type := .int, accessFlags := 26, slot := 5, constantValue := 0 }, { name := "REPLACEALL_THRESHOLD", type := .int, accessFlags := 26, slot := 6, constantValue := 0 }, { name := "INDEXOFSUBLIST_THRESHOLD", type := .int, accessFlags := 26, slot := 7, constantValue := 0 }, { name := "r", type := (.object "java/util/Random"), accessFlags := 10, slot := 8, constantValue := 0 }, { name := "EMPTY_SET", type := (.object "java/util/Set"), accessFlags := 25, slot := 9, constantValue := 0 }, { name := "EMPTY_LIST", type := (.object "java/util/List"), accessFlags := 25, slot := 10, constantValue := 0 }, { name := "EMPTY_MAP", type := (.object "java/util/Map"), accessFlags := 25, slot := 11, constantValue := 0 }]
  methods := #[k16m0]
  instanceTypes := #[]
  staticTypes := #[.int, .int, .int, .int, .int, .int, .int, .int, (.object "java/util/Random"), (.object "java/util/Set"), (.object "java/util/List"), (.object "java/util/Map")]
  resolved := Array.replicate 933 none
  statics := some 3 }

def pool17 : Array CpInfo := pool [(8, .class_ 10), (1, u "java/lang/Iterable"), (24, .class_ 36), (0, u "java/lang/Object")] 25

/-- java/lang/Iterable -/
def k17 : Class := { plain "java/lang/Iterable" (some 0) with
  accessFlags := 1537
  interfaces := #[]
  cf := some (fileOf pool17 8 #[] #[] 1537 35 #[] #[])
  fields := #[]
  methods := #[]
  instanceTypes := #[]
  staticTypes := #[]
  resolved := Array.replicate 62 none
  statics := none }

def pool18 : Array CpInfo := pool [(10, .class_ 12), (1, u "java/util/Collection"), (47, .class_ 61), (0, u "java/lang/Object"), (0, .class_ 63), (0, u "java/lang/Iterable")] 51

/-- java/util/Collection -/
def k18 : Class := { plain "java/util/Collection" (some 0) with
  accessFlags := 1537
  interfaces := #[17]
  cf := some (fileOf pool18 10 #[] #[] 1537 60 #[62] #[])
  fields := #[]
  methods := #[]
  instanceTypes := #[]
  staticTypes := #[]
  resolved := Array.replicate 115 none
  statics := none }

def pool19 : Array CpInfo := pool [(2, .class_ 4), (1, u "java/lang/Object"), (0, u "<init>"), (0, u "()V"), (1, .class_ 10), (1, u "java/util/AbstractCollection"), (66, .class_ 78), (0, u "java/util/Collection")] 81

def k19m0 : Method := { name := "<init>", desc := "()V", sig := { parameters := [], returnType := none }, accessFlags := 4, code := none }
/-- java/util/AbstractCollection -/
def k19 : Class := { plain "java/util/AbstractCollection" (some 0) with
  accessFlags := 1057
  interfaces := #[18]
  cf := some (fileOf pool19 8 #[] #[{ accessFlags := 4, nameIndex := 5, descriptorIndex := 6, attributes := #[] }] 1057 2 #[77] #[])
  fields := #[]
  methods := #[k19m0]
  instanceTypes := #[]
  staticTypes := #[]
  resolved := Array.replicate 160 none
  statics := none }

def pool20 : Array CpInfo := pool [(8, .class_ 10), (1, u "java/util/SequencedCollection"), (15, .class_ 27), (0, u "java/lang/Object"), (0, .class_ 29), (0, u "java/util/Collection")] 27

/-- java/util/SequencedCollection -/
def k20 : Class := { plain "java/util/SequencedCollection" (some 0) with
  accessFlags := 1537
  interfaces := #[18]
  cf := some (fileOf pool20 8 #[] #[] 1537 26 #[28] #[])
  fields := #[]
  methods := #[]
  instanceTypes := #[]
  staticTypes := #[]
  resolved := Array.replicate 57 none
  statics := none }

def pool21 : Array CpInfo := pool [(8, .class_ 10), (1, u "java/util/List"), (92, .class_ 104), (0, u "java/lang/Object"), (15, .class_ 121), (0, u "java/util/SequencedCollection")] 129

/-- java/util/List -/
def k21 : Class := { plain "java/util/List" (some 0) with
  accessFlags := 1537
  interfaces := #[20]
  cf := some (fileOf pool21 8 #[] #[] 1537 103 #[120] #[])
  fields := #[]
  methods := #[]
  instanceTypes := #[]
  staticTypes := #[]
  resolved := Array.replicate 251 none
  statics := none }

def pool22 : Array CpInfo := pool [(2, .class_ 4), (1, u "java/util/AbstractCollection"), (0, u "<init>"), (0, u "()V"), (1, .class_ 10), (1, u "java/util/AbstractList"), (0, u "modCount"), (0, u "I"), (64, .class_ 78), (0, u "java/util/AbstractList$Itr"), (3, .class_ 83), (0, u "java/util/AbstractList$ListItr"), (9, .class_ 94), (0, u "java/util/AbstractList$RandomAccessSubList"), (3, .class_ 99), (0, u "java/util/AbstractList$SubList"), (33, .class_ 134), (0, u "java/util/List"), (73, .class_ 209), (0, u "java/util/AbstractList$SubList$1"), (0, .class_ 211), (0, u "java/util/AbstractList$RandomAccessSpliterator")] 6

def k22m0 : Method := { name := "<init>", desc := "()V", sig := { parameters := [], returnType := none }, accessFlags := 4, code := none }
/-- java/util/AbstractList -/
def k22 : Class := { plain "java/util/AbstractList" (some 19) with
  accessFlags := 1057
  interfaces := #[21]
  cf := some (fileOf pool22 8 #[.nestMembers #[93, 98, 208, 210, 82, 77]] #[{ accessFlags := 4, nameIndex := 5, descriptorIndex := 6, attributes := #[] }] 1057 2 #[133] #[{ accessFlags := 132, nameIndex := 11, descriptorIndex := 12, attributes := #[] }])
  fields := #[{ name := "modCount", type := .int, accessFlags := 132, slot := 0, constantValue := 0 }]
  methods := #[k22m0]
  instanceTypes := #[.int]
  staticTypes := #[]
  resolved := Array.replicate 218 none
  statics := none }

def pool23 : Array CpInfo := pool [(1, .class_ 2), (0, u "java/util/RandomAccess"), (0, .class_ 4), (0, u "java/lang/Object")] 2

/-- java/util/RandomAccess -/
def k23 : Class := { plain "java/util/RandomAccess" (some 0) with
  accessFlags := 1537
  interfaces := #[]
  cf := some (fileOf pool23 1 #[] #[] 1537 3 #[] #[])
  fields := #[]
  methods := #[]
  instanceTypes := #[]
  staticTypes := #[]
  resolved := Array.replicate 7 none
  statics := none }

def pool24 : Array CpInfo := pool [(2, .class_ 4), (1, u "java/util/AbstractList"), (0, u "<init>"), (0, u "()V"), (1, .class_ 10), (1, u "java/util/Collections"), (54, .class_ 66), (0, u "java/util/Collections$EmptyList"), (0, .class_ 68), (0, u "java/util/RandomAccess"), (0, .class_ 70), (0, u "java/io/Serializable"), (0, u "serialVersionUID"), (0, u "J")] 77

def k24m0 : Method := { name := "<init>", desc := "()V", sig := { parameters := [], returnType := none }, accessFlags := 2, code := none }
/-- java/util/Collections$EmptyList -/
def k24 : Class := { plain "java/util/Collections$EmptyList" (some 22) with
  accessFlags := 32
  interfaces := #[23, 2]
  cf := some (fileOf pool24 65 #[.nestHost 8] #[{ accessFlags := 2, nameIndex := 5, descriptorIndex := 6, attributes := #[] }] 32 2 #[67, 69] #[{ accessFlags := 26, nameIndex := 71, descriptorIndex := 72, attributes := #[] }])
  fields := #[{ name := "serialVersionUID", type := .long, accessFlags := 26, slot := 0, constantValue := 0 }]
  methods := #[k24m0]
  instanceTypes := #[.int]
  staticTypes := #[.long]
  resolved := Array.replicate 150 none
  statics := none }

def pool25 : Array CpInfo := pool [(2, .class_ 4), (1, u "java/lang/StackTraceElement"), (0, u "<init>"), (2, .class_ 10), (1, u "java/lang/Object"), (0, u "()V"), (2, u "format"), (0, u "B"), (2, u "classLoaderName"), (0, u "Ljava/lang/String;"), (2, u "moduleName"), (2, u "moduleVersion"), (12, u "declaringClass"), (4, u "methodName"), (2, u "fileName"), (2, u "lineNumber"), (0, u "I"), (65, u "declaringClassObject"), (0, u "Ljava/lang/Class;"), (33, .class_ 153), (1, u "java/lang/StackTraceElement$HashedModules"), (17, .class_ 172), (0, u "java/io/Serializable"), (0, u "NATIVE_METHOD"), (1, u "UNKNOWN_SOURCE"), (2, u "BUILTIN_CLASS_LOADER"), (1, u "JDK_NON_UPGRADEABLE_MODULE"), (1, u "serialVersionUID"), (0, u "J")] 51

def k25m0 : Method := { name := "<init>", desc := "()V", sig := { parameters := [], returnType := none }, accessFlags := 2, code := none }
/-- java/lang/StackTraceElement -/
def k25 : Class := { plain "java/lang/StackTraceElement" (some 0) with
  accessFlags := 49
  interfaces := #[2]
  cf := some (fileOf pool25 2 #[.nestMembers #[151]] #[{ accessFlags := 2, nameIndex := 5, descriptorIndex := 11, attributes := #[] }] 49 8 #[171] #[{ accessFlags := 26, nameIndex := 173, descriptorIndex := 19, attributes := #[] }, { accessFlags := 26, nameIndex := 175, descriptorIndex := 19, attributes := #[] }, { accessFlags := 130, nameIndex := 116, descriptorIndex := 117, attributes := #[] }, { accessFlags := 2, nameIndex := 18, descriptorIndex := 19, attributes := #[] }, { accessFlags := 2, nameIndex := 22, descriptorIndex := 19, attributes := #[] }, { accessFlags := 2, nameIndex := 25, descriptorIndex := 19, attributes := #[] }, { accessFlags := 2, nameIndex := 38, descriptorIndex := 19, attributes := #[] }, { accessFlags := 2, nameIndex := 43, descriptorIndex := 19, attributes := #[] }, { accessFlags := 2, nameIndex := 46, descriptorIndex := 19, attributes := #[] }, { accessFlags := 2, nameIndex := 49, descriptorIndex := 50, attributes := #[] }, { accessFlags := 2, nameIndex := 14, descriptorIndex := 15, attributes := #[] }, { accessFlags := 26, nameIndex := 178, descriptorIndex := 15, attributes := #[] }, { accessFlags := 26, nameIndex := 180, descriptorIndex := 15, attributes := #[] }, { accessFlags := 26, nameIndex := 182, descriptorIndex := 183, attributes := #[] }])
  fields := #[{ name := "NATIVE_METHOD", type := (.object "java/lang/String"), accessFlags := 26, slot := 0, constantValue := 0 }, { name := "UNKNOWN_SOURCE", type := (.object "java/lang/String"), accessFlags := 26, slot := 1, constantValue := 0 }, { name := "declaringClassObject", type := (.object "java/lang/Class"), accessFlags := 130, slot := 0, constantValue := 0 }, { name := "classLoaderName", type := (.object "java/lang/String"), accessFlags := 2, slot := 1, constantValue := 0 }, { name := "moduleName", type := (.object "java/lang/String"), accessFlags := 2, slot := 2, constantValue := 0 }, { name := "moduleVersion", type := (.object "java/lang/String"), accessFlags := 2, slot := 3, constantValue := 0 }, { name := "declaringClass", type := (.object "java/lang/String"), accessFlags := 2, slot := 4, constantValue := 0 }, { name := "methodName", type := (.object "java/lang/String"), accessFlags := 2, slot := 5, constantValue := 0 }, { name := "fileName", type := (.object "java/lang/String"), accessFlags := 2, slot := 6, constantValue := 0 }, { name := "lineNumber", type := .int, accessFlags := 2, slot := 7, constantValue := 0 }, { name := "format", type := .byte, accessFlags := 2, slot := 8, constantValue := 0 }, { name := "BUILTIN_CLASS_LOADER", type := .byte, accessFlags := 26, slot := 2, constantValue := 0 }, { name := "JDK_NON_UPGRADEABLE_MODULE", type := .byte, accessFlags := 26, slot := 3, constantValue := 0 }, { name := "serialVersionUID", type := .long, accessFlags := 26, slot := 4, constantValue := 0 }]
  methods := #[k25m0]
  instanceTypes := #[(.object "java/lang/Class"), (.object "java/lang/String"), (.object "java/lang/String"), (.object "java/lang/String"), (.object "java/lang/String"), (.object "java/lang/String"), (.object "java/lang/String"), .int, .byte]
  staticTypes := #[(.object "java/lang/String"), (.object "java/lang/String"), .byte, .byte, .long]
  resolved := Array.replicate 235 none
  statics := none }

def pool26 : Array CpInfo := pool [(1, u "java/lang/Cloneable"), (0, .class_ 1), (0, u "java/lang/Object"), (0, .class_ 3)] 3

/-- java/lang/Cloneable -/
def k26 : Class := { plain "java/lang/Cloneable" (some 0) with
  accessFlags := 1537
  interfaces := #[]
  cf := some (fileOf pool26 2 #[] #[] 1537 4 #[] #[])
  fields := #[]
  methods := #[]
  instanceTypes := #[]
  staticTypes := #[]
  resolved := Array.replicate 8 none
  statics := none }

/-- the primitive byte -/
def k27 : Class := { plain "byte" none with kind := .primitive 'B', accessFlags := 0x411 }
/-- [B -/
def k28 : Class := { plain "[B" (some 0) with kind := .array 27 .byte, interfaces := #[26, 2], accessFlags := 1041 }

/-- the primitive char -/
def k29 : Class := { plain "char" none with kind := .primitive 'C', accessFlags := 0x411 }
/-- [C -/
def k30 : Class := { plain "[C" (some 0) with kind := .array 29 .char, interfaces := #[26, 2], accessFlags := 1041 }

/-- the primitive int -/
def k31 : Class := { plain "int" none with kind := .primitive 'I', accessFlags := 0x411 }
/-- [I -/
def k32 : Class := { plain "[I" (some 0) with kind := .array 31 .int, interfaces := #[26, 2], accessFlags := 1041 }

/-- [Ljava/lang/Object; -/
def k33 : Class := { plain "[Ljava/lang/Object;" (some 0) with kind := .array 0 (.object "java/lang/Object"), interfaces := #[26, 2], accessFlags := 1041 }

/-- [Ljava/lang/StackTraceElement; -/
def k34 : Class := { plain "[Ljava/lang/StackTraceElement;" (some 0) with kind := .array 25 (.object "java/lang/StackTraceElement"), interfaces := #[26, 2], accessFlags := 1041 }

/-- [Ljava/lang/Throwable; -/
def k35 : Class := { plain "[Ljava/lang/Throwable;" (some 0) with kind := .array 9 (.object "java/lang/Throwable"), interfaces := #[26, 2], accessFlags := 1041 }

def heap : Heap := #[{ cls := 7, slots := #[.long 0, .int 1, .null, .int 0, .null, .int 0, .int 0], vm := .statics 7 },
  { cls := 9, slots := #[.long 0, .ref 4, .ref 5, .null, .null, .null, .null, .ref 6, .int 1], vm := .statics 9 },
  { cls := 14, slots := #[.null, .null, .null], vm := .statics 14 },
  { cls := 16, slots := #[.int 0, .int 0, .int 0, .int 0, .int 0, .int 0, .int 0, .int 0, .null, .null, .ref 5, .null], vm := .statics 16 },
  { cls := 34, slots := #[], vm := .none },
  { cls := 24, slots := #[.int 0], vm := .none },
  { cls := 35, slots := #[], vm := .none }]
def classes : Array Class := #[k0, k1, k2, k3, k4, k5, k6, k7, k8, k9, k10, k11, k12, k13, k14, k15, k16, k17, k18, k19, k20, k21, k22, k23, k24, k25, k26, k27, k28, k29, k30, k31, k32, k33, k34, k35]
def interned : List (Array UInt16 × Addr) := []
def slotsUsed : Nat := 32
def theMethod : MethodId := ⟨1, 1⟩
def args0 : Array Value := #[.int 3, .int 5, .int 9, .int 8]
def aboutOver (below : List Frame) : State where
  vm := { classes := classes, interned := interned.toArray }
  heap := heap
  slotsUsed := slotsUsed
  threads := #[{ frames := .invoking theMethod args0 :: below }]
def below0 : List Frame := [.native { method := ⟨0, 0⟩, args := #[] }]
def about1 : State := aboutOver below0
def p0 : Program := .bare "" "" ""
def e0 : Env := launch0.env 0 0 0
theorem w_frames : about1.frames = Frame.invoking theMethod args0 :: below0 := rfl
set_option maxRecDepth 65536 in
theorem w_args : argsFit about1.vm theMethod args0 = true := by decide +kernel
set_option maxRecDepth 65536 in
theorem w_heap : heapFits about1 = true := by decide +kernel
set_option maxRecDepth 65536 in
theorem w_runnable : about1.curStatus? = some .runnable := by decide +kernel
set_option maxRecDepth 65536 in
theorem w_alone : about1.alone = true := by decide +kernel
set_option maxRecDepth 65536 in
theorem w_named : about1.methodNamed? x = some theMethod := by decide +kernel
set_option maxRecDepth 65536 in
theorem w_hears : about1.hears theMethod below0 = true := by decide +kernel
set_option maxRecDepth 65536 in
theorem w_ripe : about1.ripe theMethod args0 below0 = true := by decide +kernel
theorem w_running : about1.status = .running := rfl
set_option maxRecDepth 65536 in
theorem w_room : about1.hasRoom e0.platform room_1 = true :=
  launch0.hasRoom_least _ room_1 (by decide +kernel) (by decide +kernel) (by decide +kernel) (by decide +kernel) (by decide +kernel) (by decide +kernel)
theorem allAtoms_all (ts : List Jvm.Cond) (a : Array Jvm.Value) (st : Jvm.State) : (allAtoms ts).before a st = ts.all (fun c => c.before a st) := by
  induction ts with
  | nil => rfl
  | cons c t ih =>
    show (Jvm.Cond.and c (allAtoms t)).before a st = _
    rw [Jvm.Cond.before_and, ih, List.all_cons]
def words1 : List Jvm.Cond := Jvm.Cond.code x code maxLocals ret :: tables_1
/-- a 'code' word, met by the world's own term for the bytes: nothing is compared byte by byte -/
theorem code_word {y : MethodName} {bytes : ByteArray} {mx : Nat} {rt : Option FieldType} {a : Array Value} {s : State} {m : MethodId} {meth : Method} {c : Code} (h1 : s.methodNamed? y = some m) (h2 : s.vm.method? m = some meth) (h3 : meth.code = some c) (h4 : c.code = bytes)
    (h5 : (c.maxLocals == mx && c.exceptionTable.isEmpty && decide (c.maxStack ≤ mostOperands) && decide (meth.sig.returnType = rt) && !meth.locks && decide (parseMethodDescriptor y.desc = some meth.sig)) = true) : (Jvm.Cond.code y bytes mx rt).before a s = true := by
  simp only [Bool.and_eq_true, beq_iff_eq, Bool.not_eq_true', decide_eq_true_eq] at h5
  obtain ⟨⟨⟨⟨⟨g1, g2⟩, g3⟩, g4⟩, g5⟩, g6⟩ := h5
  simp [Cond.before, Cond.holds, Cond.value, h1, h2, h3, h4, g1, g2, g3, g4, g5, g6]
def isCode : Jvm.Cond → Bool
  | .code _ _ _ _ => true
  | _ => false
theorem all_split {L : List Jvm.Cond} {P : Jvm.Cond → Bool} (h1 : L.all (fun c => isCode c || P c) = true) (h2 : ∀ c ∈ L.filter isCode, P c = true) : L.all P = true := by
  refine List.all_eq_true.mpr fun c hc => ?_
  have h := List.all_eq_true.mp h1 c hc
  rcases Bool.eq_false_or_eq_true (isCode c) with hi | hi
  · exact h2 c (List.mem_filter.mpr ⟨hc, hi⟩)
  · simpa [hi] using h
set_option maxRecDepth 65536 in
theorem w_c0 : (Jvm.Cond.code x code maxLocals ret).before args0 about1 = true := code_word (m := ⟨1, 1⟩) (meth := k1m1) (c := k1c1) (by decide +kernel) rfl rfl rfl (by decide +kernel)
set_option maxRecDepth 65536 in
theorem w_c1 : (Jvm.Cond.code ({ cls := "java/lang/String", name := "<init>", desc := "([C)V" } : Jvm.MethodName) jdk_42_method_3_code (2 : Nat) (Option.none : Option Jvm.ClassFile.FieldType)).before args0 about1 = true := code_word (m := ⟨7, 1⟩) (meth := k7m1) (c := k7c1) (by decide +kernel) rfl rfl rfl (by decide +kernel)
set_option maxRecDepth 65536 in
theorem w_c2 : (Jvm.Cond.code ({ cls := "java/lang/String", name := "<init>", desc := "([CIILjava/lang/Void;)V" } : Jvm.MethodName) jdk_42_method_149_code (6 : Nat) (Option.none : Option Jvm.ClassFile.FieldType)).before args0 about1 = true := code_word (m := ⟨7, 4⟩) (meth := k7m4) (c := k7c4) (by decide +kernel) rfl rfl rfl (by decide +kernel)
set_option maxRecDepth 65536 in
theorem w_c3 : (Jvm.Cond.code ({ cls := "java/lang/Object", name := "<init>", desc := "()V" } : Jvm.MethodName) object_method_1_code (1 : Nat) (Option.none : Option Jvm.ClassFile.FieldType)).before args0 about1 = true := code_word (m := ⟨0, 0⟩) (meth := k0m0) (c := k0c0) (by decide +kernel) rfl rfl rfl (by decide +kernel)
set_option maxRecDepth 65536 in
theorem w_c4 : (Jvm.Cond.code ({ cls := "java/lang/StringUTF16", name := "compress", desc := "([CII)[B" } : Jvm.MethodName) jdk_52_method_16_code (6 : Nat) (Option.some (Jvm.ClassFile.FieldType.array Jvm.ClassFile.FieldType.byte))).before args0 about1 = true := code_word (m := ⟨8, 2⟩) (meth := k8m2) (c := k8c2) (by decide +kernel) rfl rfl rfl (by decide +kernel)
set_option maxRecDepth 65536 in
theorem w_c5 : (Jvm.Cond.code ({ cls := "java/lang/StringUTF16", name := "compress", desc := "([CI[BII)I" } : Jvm.MethodName) jdk_52_method_21_code (7 : Nat) (Option.some Jvm.ClassFile.FieldType.int)).before args0 about1 = true := code_word (m := ⟨8, 3⟩) (meth := k8m3) (c := k8c3) (by decide +kernel) rfl rfl rfl (by decide +kernel)
set_option maxRecDepth 65536 in
theorem w_c6 : (Jvm.Cond.code ({ cls := "java/lang/StringUTF16", name := "coderFromArrayLen", desc := "([BI)B" } : Jvm.MethodName) jdk_52_method_15_code (2 : Nat) (Option.some Jvm.ClassFile.FieldType.byte)).before args0 about1 = true := code_word (m := ⟨8, 1⟩) (meth := k8m1) (c := k8c1) (by decide +kernel) rfl rfl rfl (by decide +kernel)
set_option maxRecDepth 65536 in
theorem w_c7 : (Jvm.Cond.code ({ cls := "com/example/wareline/wareline/Refusal", name := "tooLarge", desc := "(Ljava/lang/String;)Lcom/example/wareline/wareline/Refusal;" } : Jvm.MethodName) prog_17_method_4_code (1 : Nat) (Option.some (Jvm.ClassFile.FieldType.object "com/example/wareline/wareline/Refusal"))).before args0 about1 = true := code_word (m := ⟨12, 1⟩) (meth := k12m1) (c := k12c1) (by decide +kernel) rfl rfl rfl (by decide +kernel)
set_option maxRecDepth 65536 in
theorem w_c8 : (Jvm.Cond.code ({ cls := "com/example/wareline/wareline/Refusal", name := "<init>", desc := "(ILjava/lang/String;)V" } : Jvm.MethodName) prog_17_method_1_code (3 : Nat) (Option.none : Option Jvm.ClassFile.FieldType)).before args0 about1 = true := code_word (m := ⟨12, 0⟩) (meth := k12m0) (c := k12c0) (by decide +kernel) rfl rfl rfl (by decide +kernel)
set_option maxRecDepth 65536 in
theorem w_c9 : (Jvm.Cond.code ({ cls := "com/example/wareline/wareline/Failure", name := "<init>", desc := "(Ljava/lang/String;)V" } : Jvm.MethodName) prog_15_method_1_code (2 : Nat) (Option.none : Option Jvm.ClassFile.FieldType)).before args0 about1 = true := code_word (m := ⟨11, 0⟩) (meth := k11m0) (c := k11c0) (by decide +kernel) rfl rfl rfl (by decide +kernel)
set_option maxRecDepth 65536 in
theorem w_c10 : (Jvm.Cond.code ({ cls := "java/lang/Exception", name := "<init>", desc := "(Ljava/lang/String;)V" } : Jvm.MethodName) jdk_59_method_2_code (2 : Nat) (Option.none : Option Jvm.ClassFile.FieldType)).before args0 about1 = true := code_word (m := ⟨10, 1⟩) (meth := k10m1) (c := k10c1) (by decide +kernel) rfl rfl rfl (by decide +kernel)
set_option maxRecDepth 65536 in
theorem w_c11 : (Jvm.Cond.code ({ cls := "java/lang/Throwable", name := "<init>", desc := "(Ljava/lang/String;)V" } : Jvm.MethodName) jdk_78_method_2_code (2 : Nat) (Option.none : Option Jvm.ClassFile.FieldType)).before args0 about1 = true := code_word (m := ⟨9, 1⟩) (meth := k9m1) (c := k9c1) (by decide +kernel) rfl rfl rfl (by decide +kernel)
set_option maxRecDepth 65536 in
theorem w_c12 : (Jvm.Cond.code ({ cls := "java/lang/Throwable", name := "<init>", desc := "()V" } : Jvm.MethodName) jdk_78_method_1_code (1 : Nat) (Option.none : Option Jvm.ClassFile.FieldType)).before args0 about1 = true := code_word (m := ⟨9, 0⟩) (meth := k9m0) (c := k9c0) (by decide +kernel) rfl rfl rfl (by decide +kernel)
set_option maxRecDepth 65536 in
theorem w_c13 : (Jvm.Cond.code ({ cls := "java/lang/Throwable", name := "getMessage", desc := "()Ljava/lang/String;" } : Jvm.MethodName) jdk_78_method_6_code (1 : Nat) (Option.some (Jvm.ClassFile.FieldType.object "java/lang/String"))).before args0 about1 = true := code_word (m := ⟨9, 2⟩) (meth := k9m2) (c := k9c2) (by decide +kernel) rfl rfl rfl (by decide +kernel)
set_option maxRecDepth 65536 in
theorem w_c14 : (Jvm.Cond.code ({ cls := "java/lang/String", name := "length", desc := "()I" } : Jvm.MethodName) jdk_42_method_54_code (1 : Nat) (Option.some Jvm.ClassFile.FieldType.int)).before args0 about1 = true := code_word (m := ⟨7, 2⟩) (meth := k7m2) (c := k7c2) (by decide +kernel) rfl rfl rfl (by decide +kernel)
set_option maxRecDepth 65536 in
theorem w_c15 : (Jvm.Cond.code ({ cls := "java/lang/String", name := "coder", desc := "()B" } : Jvm.MethodName) jdk_42_method_152_code (1 : Nat) (Option.some Jvm.ClassFile.FieldType.byte)).before args0 about1 = true := code_word (m := ⟨7, 5⟩) (meth := k7m5) (c := k7c5) (by decide +kernel) rfl rfl rfl (by decide +kernel)
set_option maxRecDepth 65536 in
theorem w_c16 : (Jvm.Cond.code ({ cls := "java/lang/String", name := "equals", desc := "(Ljava/lang/Object;)Z" } : Jvm.MethodName) jdk_42_method_66_code (3 : Nat) (Option.some Jvm.ClassFile.FieldType.boolean)).before args0 about1 = true := code_word (m := ⟨7, 3⟩) (meth := k7m3) (c := k7c3) (by decide +kernel) rfl rfl rfl (by decide +kernel)
def codes1 : List Jvm.Cond := [Jvm.Cond.code x code maxLocals ret, Jvm.Cond.code ({ cls := "java/lang/String", name := "<init>", desc := "([C)V" } : Jvm.MethodName) jdk_42_method_3_code (2 : Nat) (Option.none : Option Jvm.ClassFile.FieldType), Jvm.Cond.code ({ cls := "java/lang/String", name := "<init>", desc := "([CIILjava/lang/Void;)V" } : Jvm.MethodName) jdk_42_method_149_code (6 : Nat) (Option.none : Option Jvm.ClassFile.FieldType), Jvm.Cond.code ({ cls := "java/lang/Object", name := "<init>", desc := "()V" } : Jvm.MethodName) object_method_1_code (1 : Nat) (Option.none : Option Jvm.ClassFile.FieldType), Jvm.Cond.code ({ cls := "java/lang/StringUTF16", name := "compress", desc := "([CII)[B" } : Jvm.MethodName) jdk_52_method_16_code (6 : Nat) (Option.some (Jvm.ClassFile.FieldType.array Jvm.ClassFile.FieldType.byte)), Jvm.Cond.code ({ cls := "java/lang/StringUTF16", name := "compress", desc := "([CI[BII)I" } : Jvm.MethodName) jdk_52_method_21_code (7 : Nat) (Option.some Jvm.ClassFile.FieldType.int), Jvm.Cond.code ({ cls := "java/lang/StringUTF16", name := "coderFromArrayLen", desc := "([BI)B" } : Jvm.MethodName) jdk_52_method_15_code (2 : Nat) (Option.some Jvm.ClassFile.FieldType.byte), Jvm.Cond.code ({ cls := "com/example/wareline/wareline/Refusal", name := "tooLarge", desc := "(Ljava/lang/String;)Lcom/example/wareline/wareline/Refusal;" } : Jvm.MethodName) prog_17_method_4_code (1 : Nat) (Option.some (Jvm.ClassFile.FieldType.object "com/example/wareline/wareline/Refusal")), Jvm.Cond.code ({ cls := "com/example/wareline/wareline/Refusal", name := "<init>", desc := "(ILjava/lang/String;)V" } : Jvm.MethodName) prog_17_method_1_code (3 : Nat) (Option.none : Option Jvm.ClassFile.FieldType), Jvm.Cond.code ({ cls := "com/example/wareline/wareline/Failure", name := "<init>", desc := "(Ljava/lang/String;)V" } : Jvm.MethodName) prog_15_method_1_code (2 : Nat) (Option.none : Option Jvm.ClassFile.FieldType), Jvm.Cond.code ({ cls := "java/lang/Exception", name := "<init>", desc := "(Ljava/lang/String;)V" } : Jvm.MethodName) jdk_59_method_2_code (2 : Nat) (Option.none : Option Jvm.ClassFile.FieldType), Jvm.Cond.code ({ cls := "java/lang/Throwable", name := "<init>", desc := "(Ljava/lang/String;)V" } : Jvm.MethodName) jdk_78_method_2_code (2 : Nat) (Option.none : Option Jvm.ClassFile.FieldType), Jvm.Cond.code ({ cls := "java/lang/Throwable", name := "<init>", desc := "()V" } : Jvm.MethodName) jdk_78_method_1_code (1 : Nat) (Option.none : Option Jvm.ClassFile.FieldType), Jvm.Cond.code ({ cls := "java/lang/Throwable", name := "getMessage", desc := "()Ljava/lang/String;" } : Jvm.MethodName) jdk_78_method_6_code (1 : Nat) (Option.some (Jvm.ClassFile.FieldType.object "java/lang/String")), Jvm.Cond.code ({ cls := "java/lang/String", name := "length", desc := "()I" } : Jvm.MethodName) jdk_42_method_54_code (1 : Nat) (Option.some Jvm.ClassFile.FieldType.int), Jvm.Cond.code ({ cls := "java/lang/String", name := "coder", desc := "()B" } : Jvm.MethodName) jdk_42_method_152_code (1 : Nat) (Option.some Jvm.ClassFile.FieldType.byte), Jvm.Cond.code ({ cls := "java/lang/String", name := "equals", desc := "(Ljava/lang/Object;)Z" } : Jvm.MethodName) jdk_42_method_66_code (3 : Nat) (Option.some Jvm.ClassFile.FieldType.boolean)]
set_option maxRecDepth 65536 in
theorem codes_eq : words1.filter isCode = codes1 := rfl
theorem w_codes : ∀ c ∈ words1.filter isCode, c.before args0 about1 = true := by
  rw [codes_eq]
  intro c hc
  simp only [codes1, List.mem_cons, List.not_mem_nil, or_false] at hc
  rcases hc with rfl | rfl | rfl | rfl | rfl | rfl | rfl | rfl | rfl | rfl | rfl | rfl | rfl | rfl | rfl | rfl | rfl
  · exact w_c0
  · exact w_c1
  · exact w_c2
  · exact w_c3
  · exact w_c4
  · exact w_c5
  · exact w_c6
  · exact w_c7
  · exact w_c8
  · exact w_c9
  · exact w_c10
  · exact w_c11
  · exact w_c12
  · exact w_c13
  · exact w_c14
  · exact w_c15
  · exact w_c16
set_option maxRecDepth 65536 in
theorem w_t1 : (words1.take 24).all (fun c => isCode c || c.before args0 about1) = true := by decide +kernel
set_option maxRecDepth 65536 in
theorem w_t2 : ((words1.drop 24).take 24).all (fun c => isCode c || c.before args0 about1) = true := by decide +kernel
set_option maxRecDepth 65536 in
theorem w_t3 : (((words1.drop 24).drop 24).take 24).all (fun c => isCode c || c.before args0 about1) = true := by decide +kernel
set_option maxRecDepth 65536 in
theorem w_t4 : ((((words1.drop 24).drop 24).drop 24).take 24).all (fun c => isCode c || c.before args0 about1) = true := by decide +kernel
set_option maxRecDepth 65536 in
theorem w_t5 : ((((words1.drop 24).drop 24).drop 24).drop 24).all (fun c => isCode c || c.before args0 about1) = true := by decide +kernel
theorem w_tables : (allAtoms (Jvm.Cond.code x code maxLocals ret :: tables_1)).before args0 about1 = true := by
  rw [allAtoms_all]
  show words1.all (fun c => c.before args0 about1) = true
  refine all_split ?_ w_codes
  rw [← List.take_append_drop 24 words1, List.all_append, w_t1, ← List.take_append_drop 24 (words1.drop 24), List.all_append, w_t2, ← List.take_append_drop 24 ((words1.drop 24).drop 24), List.all_append, w_t3, ← List.take_append_drop 24 (((words1.drop 24).drop 24).drop 24), List.all_append, w_t4, w_t5]
  rfl
set_option maxRecDepth 65536 in
theorem w_rest : rest_1_c.before args0 about1 = true := by decide +kernel
set_option maxRecDepth 65536 in
theorem w_case : (Jvm.Cond.and given_1 narrow_1).before args0 about1 = true := by decide +kernel
set_option maxRecDepth 65536 in
theorem w_consts : constsHeld consts_1 about1 := Jvm.Lit.constsHeldB_iff.mp (by decide +kernel)
theorem w_applies : (headSpec (Jvm.Cond.code x code maxLocals ret :: tables_1) room_1).applies x e0.platform about1 = true :=
  (Spec.applies_iff w_frames).mpr ⟨w_running, w_runnable, w_alone, w_named, w_hears, w_ripe, w_room, w_tables⟩
theorem atStart : AtStart classFile x code maxLocals ret World_1 tables_1 room_1 Calls_1 rest_1 Pre_1 launch0 p0 e0 about1 theMethod args0 below0 :=
  ⟨lists_1, trivial, launch0.admits_env _ _ _, launch0.least_env, fairChoices_fair.cas, fairChoices_fair.clock, w_frames, w_args, w_heap, w_applies, ⟨(by decide +kernel : framesKnown about1 = true), ⟨(by decide +kernel : tablesKnown about1 = true), ⟨w_consts, trivial⟩⟩⟩, w_rest, w_case⟩
end start1
theorem witness_1 : WitnessClaimed_1 := ⟨start1.p0, start1.e0, start1.about1, start1.theMethod, start1.args0, start1.below0, start1.atStart⟩
end Jvm.Pilot.@@N@@
